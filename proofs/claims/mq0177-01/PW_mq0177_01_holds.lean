import PyProof.Rows.All
import Wide.All
import OpenK.AllK
import Wide.FinOn
import PySem.Challenge.RW_mq0177_01
set_option Elab.async false

section
open PySem PySem.W PyProof.Rows
set_option Elab.async false
set_option maxRecDepth 100000
set_option maxHeartbeats 8000000
namespace MineQ
open_top hd for PySem.Challenge.rw_mq0177_01
end MineQ
end

section
set_option Elab.async false
set_option maxRecDepth 100000
set_option linter.unusedVariables false
namespace MineQ
open PySem PySem.Calls PyProof.Rows

/-- every object stays -/
abbrev Sub (h h' : Heap) : Prop := ∀ b o, h.get? b = some o → h'.get? b = some o
/-- every list and tuple stays -/
def SubQ (h h' : Heap) : Prop := ∀ b o xs n, h.get? b = some o → o.data = .seq xs n → h'.get? b = some o
theorem Sub.q {h h' : Heap} (x : Sub h h') : SubQ h h' := fun b o _ _ e _ => x b o e
theorem SubQ.refl (h : Heap) : SubQ h h := fun _ _ _ _ e _ => e
theorem SubQ.trans {a b c : Heap} (x : SubQ a b) (y : SubQ b c) : SubQ a c := fun p o xs n e d => y p o xs n (x p o xs n e d) d
theorem Sub.rfl' {h : Heap} : Sub h h := fun _ _ e => e
theorem Sub.trans {a b c : Heap} (x : Sub a b) (y : Sub b c) : Sub a c := fun p o e => y p o (x p o e)
theorem subq_ns {h h' : Heap} {L : Addr} {m : Str → Option Value} (hn : h.Ns L m) (hs : Heap.SameBut L h h') : SubQ h h' := by
  intro b o xs n e d
  refine hs.extBut b o ?_ e
  rintro rfl
  obtain ⟨o', es, ep, ho, hd, _⟩ := hn
  rw [ho] at e; cases e; rw [hd] at d; cases d
theorem subq_cell {h h' : Heap} {c : Addr} {v : Option Value} (hn : h.IsCell c v) (hs : Heap.SameBut c h h') : SubQ h h' := by
  intro b o xs n e d
  refine hs.extBut b o ?_ e
  rintro rfl
  obtain ⟨o', ho, hd⟩ := hn
  rw [ho] at e; cases e; rw [hd] at d; cases d

abbrev VP := Value → Heap → Prop
def Mono (P : VP) : Prop := ∀ v h h', SubQ h h' → P v h → P v h'
def isI (n : Int) : VP := fun v _ => ∃ t, v = .int n t
def isS (x : Str) : VP := fun v _ => ∃ t, v = .str x t
def isB (b : Bool) : VP := fun v _ => v = .bool b
def isV (v₀ : Value) : VP := fun v _ => v = v₀
def Heap.PT (h : Heap) (a : Addr) (items : Array Value) : Prop := ∃ n, h.get? a = some { cls := .type "tuple", data := .seq items n }
def isL {α : Type} (R : α → VP) (xs : List α) : VP := fun v h => ∃ a vs, v = .ref a ∧ h.PlainList a vs ∧ Paired (fun u x => R x u h) vs.toList xs
def isT {α : Type} (R : α → VP) (xs : List α) : VP := fun v h => ∃ a vs, v = .ref a ∧ Heap.PT h a vs ∧ Paired (fun u x => R x u h) vs.toList xs
def isP2 {α β : Type} (R : α → VP) (S : β → VP) (p : α × β) : VP := fun v h => ∃ a v1 v2, v = .ref a ∧ Heap.PT h a #[v1, v2] ∧ R p.1 v1 h ∧ S p.2 v2 h

theorem mono_I (n : Int) : Mono (isI n) := fun _ _ _ _ x => x
theorem mono_S (x : Str) : Mono (isS x) := fun _ _ _ _ x => x
theorem mono_B (b : Bool) : Mono (isB b) := fun _ _ _ _ x => x
theorem mono_V (b : Value) : Mono (isV b) := fun _ _ _ _ x => x
theorem plain_q {h h' : Heap} (s : SubQ h h') {a : Addr} {vs : Array Value} (x : h.PlainList a vs) : h'.PlainList a vs := let ⟨n, e⟩ := x; ⟨n, s a _ _ _ e rfl⟩
theorem pt_q {h h' : Heap} (s : SubQ h h') {a : Addr} {vs : Array Value} (x : Heap.PT h a vs) : Heap.PT h' a vs := let ⟨n, e⟩ := x; ⟨n, s a _ _ _ e rfl⟩
theorem mono_L {α : Type} {R : α → VP} (hR : ∀ x, Mono (R x)) (xs : List α) : Mono (isL R xs) := by
  rintro v h h' s ⟨a, vs, rfl, hl, hp⟩
  exact ⟨a, vs, rfl, plain_q s hl, hp.mono fun u x r => hR x u h h' s r⟩
theorem mono_T {α : Type} {R : α → VP} (hR : ∀ x, Mono (R x)) (xs : List α) : Mono (isT R xs) := by
  rintro v h h' s ⟨a, vs, rfl, hl, hp⟩
  exact ⟨a, vs, rfl, pt_q s hl, hp.mono fun u x r => hR x u h h' s r⟩
theorem mono_P2 {α β : Type} {R : α → VP} {S : β → VP} (hR : ∀ x, Mono (R x)) (hS : ∀ x, Mono (S x)) (p : α × β) : Mono (isP2 R S p) := by
  rintro v h h' s ⟨a, v1, v2, rfl, hl, h1, h2⟩
  exact ⟨a, v1, v2, rfl, pt_q s hl, hR _ _ _ _ s h1, hS _ _ _ _ s h2⟩

theorem ksub {s s' : Shared} (k : Keeps s s') : Sub s.heap s'.heap := by obtain ⟨h, tk, rfl, x⟩ := k; exact x
theorem krefl {s : Shared} : Keeps s s := ⟨s.heap, s.toks, rfl, fun _ _ e => e⟩
theorem ktr {a b c : Shared} (x : Keeps a b) (y : Keeps b c) : Keeps a c := by
  obtain ⟨h, t, rfl, k⟩ := x
  obtain ⟨h', t', rfl, k'⟩ := y
  exact ⟨h', t', rfl, fun p o e => k' p o (k p o e)⟩
theorem kmk {s : Shared} {h : Heap} {tk : Nat} (k : Sub s.heap h) : Keeps s { s with heap := h, toks := tk } := ⟨h, tk, rfl, k⟩
theorem kpush {s : Shared} (o : Obj) {tk : Nat} : Keeps s { s with heap := s.heap.push o, toks := tk } := kmk fun _ _ e => Heap.get?_push_of_some _ e

section
variable {prog : Program} {w : World} {A : Around} {env : Env} {H : Heap} {s : Shared}

/-- the tree gives a value of P; all that stood stays -/
def Gv (prog : Program) (w : World) (A : Around) {α : Type} (t : Sem α) (P : α → Heap → Prop) (s : Shared) : Prop :=
  ∀ E, wpAny (model prog w) A t (fun v s' => P v s'.heap ∧ Keeps s s') E s

theorem Gv.mono {α : Type} {t : Sem α} {P P' : α → Heap → Prop} (g : Gv prog w A t P s) (h : ∀ v h', P v h' → P' v h') : Gv prog w A t P' s :=
  fun E => wpAny_mono (g E) (fun v s' x => ⟨h v _ x.1, x.2⟩) fun _ _ e => e
theorem Gv.use {α : Type} {t : Sem α} {P : α → Heap → Prop} {Q : α → Shared → Prop} {E : Value → Shared → Prop} (g : Gv prog w A t P s) (h : ∀ v s', P v s'.heap → Keeps s s' → Q v s') : wpAny (model prog w) A t Q E s :=
  wpAny_mono (g E) (fun v s' x => h v s' x.1 x.2) fun _ _ e => e
theorem Gv.of {α : Type} {t : Sem α} {P : α → Heap → Prop} (g : ∀ E, wpAny (model prog w) A t (fun v s' => P v s'.heap ∧ Keeps s s') E s) : Gv prog w A t P s := g
theorem Gv.pure {α : Type} {a : α} {P : α → Heap → Prop} (h : P a s.heap) : Gv prog w A (Pure.pure a : Sem α) P s := fun _ => wpAny_pure ⟨h, krefl⟩
theorem Gv.bind {α β : Type} {t : Sem α} {f : α → Sem β} {P : α → Heap → Prop} {R : β → Heap → Prop} (g : Gv prog w A t P s) (h : ∀ v s', Keeps s s' → P v s'.heap → Gv prog w A (f v) R s') : Gv prog w A (t >>= f) R s :=
  fun E => wpAny_bind (g.use fun v s' p k => wpAny_mono (h v s' k p E) (fun _ _ x => ⟨x.1, ktr k x.2⟩) fun _ _ e => e)

/-- the expression gives a value of P from every heap above H -/
def Ev (prog : Program) (w : World) (A : Around) (env : Env) (H : Heap) (e : Expr) (P : VP) : Prop := ∀ s, Sub H s.heap → Gv prog w A (eval e env) P s
/-- the test comes out as b -/
def Et (prog : Program) (w : World) (A : Around) (env : Env) (H : Heap) (e : Expr) (b : Bool) : Prop := ∀ s, Sub H s.heap → Gv prog w A (isTrue e env (eval e env)) (fun x _ => x = b) s

theorem Ev.imp {e : Expr} {P P' : VP} (x : Ev prog w A env H e P) (h : ∀ v h', Sub H h' → P v h' → P' v h') : Ev prog w A env H e P' :=
  fun s hs E => wpAny_mono (x s hs E) (fun v s' y => ⟨h v _ (Sub.trans hs (ksub y.2)) y.1, y.2⟩) fun _ _ e => e
theorem Ev.up {e : Expr} {P : VP} {H' : Heap} (x : Ev prog w A env H e P) (h : Sub H H') : Ev prog w A env H' e P := fun s hs => x s (Sub.trans h hs)

/-- what a name is seen as -/
inductive Sees (env : Env) (h : Heap) (x : Str) (v : Value) : Prop
  | loc (m : Str → Option Value) (hk : env.kindOf x = some .local) (hn : h.Ns env.locals m) (hv : m x = some v)
  | cell (c : Addr) (hk : env.kindOf x = some .cell) (hc : env.cells.lookup x = some c) (hv : h.IsCell c (some v))
  | free (c : Addr) (hk : env.kindOf x = some .free) (hc : env.cells.lookup x = some c) (hv : h.IsCell c (some v)) (hn : (x == ("__classdict__" : Str)) = false)
  | glob (m : Str → Option Value) (hk : env.kindOf x = some .globalImplicit) (hn : h.Ns env.globals m) (hv : m x = some v)
  | built (m m' : Str → Option Value) (hk : env.kindOf x = some .globalImplicit) (hn : h.Ns env.globals m) (hv : m x = none) (hn' : h.Ns env.builtins m') (hv' : m' x = some v)

theorem Sees.up {h h' : Heap} {x : Str} {v : Value} (k : Sub h h') : Sees env h x v → Sees env h' x v
  | .loc m a b c => .loc m a (b.keeps k) c
  | .cell m a b c => .cell m a b (c.keeps k)
  | .free m a b c d => .free m a b (c.keeps k) d
  | .glob m a b c => .glob m a (b.keeps k) c
  | .built m m' a b c d e => .built m m' a (b.keeps k) c (d.keeps k) e

theorem wpAny_loadGlobal_g {M : Model} {E : Value → Shared → Prop} {x : Str} {m : Str → Option Value} {v : Value} {Q : Value → Shared → Prop} (hn : s.heap.Ns env.globals m) (hv : m x = some v) (h : Q v s) : wpAny M A (loadGlobal env x) Q E s := by
  unfold loadGlobal
  refine wpAny_bind (wpAny_nsGet hn ?_)
  rw [hv]; exact wpAny_pure h
theorem wpAny_loadGlobal_b {M : Model} {E : Value → Shared → Prop} {x : Str} {m m' : Str → Option Value} {v : Value} {Q : Value → Shared → Prop} (hn : s.heap.Ns env.globals m) (hv : m x = none) (hn' : s.heap.Ns env.builtins m') (hv' : m' x = some v) (h : Q v s) : wpAny M A (loadGlobal env x) Q E s := by
  unfold loadGlobal
  refine wpAny_bind (wpAny_nsGet hn ?_)
  rw [hv]
  refine wpAny_bind (wpAny_nsGet hn' ?_)
  rw [hv']; exact wpAny_pure h

theorem Sees.load {M : Model} {E : Value → Shared → Prop} {x : Str} {v : Value} {Q : Value → Shared → Prop} (hf : env.scope.kind = .function) (y : Sees env s.heap x v) (h : Q v s) : wpAny M A (loadName env x) Q E s := by
  cases y with
  | loc m hk hn hv => exact wpAny_loadName_local hf hk hn hv h
  | cell c hk hc hv => exact wpAny_loadName_cell hf hk hc hv h
  | free c hk hc hv hn => exact wpAny_loadName_free hf hk hc hv h hn
  | glob m hk hn hv => rw [loadName_read hf hk]; exact wpAny_loadGlobal_g hn hv h
  | built m m' hk hn hv hn' hv' => rw [loadName_read hf hk]; exact wpAny_loadGlobal_b hn hv hn' hv' h

theorem ev_name {x : Str} {pos : Pos} {v : Value} {P : VP} (hf : env.scope.kind = .function) (y : Sees env H x v) (hP : ∀ h, Sub H h → P v h) (hd : (x == ("__debug__" : Str)) = false := by decide) :
    Ev prog w A env H (.Name x pos) P := fun s hs _ => wpAny_Name ((y.up hs).load hf ⟨hP _ hs, krefl⟩) hd
theorem ev_int {i : Int} {k : Nat} {pos : Pos} : Ev prog w A env H (.Constant (.int i) k pos) (isI i) := fun s _ _ => wpAny_Constant_int ⟨⟨_, rfl⟩, kmk fun _ _ e => e⟩
theorem ev_str {x : Str} {k : Nat} {pos : Pos} : Ev prog w A env H (.Constant (.str x) k pos) (isS x) := fun s _ _ => wpAny_Constant_str ⟨⟨_, rfl⟩, kmk fun _ _ e => e⟩
theorem ev_bool {b : Bool} {k : Nat} {pos : Pos} : Ev prog w A env H (.Constant (.bool b) k pos) (isB b) := fun s _ _ => wpAny_Constant_bool ⟨rfl, krefl⟩

theorem ev_bin {l r : Expr} {op : Operator} {pos : Pos} {P P' R : VP} (hP : Mono P) (hl : Ev prog w A env H l P) (hr : Ev prog w A env H r P')
    (hop : ∀ a b s, Sub H s.heap → P a s.heap → P' b s.heap → Gv prog w A (binaryOp op a b) R s) : Ev prog w A env H (.BinOp l op r pos) R :=
  fun s hs E => wpAny_BinOp ((hl s hs).use fun a s₁ ha k₁ => (hr s₁ (Sub.trans hs (ksub k₁))).use fun b s₂ hb k₂ =>
    wpAny_mono (hop a b s₂ (Sub.trans hs (ksub (ktr k₁ k₂))) (hP _ _ _ (ksub k₂).q ha) hb E) (fun _ _ x => ⟨x.1, ktr (ktr k₁ k₂) x.2⟩) fun _ _ e => e)

theorem ev_cmp {l r : Expr} {op : CmpOp} {pos : Pos} {P P' R : VP} (hP : Mono P) (hl : Ev prog w A env H l P) (hr : Ev prog w A env H r P')
    (hop : ∀ a b s, Sub H s.heap → P a s.heap → P' b s.heap → Gv prog w A (compareOp op a b) R s) (hm : behindInMarks op r = false := by rfl) : Ev prog w A env H (.Compare l [op] [r] pos) R :=
  fun s hs E => wpAny_Compare1 ((hl s hs).use fun a s₁ ha k₁ => (hr s₁ (Sub.trans hs (ksub k₁))).use fun b s₂ hb k₂ =>
    wpAny_mono (hop a b s₂ (Sub.trans hs (ksub (ktr k₁ k₂))) (hP _ _ _ (ksub k₂).q ha) hb E) (fun _ _ x => ⟨x.1, ktr (ktr k₁ k₂) x.2⟩) fun _ _ e => e) hm
theorem et_cmp {l r : Expr} {op : CmpOp} {pos : Pos} {P P' : VP} {b : Bool} (hP : Mono P) (hl : Ev prog w A env H l P) (hr : Ev prog w A env H r P')
    (hop : ∀ x y s, Sub H s.heap → P x s.heap → P' y s.heap → Gv prog w A (compareOp op x y) (isB b) s) (hm : behindInMarks op r = false := by rfl) : Et prog w A env H (.Compare l [op] [r] pos) b :=
  fun s hs E => wpAny_isTrue_Compare1 ((hl s hs).use fun a s₁ ha k₁ => (hr s₁ (Sub.trans hs (ksub k₁))).use fun b s₂ hb k₂ =>
    (hop a b s₂ (Sub.trans hs (ksub (ktr k₁ k₂))) (hP _ _ _ (ksub k₂).q ha) hb).use fun v s₃ hv k₃ => by
      cases hv; exact wpAny_truthy_bool ⟨rfl, ktr (ktr k₁ k₂) k₃⟩) hm
end
end MineQ
end

section
set_option Elab.async false
set_option maxRecDepth 100000
set_option linter.unusedVariables false
namespace MineQ
open PySem PySem.Calls PyProof.Rows

theorem Paired.get {α β : Type} {F : α → β → Prop} : ∀ {l₁ : List α} {l₂ : List β}, Paired F l₁ l₂ → ∀ {i : Nat} {b : β}, l₂[i]? = some b → ∃ a, l₁[i]? = some a ∧ F a b
  | _, _, .nil, i, b, h => by simp at h
  | _, _, .cons hf t, 0, b, h => by simp at h; subst h; exact ⟨_, rfl, hf⟩
  | _, _, .cons hf t, i + 1, b, h => by simp at h; obtain ⟨a, e, f⟩ := Paired.get t h; exact ⟨a, by simpa using e, f⟩
theorem Paired.get' {α β : Type} {F : α → β → Prop} : ∀ {l₁ : List α} {l₂ : List β}, Paired F l₁ l₂ → ∀ {i : Nat} {a : α}, l₁[i]? = some a → ∃ b, l₂[i]? = some b ∧ F a b
  | _, _, .nil, i, b, h => by simp at h
  | _, _, .cons hf t, 0, b, h => by simp at h; subst h; exact ⟨_, rfl, hf⟩
  | _, _, .cons hf t, i + 1, b, h => by simp at h; obtain ⟨a, e, f⟩ := Paired.get' t h; exact ⟨a, by simpa using e, f⟩
theorem Paired.app {α β : Type} {F : α → β → Prop} : ∀ {l₁ : List α} {l₂ : List β} {m₁ : List α} {m₂ : List β}, Paired F l₁ l₂ → Paired F m₁ m₂ → Paired F (l₁ ++ m₁) (l₂ ++ m₂)
  | _, _, _, _, .nil, h => h
  | _, _, _, _, .cons hf t, h => .cons hf (Paired.app t h)
theorem Paired.pick {α β : Type} {F : α → β → Prop} {l₁ : List α} {l₂ : List β} (h : Paired F l₁ l₂) : ∀ is : List Nat, Paired F (is.filterMap (l₁[·]?)) (is.filterMap (l₂[·]?))
  | [] => .nil
  | i :: r => by
    have ih := Paired.pick h r
    simp only [List.filterMap_cons]
    cases e : l₁[i]? with
    | none =>
      have : l₂[i]? = none := by
        cases e' : l₂[i]? with
        | none => rfl
        | some b => obtain ⟨a, ea, _⟩ := Paired.get h e'; rw [e] at ea; cases ea
      simpa only [e, this] using ih
    | some a =>
      obtain ⟨b, eb, f⟩ := Paired.get' h e
      simpa only [e, eb] using Paired.cons f ih
theorem plist_size {α : Type} {F : Value → α → Prop} {vs : Array Value} {xs : List α} (h : Paired F vs.toList xs) : vs.size = xs.length := by
  have := Paired.length h; simpa using this

section
variable {prog : Program} {w : World} {A : Around} {env : Env} {H : Heap} {s : Shared}

/-- Ev, and the value is new -/
def EvF (prog : Program) (w : World) (A : Around) (env : Env) (H : Heap) (e : Expr) (P : VP) : Prop :=
  ∀ s, Sub H s.heap → Gv prog w A (eval e env) (fun v h => P v h ∧ ∀ a, v = .ref a → s.heap.get? a = none) s
theorem EvF.ev {e : Expr} {P : VP} (x : EvF prog w A env H e P) : Ev prog w A env H e P := fun s hs => (x s hs).mono fun _ _ h => h.1
theorem EvF.imp {e : Expr} {P P' : VP} (x : EvF prog w A env H e P) (h : ∀ v h', P v h' → P' v h') : EvF prog w A env H e P' := fun s hs => (x s hs).mono fun _ _ y => ⟨h _ _ y.1, y.2⟩
theorem fresh_size {h : Heap} : h.get? h.objs.size = none := Heap.get?_none_of_le (Nat.le_refl _)
theorem fresh_le {h : Heap} {a : Addr} (k : h.objs.size ≤ a) : h.get? a = none := Heap.get?_none_of_le k
theorem sub_none {h h' : Heap} (k : Sub h h') {a : Addr} (e : h'.get? a = none) : h.get? a = none := by
  cases e' : h.get? a with
  | none => rfl
  | some o => rw [k a o e'] at e; cases e

theorem g_add {a b : Int} {t u : Tok} : Gv prog w A (binaryOp .Add (.int a t) (.int b u)) (isI (a + b)) s := fun _ => PyProof.Rows.add_int ⟨⟨_, rfl⟩, kmk fun _ _ e => e⟩
theorem g_sub {a b : Int} {t u : Tok} : Gv prog w A (binaryOp .Sub (.int a t) (.int b u)) (isI (a - b)) s := fun _ => PyProof.Rows.sub_int ⟨⟨_, rfl⟩, kmk fun _ _ e => e⟩
theorem g_mul {a b : Int} {t u : Tok} (hm : IntMulOk a b) : Gv prog w A (binaryOp .Mult (.int a t) (.int b u)) (isI (a * b)) s := fun _ => PyProof.Rows.mul_int ⟨⟨_, rfl⟩, kmk fun _ _ e => e⟩ hm
theorem g_mod {a b : Int} {t u : Tok} (hb : b ≠ 0) : Gv prog w A (binaryOp .Mod (.int a t) (.int b u)) (isI (a.fmod b)) s := fun _ => PyProof.Rows.mod_int hb ⟨⟨_, rfl⟩, kmk fun _ _ e => e⟩
theorem g_div {a b : Int} {t u : Tok} (hb : b ≠ 0) (hs : b.natAbs < 1073741824) : Gv prog w A (binaryOp .FloorDiv (.int a t) (.int b u)) (isI (a.fdiv b)) s :=
  fun _ => PyProof.Rows.floordiv_int hb ⟨⟨_, rfl⟩, kmk fun _ _ e => e⟩ (Or.inl (PyProof.noPylong_small hs))
theorem g_and {a b : Int} {t u : Tok} : Gv prog w A (binaryOp .BitAnd (.int a t) (.int b u)) (isI (Builtin.bitAnd a b)) s := fun _ => PyProof.Rows.and_int ⟨⟨_, rfl⟩, kmk fun _ _ e => e⟩
theorem g_pow {a n : Int} {t u : Tok} (hn : 0 ≤ n) (hn2 : n ≤ 1000000) (ha : a.natAbs < 2 ^ 64) : Gv prog w A (binaryOp .Pow (.int a t) (.int n u)) (isI (a ^ n.toNat)) s := fun _ => PyProof.Rows.pow_int_small hn hn2 ha ⟨⟨_, rfl⟩, kmk fun _ _ e => e⟩
theorem g_eq {a b : Int} {t u : Tok} : Gv prog w A (compareOp .Eq (.int a t) (.int b u)) (isB (a == b)) s := fun _ => PyProof.Rows.eq_int ⟨rfl, krefl⟩
theorem g_ne {a b : Int} {t u : Tok} : Gv prog w A (compareOp .NotEq (.int a t) (.int b u)) (isB (a != b)) s := fun _ => PyProof.Rows.ne_int ⟨rfl, krefl⟩
theorem g_gt {a b : Int} {t u : Tok} : Gv prog w A (compareOp .Gt (.int a t) (.int b u)) (isB (decide (b < a))) s := fun _ => PyProof.Rows.gt_int ⟨rfl, krefl⟩

section
variable {l r : Expr} {pos : Pos} {a b : Int}
theorem ev_add (hl : Ev prog w A env H l (isI a)) (hr : Ev prog w A env H r (isI b)) : Ev prog w A env H (.BinOp l .Add r pos) (isI (a + b)) := ev_bin (mono_I _) hl hr (by rintro _ _ s _ ⟨t, rfl⟩ ⟨u, rfl⟩; exact g_add)
theorem ev_sub (hl : Ev prog w A env H l (isI a)) (hr : Ev prog w A env H r (isI b)) : Ev prog w A env H (.BinOp l .Sub r pos) (isI (a - b)) := ev_bin (mono_I _) hl hr (by rintro _ _ s _ ⟨t, rfl⟩ ⟨u, rfl⟩; exact g_sub)
theorem ev_mul (hm : IntMulOk a b) (hl : Ev prog w A env H l (isI a)) (hr : Ev prog w A env H r (isI b)) : Ev prog w A env H (.BinOp l .Mult r pos) (isI (a * b)) := ev_bin (mono_I _) hl hr (by rintro _ _ s _ ⟨t, rfl⟩ ⟨u, rfl⟩; exact g_mul hm)
theorem ev_mod (hb : b ≠ 0) (hl : Ev prog w A env H l (isI a)) (hr : Ev prog w A env H r (isI b)) : Ev prog w A env H (.BinOp l .Mod r pos) (isI (a.fmod b)) := ev_bin (mono_I _) hl hr (by rintro _ _ s _ ⟨t, rfl⟩ ⟨u, rfl⟩; exact g_mod hb)
theorem ev_div (hb : b ≠ 0) (hs : b.natAbs < 1073741824) (hl : Ev prog w A env H l (isI a)) (hr : Ev prog w A env H r (isI b)) : Ev prog w A env H (.BinOp l .FloorDiv r pos) (isI (a.fdiv b)) := ev_bin (mono_I _) hl hr (by rintro _ _ s _ ⟨t, rfl⟩ ⟨u, rfl⟩; exact g_div hb hs)
theorem ev_and (hl : Ev prog w A env H l (isI a)) (hr : Ev prog w A env H r (isI b)) : Ev prog w A env H (.BinOp l .BitAnd r pos) (isI (Builtin.bitAnd a b)) := ev_bin (mono_I _) hl hr (by rintro _ _ s _ ⟨t, rfl⟩ ⟨u, rfl⟩; exact g_and)
theorem ev_pow (hn : 0 ≤ b) (hn2 : b ≤ 1000000) (ha : a.natAbs < 2 ^ 64) (hl : Ev prog w A env H l (isI a)) (hr : Ev prog w A env H r (isI b)) : Ev prog w A env H (.BinOp l .Pow r pos) (isI (a ^ b.toNat)) := ev_bin (mono_I _) hl hr (by rintro _ _ s _ ⟨t, rfl⟩ ⟨u, rfl⟩; exact g_pow hn hn2 ha)
theorem et_eq (hl : Ev prog w A env H l (isI a)) (hr : Ev prog w A env H r (isI b)) (hm : behindInMarks .Eq r = false := by rfl) : Et prog w A env H (.Compare l [.Eq] [r] pos) (a == b) := et_cmp (mono_I _) hl hr (by rintro _ _ s _ ⟨t, rfl⟩ ⟨u, rfl⟩; exact g_eq) hm
theorem et_ne (hl : Ev prog w A env H l (isI a)) (hr : Ev prog w A env H r (isI b)) (hm : behindInMarks .NotEq r = false := by rfl) : Et prog w A env H (.Compare l [.NotEq] [r] pos) (a != b) := et_cmp (mono_I _) hl hr (by rintro _ _ s _ ⟨t, rfl⟩ ⟨u, rfl⟩; exact g_ne) hm
theorem et_gt (hl : Ev prog w A env H l (isI a)) (hr : Ev prog w A env H r (isI b)) (hm : behindInMarks .Gt r = false := by rfl) : Et prog w A env H (.Compare l [.Gt] [r] pos) (decide (b < a)) := et_cmp (mono_I _) hl hr (by rintro _ _ s _ ⟨t, rfl⟩ ⟨u, rfl⟩; exact g_gt) hm
end

theorem ev_ifexp {t b o : Expr} {pos : Pos} {c : Bool} {P : VP} (ht : Et prog w A env H t c) (hb : c = true → Ev prog w A env H b P) (ho : c = false → Ev prog w A env H o P) : Ev prog w A env H (.IfExp t b o pos) P :=
  fun s hs E => wpAny_IfExp ((ht s hs).use fun x s₁ hx k => by
    subst hx
    cases x with
    | true => exact wpAny_mono (hb rfl s₁ (Sub.trans hs (ksub k)) E) (fun _ _ y => ⟨y.1, ktr k y.2⟩) fun _ _ e => e
    | false => exact wpAny_mono (ho rfl s₁ (Sub.trans hs (ksub k)) E) (fun _ _ y => ⟨y.1, ktr k y.2⟩) fun _ _ e => e)

/-- a list's items, written -/
def Es (prog : Program) (w : World) (A : Around) (env : Env) (H : Heap) (pos : Pos) (es : List Expr) (P : List Value → Heap → Prop) : Prop :=
  ∀ s, Sub H s.heap → Gv prog w A (spliced (backTo pos (starEach es env))) P s
theorem es_nil {pos : Pos} {P : List Value → Heap → Prop} (h : ∀ h, Sub H h → P [] h) : Es prog w A env H pos [] P := fun s hs _ => wpAny_items_nil ⟨h _ hs, krefl⟩
theorem es_cons {pos : Pos} {e : Expr} {es : List Expr} {P : VP} {R R' : List Value → Heap → Prop} (hP : Mono P) (he : Ev prog w A env H e P) (hr : Es prog w A env H pos es R)
    (hR : ∀ v vs h, Sub H h → P v h → R vs h → R' (v :: vs) h) (hst : starEach (e :: es) env = (false, eval e env) :: starEach es env := by rfl) : Es prog w A env H pos (e :: es) R' := fun s hs E => by
  show wpAny _ _ (spliced (backTo pos (starEach (e :: es) env))) _ _ _
  rw [hst]
  exact spliced_cons ((he s hs).use fun v s₁ hv k₁ => (hr s₁ (Sub.trans hs (ksub k₁))).use fun vs s₂ hvs k₂ => ⟨hR _ _ _ (Sub.trans hs (ksub (ktr k₁ k₂))) (hP _ _ _ (ksub k₂).q hv) hvs, ktr k₁ k₂⟩)

theorem evf_list {es : List Expr} {pos : Pos} {α : Type} {R : α → VP} {xs : List α} (hR : ∀ x, Mono (R x)) (h : Es prog w A env H pos es fun vs h => Paired (fun u x => R x u h) vs xs) (hsz : xs.length ≤ 1000) :
    EvF prog w A env H (.List es pos) (isL R xs) := fun s hs E => by
  refine wpAny_List_spliced ((h s hs).use fun vs s₁ hv k => ⟨?_, ⟨⟨_, vs.toArray, rfl, ⟨_, Heap.get?_push_size _ rfl⟩, ?_⟩, ?_⟩, ktr k (kpush _)⟩)
  · have := Paired.length hv; rw [this]; exact Nat.le_trans hsz (by decide)
  · simpa using hv.mono fun u x r => hR x u _ _ (Sub.q fun _ _ e => Heap.get?_push_of_some _ e) r
  · rintro a e; cases e; exact sub_none (ksub k) fresh_size
theorem evf_tuple {es : List Expr} {k : Nat} {pos : Pos} {α : Type} {R : α → VP} {xs : List α} (hR : ∀ x, Mono (R x)) (h : Es prog w A env H pos es fun vs h => Paired (fun u x => R x u h) vs xs) (hsz : xs.length ≤ 1000) :
    EvF prog w A env H (.Tuple es k pos) (isT R xs) := fun s hs E => by
  refine wpAny_Tuple_spliced ((h s hs).use fun vs s₁ hv k => ⟨?_, ⟨⟨_, vs.toArray, rfl, ⟨_, Heap.get?_push_size _ rfl⟩, ?_⟩, ?_⟩, ktr k (kpush _)⟩)
  · have := Paired.length hv; rw [this]; exact Nat.le_trans hsz (by decide)
  · simpa using hv.mono fun u x r => hR x u _ _ (Sub.q fun _ _ e => Heap.get?_push_of_some _ e) r
  · rintro a e; cases e; exact sub_none (ksub k) fresh_size
theorem evf_pair {e1 e2 : Expr} {k : Nat} {pos : Pos} {α β : Type} {R : α → VP} {S : β → VP} {x : α} {y : β} (hR : ∀ x, Mono (R x)) (hS : ∀ x, Mono (S x)) (h1 : Ev prog w A env H e1 (R x)) (h2 : Ev prog w A env H e2 (S y))
    (hst : starEach [e1, e2] env = (false, eval e1 env) :: starEach [e2] env := by rfl) (hst2 : starEach [e2] env = (false, eval e2 env) :: starEach [] env := by rfl) :
    EvF prog w A env H (.Tuple [e1, e2] k pos) (isP2 R S (x, y)) := fun s hs E => by
  have hE : Es prog w A env H pos [e1, e2] fun vs h => ∃ v1 v2, vs = [v1, v2] ∧ R x v1 h ∧ S y v2 h :=
    es_cons (hR x) h1 (es_cons (R := fun vs _ => vs = []) (hS y) h2 (es_nil fun _ _ => rfl) (R' := fun vs h => ∃ v2, vs = [v2] ∧ S y v2 h) (fun v vs h _ a b => ⟨v, by rw [b], a⟩) hst2)
      (fun v vs h _ a b => by obtain ⟨v2, rfl, b⟩ := b; exact ⟨v, v2, rfl, a, b⟩) hst
  refine wpAny_Tuple_spliced ((hE s hs).use fun vs s₁ hv k => ?_)
  obtain ⟨v1, v2, rfl, a, b⟩ := hv
  refine ⟨by show 2 ≤ sizeLine; decide, ⟨⟨_, v1, v2, rfl, ⟨_, Heap.get?_push_size _ rfl⟩, hR _ _ _ _ (Sub.q fun _ _ e => Heap.get?_push_of_some _ e) a, hS _ _ _ _ (Sub.q fun _ _ e => Heap.get?_push_of_some _ e) b⟩, ?_⟩, ktr k (kpush _)⟩
  rintro a e; cases e; exact sub_none (ksub k) fresh_size

theorem ev_idx {value idx : Expr} {pos : Pos} {α : Type} {R : α → VP} {xs : List α} {k : Int} {x : α} (hR : ∀ x, Mono (R x)) (hv : Ev prog w A env H value (isL R xs)) (hi : Ev prog w A env H idx (isI k)) (h0 : 0 ≤ k) (hk : k < 2 ^ 63) (hx : xs[k.toNat]? = some x)
    (hs : ∀ o i, subscripted idx false o i = operate [o, i] (getItem o i) := by intro _ _; rfl) : Ev prog w A env H (.Subscript value idx pos) (R x) := fun s hs' E => by
  refine Subscript_ ((hv s hs').use fun o s₁ ho k₁ => (hi s₁ (Sub.trans hs' (ksub k₁))).use fun i s₂ hi' k₂ => ?_)
  obtain ⟨a, vs, rfl, hl, hp⟩ := mono_L hR xs _ _ _ (ksub k₂).q ho
  obtain ⟨t, rfl⟩ := hi'
  obtain ⟨v, ev, hr⟩ := Paired.get hp hx
  exact tail_any hl.isList.typeIs slot_list_getitem.lookup (wpAny_getItem_list hl.isList h0 hk (by simpa using ev) ⟨hr, ktr k₁ k₂⟩) (hs _ _)
theorem ev_sidx {value idx : Expr} {pos : Pos} {x : Str} {k : Int} {c : Nat} (hv : Ev prog w A env H value (isS x)) (hi : Ev prog w A env H idx (isI k)) (h0 : 0 ≤ k) (hk : k < 2 ^ 63) (hx : x.cps[k.toNat]? = some c)
    (hs : ∀ o i, subscripted idx false o i = operate [o, i] (getItem o i) := by intro _ _; rfl) : Ev prog w A env H (.Subscript value idx pos) (isS ⟨#[c]⟩) := fun s hs' E => by
  refine Subscript_ ((hv s hs').use fun o s₁ ho k₁ => (hi s₁ (Sub.trans hs' (ksub k₁))).use fun i s₂ hi' k₂ => ?_)
  obtain ⟨t, rfl⟩ := ho
  obtain ⟨u, rfl⟩ := hi'
  have hlt : k.toNat < x.length := by obtain ⟨h, _⟩ := Array.getElem?_eq_some_iff.mp hx; exact h
  refine tail_any (typeIs_str s₂ x t) slot_str_getitem.lookup (PyProof.Rows.getItem_str (c := c) ?_ ?_ ⟨⟨_, rfl⟩, ktr (ktr k₁ k₂) (kmk fun _ _ e => e)⟩) (hs _ _)
  · simp; omega
  · have : seqIndex? k x.length = some k.toNat := by
      unfold seqIndex?
      have : ¬ k < 0 := by omega
      simp [this]; omega
    rw [this]; exact hx
end
end MineQ
end

section
set_option Elab.async false
set_option maxRecDepth 100000
set_option linter.unusedVariables false
namespace MineQ
open PySem PySem.Calls PyProof.Rows

section
variable {prog : Program} {w : World} {A : Around} {env : Env} {H : Heap} {s : Shared}

/-- what may be called -/
inductive Kp (H : Heap) : Value → Prop
  | built (id : String) : Kp H (.builtin id)
  | type (T : String) : Kp H (.type T)
  | fn (a : Addr) (o : Obj) (fd : FuncData) (ho : H.get? a = some o) (hd : o.data = .func fd) : Kp H (.ref a)

theorem ev_callG {x : Str} {p pos : Pos} {e : Expr} {es : List Expr} {f : Value} {P : List Value → Heap → Prop} {R : Heap → VP} (hf : Ev prog w A env H (.Name x p) (isV f)) (hk : Kp H f) (ha : Es prog w A env H pos (e :: es) P)
    (hc : ∀ vs s, Sub H s.heap → P vs s.heap → Gv prog w A (call f vs) (R s.heap) s) (hR : ∀ h h' v h'', Sub h h' → R h' v h'' → R h v h'')
    (he : starEach (e :: es) env = (false, eval e env) :: starEach es env := by rfl) (hplain : (backTo pos (starEach es env)).any (·.1) = false := by rfl) :
    ∀ s, Sub H s.heap → Gv prog w A (eval (.Call (.Name x p) (e :: es) [] pos) env) (R s.heap) s := by
  intro s hs E
  refine Call_ ((hf s hs).use fun f' s₁ hf' k₁ => ?_)
  cases hf'
  cases hk with
  | built id =>
    exact callWith_builtin1 ((ha s₁ (Sub.trans hs (ksub k₁))).use fun vs s₂ hv k₂ =>
      wpAny_mono (hc vs s₂ (Sub.trans hs (ksub (ktr k₁ k₂))) hv E) (fun v s' y => ⟨hR _ _ _ _ (ksub (ktr k₁ k₂)) y.1, ktr (ktr k₁ k₂) y.2⟩) fun _ _ e => e) he hplain
  | type T =>
    rw [he]
    refine PySem.callWith_type (by show (false || (backTo pos (starEach es env)).any (·.1)) = false; rw [hplain]; rfl) (evalArgs_plain ?_)
    have ha' := ha s₁ (Sub.trans hs (ksub k₁))
    rw [he] at ha'
    exact ha'.use fun vs s₂ hv k₂ =>
      wpAny_mono (hc vs s₂ (Sub.trans hs (ksub (ktr k₁ k₂))) hv E) (fun v s' y => ⟨hR _ _ _ _ (ksub (ktr k₁ k₂)) y.1, ktr (ktr k₁ k₂) y.2⟩) fun _ _ e => e
  | fn a o fd ho hd =>
    exact callWith_def (o := o) (fd := fd) hd ((ha s₁ (Sub.trans hs (ksub k₁))).use fun vs s₂ hv k₂ =>
      ⟨Sub.trans hs (ksub (ktr k₁ k₂)) _ _ ho, wpAny_mono (hc vs s₂ (Sub.trans hs (ksub (ktr k₁ k₂))) hv E) (fun v s' y => ⟨hR _ _ _ _ (ksub (ktr k₁ k₂)) y.1, ktr (ktr k₁ k₂) y.2⟩) fun _ _ e => e⟩) he

theorem ev_call1 {x : Str} {p pos : Pos} {e : Expr} {f : Value} {P R : VP} (hf : Ev prog w A env H (.Name x p) (isV f)) (hk : Kp H f) (hP : Mono P) (ha : Ev prog w A env H e P)
    (hc : ∀ v s, Sub H s.heap → P v s.heap → Gv prog w A (call f [v]) R s)
    (he : starEach [e] env = (false, eval e env) :: starEach [] env := by rfl) : Ev prog w A env H (.Call (.Name x p) [e] [] pos) R :=
  ev_callG (P := fun vs h => ∃ v, vs = [v] ∧ P v h) (R := fun _ => R) hf hk (es_cons hP ha (R := fun vs _ => vs = []) (es_nil fun _ _ => rfl) (fun v vs h _ a b => ⟨v, by rw [b], a⟩) he)
    (by rintro _ s hs ⟨v, rfl, hv⟩; exact hc v s hs hv) (fun _ _ _ _ _ y => y) he rfl
theorem evf_call1 {x : Str} {p pos : Pos} {e : Expr} {f : Value} {P R : VP} (hf : Ev prog w A env H (.Name x p) (isV f)) (hk : Kp H f) (hP : Mono P) (ha : Ev prog w A env H e P)
    (hc : ∀ v s, Sub H s.heap → P v s.heap → Gv prog w A (call f [v]) (fun v h => R v h ∧ ∀ a, v = .ref a → s.heap.get? a = none) s)
    (he : starEach [e] env = (false, eval e env) :: starEach [] env := by rfl) : EvF prog w A env H (.Call (.Name x p) [e] [] pos) R :=
  ev_callG (P := fun vs h => ∃ v, vs = [v] ∧ P v h) (R := fun h₀ v h => R v h ∧ ∀ a, v = .ref a → h₀.get? a = none) hf hk (es_cons hP ha (R := fun vs _ => vs = []) (es_nil fun _ _ => rfl) (fun v vs h _ a b => ⟨v, by rw [b], a⟩) he)
    (by rintro _ s hs ⟨v, rfl, hv⟩; exact hc v s hs hv) (fun _ _ _ _ k y => ⟨y.1, fun a e => sub_none k (y.2 a e)⟩) he rfl
theorem ev_call2 {x : Str} {p pos : Pos} {e e2 : Expr} {f : Value} {P P2 R : VP} (hf : Ev prog w A env H (.Name x p) (isV f)) (hk : Kp H f) (hP : Mono P) (hP2 : Mono P2) (ha : Ev prog w A env H e P) (ha2 : Ev prog w A env H e2 P2)
    (hc : ∀ v v2 s, Sub H s.heap → P v s.heap → P2 v2 s.heap → Gv prog w A (call f [v, v2]) R s)
    (he : starEach [e, e2] env = (false, eval e env) :: starEach [e2] env := by rfl) (he2 : starEach [e2] env = (false, eval e2 env) :: starEach [] env := by rfl) : Ev prog w A env H (.Call (.Name x p) [e, e2] [] pos) R :=
  ev_callG (P := fun vs h => ∃ v v2, vs = [v, v2] ∧ P v h ∧ P2 v2 h) (R := fun _ => R) hf hk
    (es_cons hP ha (es_cons hP2 ha2 (R := fun vs _ => vs = []) (R' := fun vs h => ∃ v, vs = [v] ∧ P2 v h) (es_nil fun _ _ => rfl) (fun v vs h _ a b => ⟨v, by rw [b], a⟩) he2) (fun v vs h _ a b => by obtain ⟨v2, rfl, b⟩ := b; exact ⟨v, v2, rfl, a, b⟩) he)
    (by rintro _ s hs ⟨v, v2, rfl, hv, hv2⟩; exact hc v v2 s hs hv hv2) (fun _ _ _ _ _ y => y) he (by rw [he2]; rfl)
theorem evf_call2 {x : Str} {p pos : Pos} {e e2 : Expr} {f : Value} {P P2 R : VP} (hf : Ev prog w A env H (.Name x p) (isV f)) (hk : Kp H f) (hP : Mono P) (hP2 : Mono P2) (ha : Ev prog w A env H e P) (ha2 : Ev prog w A env H e2 P2)
    (hc : ∀ v v2 s, Sub H s.heap → P v s.heap → P2 v2 s.heap → Gv prog w A (call f [v, v2]) (fun v h => R v h ∧ ∀ a, v = .ref a → s.heap.get? a = none) s)
    (he : starEach [e, e2] env = (false, eval e env) :: starEach [e2] env := by rfl) (he2 : starEach [e2] env = (false, eval e2 env) :: starEach [] env := by rfl) : EvF prog w A env H (.Call (.Name x p) [e, e2] [] pos) R :=
  ev_callG (P := fun vs h => ∃ v v2, vs = [v, v2] ∧ P v h ∧ P2 v2 h) (R := fun h₀ v h => R v h ∧ ∀ a, v = .ref a → h₀.get? a = none) hf hk
    (es_cons hP ha (es_cons hP2 ha2 (R := fun vs _ => vs = []) (R' := fun vs h => ∃ v, vs = [v] ∧ P2 v h) (es_nil fun _ _ => rfl) (fun v vs h _ a b => ⟨v, by rw [b], a⟩) he2) (fun v vs h _ a b => by obtain ⟨v2, rfl, b⟩ := b; exact ⟨v, v2, rfl, a, b⟩) he)
    (by rintro _ s hs ⟨v, v2, rfl, hv, hv2⟩; exact hc v v2 s hs hv hv2) (fun _ _ _ _ k y => ⟨y.1, fun a e => sub_none k (y.2 a e)⟩) he (by rw [he2]; rfl)

theorem g_len {α : Type} {R : α → VP} {xs : List α} {v : Value} (h : isL R xs v s.heap) (hsz : xs.length ≤ 10000) : Gv prog w A (call (.builtin "len") [v]) (isI xs.length) s := fun E => by
  obtain ⟨a, vs, rfl, hl, hp⟩ := h
  have e := plist_size hp
  refine call_len_list hl.isList (by omega) ⟨⟨_, by rw [e]⟩, kmk fun _ _ e => e⟩
theorem g_abs {a : Int} {t : Tok} : Gv prog w A (call (.builtin "abs") [.int a t]) (isI (if a < 0 then -a else a)) s := fun E => call_abs_int fun u tk => ⟨⟨_, rfl⟩, kmk fun _ _ e => e⟩
theorem g_list {α : Type} {R : α → VP} {xs : List α} {v : Value} (hR : ∀ x, Mono (R x)) (h : isL R xs v s.heap) (hsz : xs.length ≤ 10000) :
    Gv prog w A (call (.type "list") [v]) (fun v h => isL R xs v h ∧ ∀ a, v = .ref a → s.heap.get? a = none) s := fun E => by
  obtain ⟨a, vs, rfl, ⟨n, hl⟩, hp⟩ := h
  have e := plist_size hp
  refine call_list_seq a (T := "list") (Or.inl rfl) hl rfl rfl (fun h' c' hk hs => ⟨⟨⟨_, vs, rfl, ⟨_, hs⟩, hp.mono fun u x r => hR x _ _ _ (Sub.q hk) r⟩, ?_⟩, kmk hk⟩) (by rw [e]; exact Nat.le_trans hsz (by decide))
  rintro a e; cases e; exact fresh_size

/-- a source of a loop: it is evaluated, walked, and gives the items of xs -/
def ItOk (prog : Program) (w : World) (A : Around) {α : Type} (xs : List α) (R : α → VP) (s : Shared) (it : Value) (s₂ : Shared) : Prop :=
  Keeps s s₂ ∧ ∃ I fp wr P St, it = .ref I ∧ Walks prog w A I fp wr xs.length P St ∧ St 0 s₂.heap ∧ (∀ b ∈ fp, b < s₂.heap.objs.size ∧ (b ∈ wr ∨ ∃ o xs n, s₂.heap.get? b = some o ∧ o.data = .seq xs n)) ∧
    (∀ b ∈ wr, s.heap.get? b = none ∧ ∃ o, s₂.heap.get? b = some o ∧ ∀ xs n, o.data ≠ .seq xs n) ∧ (∀ i h, St i h → ∀ b ∈ wr, ∃ o, h.get? b = some o ∧ ∀ xs n, o.data ≠ .seq xs n) ∧ (∀ i v, i < xs.length → P i v → ∃ x, xs[i]? = some x ∧ R x v s₂.heap)
def Src (prog : Program) (w : World) (A : Around) (env : Env) (H : Heap) {α : Type} (e : Expr) (xs : List α) (R : α → VP) : Prop :=
  ∀ s, Sub H s.heap → ∀ E, wpAny (model prog w) A (eval e env) (fun x s₁ => wpAny (model prog w) A (pyIter x) (fun it s₂ => ItOk prog w A xs R s it s₂) E s₁) E s

theorem it_list {α : Type} {R : α → VP} {xs : List α} {v : Value} (hh : A.handled = none) (hR : ∀ x, Mono (R x)) (hv : isL R xs v s.heap) (E : Value → Shared → Prop) :
    wpAny (model prog w) A (pyIter v) (fun it s₂ => ItOk prog w A xs R s it s₂) E s := by
  obtain ⟨a, vs, rfl, hl, hp⟩ := hv
  have hne : a ≠ s.heap.objs.size := by obtain ⟨n, hl⟩ := hl; exact Nat.ne_of_lt (Heap.lt_size hl)
  have W := Walks.list (prog := prog) (w := w) hh s.heap.objs.size a hne vs
  rw [plist_size hp] at W
  refine wpAny_pyIter_list hl.isList ⟨kmk (tk := s.toks) fun _ _ e => Heap.get?_push_of_some _ e, s.heap.objs.size, _, _, _, _, rfl, W, ?_, ?_, ?_, ?_, ?_⟩
  · exact ⟨⟨_, Heap.get?_push_size _ rfl, rfl, rfl⟩, (hl.isList).push _⟩
  · intro b hb
    simp at hb
    show b < (s.heap.push _).objs.size ∧ _
    rw [Heap.size_push]
    rcases hb with rfl | rfl
    · exact ⟨Nat.lt_succ_self _, Or.inl (by simp)⟩
    · obtain ⟨n, hl⟩ := hl; exact ⟨Nat.lt_succ_of_lt (Heap.lt_size hl), Or.inr ⟨_, _, _, Heap.get?_push_of_some _ hl, rfl⟩⟩
  · intro b hb
    simp at hb; subst hb
    exact ⟨fresh_size, _, Heap.get?_push_size _ rfl, by intro _ _ e; cases e⟩
  · rintro i h ⟨⟨o, ho, _, hd⟩, _⟩ b hb
    simp at hb; subst hb
    exact ⟨o, ho, fun xs n e => by rw [hd] at e; cases e⟩
  · intro i v hi hv
    obtain ⟨x, ex, hr⟩ := Paired.get' hp (by simpa using hv)
    exact ⟨x, ex, hR x _ _ _ (Sub.q fun _ _ e => Heap.get?_push_of_some _ e) hr⟩
theorem src_list {α : Type} {R : α → VP} {xs : List α} {e : Expr} (hh : A.handled = none) (hR : ∀ x, Mono (R x)) (h : Ev prog w A env H e (isL R xs)) : Src prog w A env H e xs R := fun s hs E =>
  (h s hs).use fun v s₁ hv k => wpAny_mono (it_list hh hR hv E) (fun it s₂ y => ⟨ktr k y.1, by
    obtain ⟨_, I, fp, wr, P, St, a1, a2, a3, a4, a5, a6, a7⟩ := y
    exact ⟨I, fp, wr, P, St, a1, a2, a3, a4, fun b hb => ⟨sub_none (ksub k) (a5 b hb).1, (a5 b hb).2⟩, a6, a7⟩⟩) fun _ _ e => e
theorem it_tuple {α : Type} {R : α → VP} {xs : List α} {v : Value} (hh : A.handled = none) (hR : ∀ x, Mono (R x)) (hv : isT R xs v s.heap) (E : Value → Shared → Prop) :
    wpAny (model prog w) A (pyIter v) (fun it s₂ => ItOk prog w A xs R s it s₂) E s := by
  obtain ⟨a, vs, rfl, hl, hp⟩ := hv
  have hl' : s.heap.IsTuple a vs := by obtain ⟨n, hl⟩ := hl; exact ⟨_, hl, rfl, n, rfl⟩
  have hne : a ≠ s.heap.objs.size := by obtain ⟨n, hl⟩ := hl; exact Nat.ne_of_lt (Heap.lt_size hl)
  have W := Walks.tuple (prog := prog) (w := w) hh s.heap.objs.size a hne vs
  rw [plist_size hp] at W
  refine wpAny_pyIter_tuple hl' ⟨kmk (tk := s.toks) fun _ _ e => Heap.get?_push_of_some _ e, s.heap.objs.size, _, _, _, _, rfl, W, ?_, ?_, ?_, ?_, ?_⟩
  · exact ⟨⟨_, Heap.get?_push_size _ rfl, rfl, rfl⟩, hl'.push _⟩
  · intro b hb
    simp at hb
    show b < (s.heap.push _).objs.size ∧ _
    rw [Heap.size_push]
    rcases hb with rfl | rfl
    · exact ⟨Nat.lt_succ_self _, Or.inl (by simp)⟩
    · obtain ⟨n, hl⟩ := hl; exact ⟨Nat.lt_succ_of_lt (Heap.lt_size hl), Or.inr ⟨_, _, _, Heap.get?_push_of_some _ hl, rfl⟩⟩
  · intro b hb
    simp at hb; subst hb
    exact ⟨fresh_size, _, Heap.get?_push_size _ rfl, by intro _ _ e; cases e⟩
  · rintro i h ⟨⟨o, ho, _, hd⟩, _⟩ b hb
    simp at hb; subst hb
    exact ⟨o, ho, fun xs n e => by rw [hd] at e; cases e⟩
  · intro i v hi hv
    obtain ⟨x, ex, hr⟩ := Paired.get' hp (by simpa using hv)
    exact ⟨x, ex, hR x _ _ _ (Sub.q fun _ _ e => Heap.get?_push_of_some _ e) hr⟩
theorem src_tuple {α : Type} {R : α → VP} {xs : List α} {e : Expr} (hh : A.handled = none) (hR : ∀ x, Mono (R x)) (h : Ev prog w A env H e (isT R xs)) : Src prog w A env H e xs R := fun s hs E =>
  (h s hs).use fun v s₁ hv k => wpAny_mono (it_tuple hh hR hv E) (fun it s₂ y => ⟨ktr k y.1, by
    obtain ⟨_, I, fp, wr, P, St, a1, a2, a3, a4, a5, a6, a7⟩ := y
    exact ⟨I, fp, wr, P, St, a1, a2, a3, a4, fun b hb => ⟨sub_none (ksub k) (a5 b hb).1, (a5 b hb).2⟩, a6, a7⟩⟩) fun _ _ e => e
def upto (n : Nat) : List Int := (List.range n).map Int.ofNat
theorem upto_get {n i : Nat} (h : i < n) : (upto n)[i]? = some (i : Int) := by simp [upto, h]
theorem upto_len (n : Nat) : (upto n).length = n := by simp [upto]
theorem src_range {e : Expr} {p pos : Pos} {n : Nat} {k : Int} (hh : A.handled = none) (hf : Ev prog w A env H (.Name (Str.ofString "range") p) (isV (.type "range"))) (he : Ev prog w A env H e (isI k)) (hk : k = n) (hn : n ≤ 10000)
    (hst : starEach [e] env = (false, eval e env) :: starEach [] env := by rfl) : Src prog w A env H (.Call (.Name (Str.ofString "range") p) [e] [] pos) (upto n) isI := fun s hs E => by
  have hc : Ev prog w A env H (.Call (.Name (Str.ofString "range") p) [e] [] pos) (fun v h => ∃ r t u w', v = .ref r ∧ IsRange h r 0 n 1 t u w') :=
    ev_call1 hf (.type _) (mono_I k) he (by
      rintro _ s _ ⟨t, rfl⟩ E
      subst hk
      exact call_range_1 ⟨⟨_, _, _, _, rfl, Heap.get?_push_size _ rfl⟩, kpush _⟩) hst
  refine (hc s hs).use fun v s₁ hv k₁ => ?_
  obtain ⟨r, t, u, w', rfl, hr⟩ := hv
  have hsmall : Builtin.Range.small 0 n 1 = true := by
    unfold Builtin.Range.small
    rw [rangeSize_nat]
    have h1 : Builtin.Range.rangeFitsLong 0 = true := by decide
    have h2 : Builtin.Range.rangeFitsLong (n : Int) = true := by unfold Builtin.Range.rangeFitsLong; rw [Bool.and_eq_true]; exact ⟨decide_eq_true (by omega), decide_eq_true (by omega)⟩
    have h3 : Builtin.Range.rangeFitsLong 1 = true := by decide
    have e : (((n : Int) - 0).toNat : Int) = n := by omega
    have e2 : ((n : Int) + (1 - 1)) = n := by omega
    rw [e, e2, h1, h2, h3, if_pos (by decide)]
    simp
  have W := Walks.range (prog := prog) (w := w) hh s₁.heap.objs.size 0 1 n
  rw [← upto_len n] at W
  refine wpAny_pyIter_range hr hsmall ⟨ktr k₁ (kpush (tk := s₁.toks) _), s₁.heap.objs.size, _, _, _, _, rfl, W, ?_, ?_, ?_, ?_, ?_⟩
  · show IsRangeIter _ _ _ _ _
    rw [rangeSize_nat, upto_len]
    have e : (((n : Int) - 0).toNat : Int) = (n : Int) - ((0 : Nat) : Int) := by omega
    have e2 : (0 : Int) + ((0 : Nat) : Int) * 1 = 0 := by omega
    rw [e, e2]
    exact Heap.get?_push_size _ rfl
  · intro b hb
    simp at hb; subst hb
    refine ⟨?_, Or.inl (by simp)⟩
    show s₁.heap.objs.size < (s₁.heap.push _).objs.size
    rw [Heap.size_push]; exact Nat.lt_succ_self _
  · intro b hb
    simp at hb; subst hb
    exact ⟨sub_none (ksub k₁) fresh_size, _, Heap.get?_push_size _ rfl, by intro _ _ e; cases e⟩
  · intro i h st b hb
    simp at hb; subst hb
    exact ⟨_, st, fun xs n e => by cases e⟩
  · rintro i v hi ⟨t, rfl⟩
    rw [upto_len] at hi
    exact ⟨i, upto_get hi, t, by simp⟩
end
end MineQ
end

section
set_option Elab.async false
set_option maxRecDepth 100000
set_option linter.unusedVariables false
namespace MineQ
open PySem PySem.Calls PyProof.Rows

/-- the place that a name of the frame is stored at -/
inductive SlotAt (env : Env) (h : Heap) (x : Str) (a : Addr) : Prop
  | loc (m : Str → Option Value) (hk : env.kindOf x = some .local) (ha : env.locals = a) (hn : h.Ns a m)
  | cell (v : Option Value) (hk : env.kindOf x = some .cell) (hc : env.cells.lookup x = some a) (hn : h.IsCell a v)
theorem cell_at {h h' : Heap} {c : Addr} {v : Option Value} (x : h.IsCell c v) (e : ∀ o, h.get? c = some o → h'.get? c = some o) : h'.IsCell c v := let ⟨o, ho, hd⟩ := x; ⟨o, e o ho, hd⟩
theorem SlotAt.at {env : Env} {h h' : Heap} {x : Str} {a : Addr} (y : SlotAt env h x a) (e : ∀ o, h.get? a = some o → h'.get? a = some o) : SlotAt env h' x a := by
  cases y with
  | loc m hk ha hn => exact .loc m hk ha (hn.at' e)
  | cell v hk hc hn => exact .cell v hk hc (cell_at hn e)
theorem SlotAt.notSeq {env : Env} {h : Heap} {x : Str} {a : Addr} (y : SlotAt env h x a) : ∃ o, h.get? a = some o ∧ ∀ xs n, o.data ≠ .seq xs n := by
  cases y with
  | loc m hk ha hn => obtain ⟨o, es, ep, ho, hd, _⟩ := hn; exact ⟨o, ho, fun xs n e => by rw [hd] at e; cases e⟩
  | cell v hk hc hn => obtain ⟨o, ho, hd⟩ := hn; exact ⟨o, ho, fun xs n e => by rw [hd] at e; cases e⟩
theorem SlotAt.subq {env : Env} {h h' : Heap} {x : Str} {a : Addr} (y : SlotAt env h x a) (hs : Heap.SameBut a h h') : SubQ h h' := by
  intro b o xs n e d
  refine hs.extBut b o ?_ e
  rintro rfl
  obtain ⟨o', e', hn⟩ := y.notSeq
  rw [e'] at e; cases e; exact hn _ _ d
theorem SlotAt.store {M : Model} {A : Around} {env : Env} {s : Shared} {x : Str} {a : Addr} {v : Value} {Q : Unit → Shared → Prop} {E : Value → Shared → Prop} (hf : env.scope.kind = .function) (y : SlotAt env s.heap x a)
    (h : ∀ h' tk, Sees env h' x v → SlotAt env h' x a → Heap.SameBut a s.heap h' → Q () { s with heap := h', toks := tk }) : wpAny M A (storeName env x v) Q E s := by
  cases y with
  | loc m hk ha hn =>
    subst ha
    exact wpAny_storeName_local hk hn (fun h' hn' hs' => h h' _ (.loc _ hk hn' (by simp)) (.loc _ hk rfl hn') hs') (by rw [hf]; rfl)
  | cell v₀ hk hc hn =>
    exact wpAny_storeName_cell hf hk hc hn (fun h' hn' hs' => h h' s.toks (.cell a hk hc hn') (.cell _ hk hc hn') hs')
theorem ns_keep {h h' : Heap} {C : Addr} (x : ∃ m, h.Ns C m) (e : ∀ o, h.get? C = some o → h'.get? C = some o) : ∃ m, h'.Ns C m := let ⟨m, y⟩ := x; ⟨m, y.at' e⟩

/-- said of the value's own object alone -/
def Own (P : VP) : Prop := ∀ v h h', (∀ a, v = .ref a → ∀ o, h.get? a = some o → h'.get? a = some o) → P v h → P v h'
theorem own_I (n : Int) : Own (isI n) := fun _ _ _ _ x => x
theorem own_S (n : Str) : Own (isS n) := fun _ _ _ _ x => x
theorem own_L {α : Type} {R : α → VP} (hR : ∀ x v h h', R x v h → R x v h') (xs : List α) : Own (isL R xs) := by
  rintro v h h' k ⟨a, vs, rfl, hl, hp⟩
  exact ⟨a, vs, rfl, hl.at fun o e => k a rfl o e, hp.mono fun u x r => hR _ _ _ _ r⟩
theorem own_LI (xs : List Int) : Own (isL isI xs) := own_L (fun _ _ _ _ r => r) xs
theorem own_P2 {α β : Type} {R : α → VP} {S : β → VP} (hR : ∀ x v h h', R x v h → R x v h') (hS : ∀ x v h h', S x v h → S x v h') (p : α × β) : Own (isP2 R S p) := by
  rintro v h h' k ⟨a, v1, v2, rfl, ⟨n, hl⟩, h1, h2⟩
  exact ⟨a, v1, v2, rfl, ⟨n, k a rfl _ hl⟩, hR _ _ _ _ h1, hS _ _ _ _ h2⟩
theorem own_PI (p : Int × Int) : Own (isP2 isI isI p) := own_P2 (fun _ _ _ _ r => r) (fun _ _ _ _ r => r) p

def cEnv (scope : Scope) (cl : List (Str × Addr)) (L : Addr) (env : Env) : Env :=
  { scope := relabel scope env, locals := L, globals := env.globals, cells := cellsFrom (L + 1) scope.names cl, qual := env.qual, func := none, code := env.code, frame := env.frame, builtins := env.builtins }

theorem wpAny_compNewEnv {M : Model} {A : Around} {s : Shared} {E : Value → Shared → Prop} {scope : Scope} {globals : Addr} {cl : List (Str × Addr)} {qual : Str} {env : Env} {Q : Env → Shared → Prop}
    (h : Q (newEnv scope s.heap.objs.size globals (cellsFrom (s.heap.objs.size + 1) scope.names cl) qual none .none (some env) builtinsNs) { s with heap := pushCells (s.heap.push { cls := .type "dict", data := .dict #[] }) scope.names }) :
    wpAny M A (newFunctionEnv scope globals cl [] qual none .none (some env)) Q E s := by
  simp only [newFunctionEnv, Option.isSome_some, if_true]
  refine wpAny_bind (wpAny_alloc ?_)
  refine wpAny_bind (wpAny_layCells _ (fun name kind cells => by cases hkc : kind == NameKind.cell <;> simp) _ _ _ _ ?_)
  rw [show ({ s with heap := s.heap.push { cls := .type "dict", data := .dict #[] } } : Shared).heap.objs.size = s.heap.objs.size + 1 from Heap.size_push ..]
  simp only [List.forIn_nil]
  exact wpAny_bind (wpAny_pure (wpAny_pure h))

theorem pushCells_size_le : ∀ (names : List (Str × NameKind)) (h : Heap), h.objs.size ≤ (pushCells h names).objs.size
  | [], _ => Nat.le_refl _
  | (_, kind) :: r, h => by
    unfold pushCells
    split
    · exact Nat.le_trans (by rw [Heap.size_push]; exact Nat.le_succ _) (pushCells_size_le r _)
    · exact pushCells_size_le r h

section
variable {prog : Program} {w : World} {A : Around} {s : Shared}

/-- the tests of one clause -/
abbrev testsOf (ifs : List Expr) (env : Env) : Sem Bool := forIn ifs true fun c r => if r = true then do let ok ← isTrue c env (eval c env); pure (ForInStep.yield ok) else pure (ForInStep.yield r)

theorem comp_loop {α β : Type} {xs : List α} {R : α → VP} {Q : β → VP} {p : α → Bool} {f : α → β} {elt iter : Expr} {x : Str} {px : Pos} {ifs : List Expr} {scope : Scope} {pos : Pos} {I D a : Addr} {cenv : Env} {fp wr : List Addr} {P : Nat → Value → Prop} {St : Nat → Heap → Prop} {B G : Heap} {RR : Result → Shared → Prop}
    (W : Walks prog w A I fp wr xs.length P St) (hf : cenv.scope.kind = .function) (hQ : ∀ b, Own (Q b)) (hR : ∀ x, Mono (R x))
    (hslot : SlotAt cenv s.heap x a) (hC : ∃ m, s.heap.Ns cenv.locals m) (haf : a ∉ fp) (hCf : cenv.locals ∉ fp) (hDf : D ∉ fp)
    (hst : St 0 s.heap) (hacc : s.heap.PlainList D #[])
    (hG : ∀ b o, b ∉ wr → G.get? b = some o → s.heap.get? b = some o) (hGa : G.get? a = none) (hGD : G.get? D = none)
    (hwr : ∀ b ∈ wr, ∃ o, G.get? b = some o ∧ ∀ xs n, o.data ≠ .seq xs n) (hlive : ∀ i h, St i h → ∀ b ∈ wr, ∃ o, h.get? b = some o) (hB : Sub B G) (hBw : ∀ b ∈ wr, B.get? b = none)
    (hitem : ∀ i v, i < xs.length → P i v → ∃ x, xs[i]? = some x ∧ R x v G)
    (htests : ∀ xv v s₂, xv ∈ xs → Sub B s₂.heap → R xv v s₂.heap → Sees cenv s₂.heap x v → Gv prog w A (testsOf ifs cenv) (fun ok _ => ok = p xv) s₂)
    (helt : ∀ xv v s₂, xv ∈ xs → p xv = true → Sub B s₂.heap → R xv v s₂.heap → Sees cenv s₂.heap x v → Gv prog w A (eval elt cenv) (fun y h => Q (f xv) y h ∧ ∀ a, y = .ref a → s₂.heap.get? a = none) s₂)
    (hRR : ∀ h' tk ys, (∃ m, h'.Ns cenv.locals m) → h'.PlainList D ys → Paired (fun y b => Q b y h') ys.toList ((xs.filter p).map f) → (∀ y ∈ ys.toList, ∀ c, y = .ref c → c ≠ cenv.locals) → (∀ b o, b ∉ wr → G.get? b = some o → h'.get? b = some o) → RR (.ok .next) { s with heap := h', toks := tk })
    (hsz : xs.length ≤ 10000) :
    codeAny (model prog w) A (.compLoop (.ListComp elt [⟨.Name x px, iter, ifs, 0⟩] scope pos) 0 (.ref I) (.ref D) cenv) RR s := by
  have subB : ∀ h', (∀ b o, b ∉ wr → G.get? b = some o → h'.get? b = some o) → Sub B h' := fun h' k b o e =>
    k b o (fun hb => by rw [hBw b hb] at e; cases e) (hB b o e)
  have subQ : ∀ h', (∀ b o, b ∉ wr → G.get? b = some o → h'.get? b = some o) → SubQ G h' := fun h' k b o xs n e d =>
    k b o (fun hb => by obtain ⟨o', e', hn⟩ := hwr b hb; rw [e'] at e; cases e; exact hn _ _ d) e
  refine codeAny_compLoop_tests
    (fun k s' => ∃ h' tk ys i, s' = { s with heap := h', toks := tk } ∧ St i h' ∧ h'.PlainList D ys ∧ SlotAt cenv h' x a ∧ (∃ m, h'.Ns cenv.locals m) ∧
      Paired (fun y b => Q b y h') ys.toList (((xs.take i).filter p).map f) ∧ i ≤ xs.length ∧ k = xs.length + 1 - i ∧ (∀ b o, b ∉ wr → G.get? b = some o → h'.get? b = some o) ∧
      (∀ y ∈ ys.toList, ∀ c, y = .ref c → c ≠ a ∧ c ∉ wr ∧ c ≠ D ∧ c ≠ cenv.locals)) ?_ (xs.length + 1)
    ⟨s.heap, s.toks, #[], 0, rfl, hst, hacc, hslot, hC, by simpa using Paired.nil, Nat.zero_le _, rfl, hG, by simp⟩
  rintro k s' ⟨h, tk, ys, i, rfl, hst', hacc', hsl', hC', hF, hi, rfl, hk, hnew⟩
  have haw : a ∉ wr := fun h => haf (W.sub _ h)
  have hCw : cenv.locals ∉ wr := fun h => hCf (W.sub _ h)
  have hDw : D ∉ wr := fun h => hDf (W.sub _ h)
  have hDa : D ≠ a := by
    rintro rfl
    obtain ⟨n, e⟩ := hacc'
    obtain ⟨o, e', hn⟩ := hsl'.notSeq
    rw [e] at e'; cases e'; exact hn _ _ rfl
  have hDC : D ≠ cenv.locals := by
    intro e
    obtain ⟨n, e1⟩ := hacc'
    obtain ⟨m, o, es, ep, ho, hd, _⟩ := hC'
    rw [e, ho] at e1; cases e1; cases hd
  have pmono : ∀ {h h' : Heap} {l : List β}, (∀ b o, b ≠ a → b ∉ wr → b ≠ D → b ≠ cenv.locals → h.get? b = some o → h'.get? b = some o) → Paired (fun y b => Q b y h) ys.toList l → Paired (fun y b => Q b y h') ys.toList l := by
    intro h h' l up hF
    have key : ∀ (l₁ : List Value) (l₂ : List β), (∀ y ∈ l₁, y ∈ ys.toList) → Paired (fun y b => Q b y h) l₁ l₂ → Paired (fun y b => Q b y h') l₁ l₂ := by
      intro l₁ l₂ hm hp
      induction hp with
      | nil => exact .nil
      | cons q t ih =>
        rename_i y b l₁ l₂
        refine .cons (hQ b y _ _ (fun c hc o e => ?_) q) (ih fun z hz => hm z (List.mem_cons_of_mem _ hz))
        obtain ⟨n1, n2, n3, n4⟩ := hnew y (hm y List.mem_cons_self) c hc
        exact up c o n1 n2 n3 n4 e
    exact key _ _ (fun _ h => h) hF
  by_cases hlt : i < xs.length
  · refine W.item i _ _ _ hlt hst' fun v h₁ tk₁ hPv hst₁ hk₁ => ?_
    obtain ⟨xv, hxv, hRv⟩ := hitem i v hlt hPv
    have hmem : xv ∈ xs := List.mem_of_getElem? hxv
    refine wpAny_assign_Name (SlotAt.store hf (hsl'.at fun o e => hk₁ _ o haw e) fun h₂ tk₂ hsee hsl₂ hs₂ => ?_)
    have up₂ : ∀ b o, b ≠ a → b ∉ wr → h.get? b = some o → h₂.get? b = some o := fun b o hba hbf e => hs₂.extBut b o hba (hk₁ b o hbf e)
    have hst₂ : St (i + 1) h₂ := W.frame _ _ _ hst₁ fun b hb o e => hs₂.extBut b o (fun h => haf (h ▸ hb)) e
    have hC₂ : ∃ m, h₂.Ns cenv.locals m := by
      by_cases hca : cenv.locals = a
      · cases hsl₂ with
        | loc m _ ha hn => exact ⟨m, ha.symm ▸ hn⟩
        | cell v hk hc hn =>
          obtain ⟨m, o, es, ep, ho, hd, _⟩ := hC'
          cases hsl' with
          | loc m' hk' _ _ => rw [hk] at hk'; cases hk'
          | cell v' _ _ hn' => obtain ⟨o', ho', hd'⟩ := hn'; rw [← hca, ho] at ho'; cases ho'; rw [hd] at hd'; cases hd'
      · exact ns_keep hC' fun o e => up₂ _ o hca hCw e
    have hkG₂ : ∀ b o, b ∉ wr → G.get? b = some o → h₂.get? b = some o := fun b o hb e => up₂ b o (fun h => by rw [h, hGa] at e; cases e) hb (hk b o hb e)
    refine (htests xv v { s with heap := h₂, toks := tk₂ } hmem (subB _ hkG₂) (hR _ _ _ _ (subQ _ hkG₂) hRv) hsee).use fun ok s₃ hok hk₃ => ?_
    obtain ⟨h₃, tk₃, rfl, hk₃⟩ := hk₃
    subst hok
    have up₃ : ∀ b o, b ≠ a → b ∉ wr → h.get? b = some o → h₃.get? b = some o := fun b o hba hbf e => hk₃ b o (up₂ b o hba hbf e)
    have hst₃ : St (i + 1) h₃ := W.frame _ _ _ hst₂ fun b _ o e => hk₃ b o e
    have hacc₃ : h₃.PlainList D ys := hacc'.at fun o e => up₃ D o hDa hDw e
    have hsl₃ := hsl₂.at (h' := h₃) fun o e => hk₃ _ o e
    have hC₃ := ns_keep (h' := h₃) hC₂ fun o e => hk₃ _ o e
    have hkG₃ : ∀ b o, b ∉ wr → G.get? b = some o → h₃.get? b = some o := fun b o hb e => hk₃ b o (hkG₂ b o hb e)
    have hF₃ : Paired (fun y b => Q b y h₃) ys.toList (((xs.take i).filter p).map f) := pmono (fun b o n1 n2 _ _ e => up₃ b o n1 n2 e) hF
    have htake : (xs.take (i + 1)).filter p = (xs.take i).filter p ++ (if p xv then [xv] else []) := take_succ_filter p xs i xv hxv
    cases hpv : p xv with
    | false =>
      simp only [Bool.false_eq_true, if_false]
      refine ⟨xs.length + 1 - (i + 1), by omega, h₃, tk₃, ys, i + 1, rfl, hst₃, hacc₃, hsl₃, hC₃, ?_, hlt, rfl, hkG₃, hnew⟩
      rw [htake, hpv]; simpa using hF₃
    | true =>
      simp only [if_true]
      refine (helt xv v { s with heap := h₃, toks := tk₃ } hmem hpv (subB _ hkG₃) (hR _ _ _ _ (subQ _ hkG₃) hRv) (hsee.up hk₃)).use fun y s₄ hy hk₄ => ?_
      obtain ⟨h₄, tk₄, rfl, hk₄⟩ := hk₄
      obtain ⟨hQy, hfr⟩ := hy
      have hys : ys.size ≤ sizeLine := by
        have e1 := plist_size hF
        have e2 : (((xs.take i).filter p).map f).length ≤ (xs.take i).length := by rw [List.length_map]; exact List.length_filter_le _ _
        have e3 : (xs.take i).length ≤ xs.length := by rw [List.length_take]; omega
        have e5 : (10000 : Nat) ≤ sizeLine := by decide
        omega
      refine wpAny_list_append_plain (hsz := hys) (hacc₃.at fun o e => hk₄ _ o e) fun h₅ hl₅ hs₅ => ?_
      have yn : ∀ c, y = .ref c → c ≠ a ∧ c ∉ wr ∧ c ≠ D ∧ c ≠ cenv.locals := by
        intro c hc
        have hn := hfr c hc
        refine ⟨?_, ?_, ?_, ?_⟩
        · rintro rfl; obtain ⟨o, e, _⟩ := hsl₃.notSeq; rw [hn] at e; cases e
        · intro hm; obtain ⟨o, e⟩ := hlive _ _ hst₃ c hm; rw [hn] at e; cases e
        · rintro rfl; obtain ⟨n, e⟩ := hacc₃; rw [hn] at e; cases e
        · rintro rfl; obtain ⟨m, o, es, ep, e, _⟩ := hC₃; rw [hn] at e; cases e
      have hF₅ : Paired (fun y b => Q b y h₅) ys.toList (((xs.take i).filter p).map f) := pmono (fun b o n1 n2 n3 n4 e => hs₅.extBut b o n3 (hk₄ b o e)) hF₃
      have hQ₅ : Q (f xv) y h₅ := hQ _ _ _ _ (fun c hc o e => hs₅.extBut c o (yn c hc).2.2.1 e) hQy
      refine ⟨xs.length + 1 - (i + 1), by omega, h₅, tk₄, ys.push y, i + 1, rfl, ?_, hl₅, (hsl₃.at fun o e => hs₅.extBut _ o (Ne.symm hDa) (hk₄ _ o e)), ns_keep hC₃ (fun o e => hs₅.extBut _ o (Ne.symm hDC) (hk₄ _ o e)), ?_, hlt, rfl, fun b o hb e => hs₅.extBut b o (fun h => by rw [h, hGD] at e; cases e) (hk₄ b o (hkG₃ b o hb e)), ?_⟩
      · exact W.frame _ _ h₅ hst₃ fun b hb o e => hs₅.extBut b o (fun h => hDf (h ▸ hb)) (hk₄ b o e)
      · rw [htake, hpv]
        simpa using Paired.snoc hF₅ hQ₅
      · intro z hz c hc
        simp at hz
        rcases hz with hz | rfl
        · exact hnew z (by simpa using hz) c hc
        · exact yn c hc
  · have hin : i = xs.length := by omega
    subst hin
    refine W.done _ _ _ hst' fun h₁ tk₁ hk₁ => ?_
    rw [List.take_length] at hF
    exact hRR h₁ tk₁ ys (ns_keep hC' fun o e => hk₁ _ o hCw e) (hacc'.at fun o e => hk₁ _ o hDw e) (pmono (fun b o _ n2 _ _ e => hk₁ b o n2 e) hF) (fun y hy c hc => (hnew y hy c hc).2.2.2) fun b o hb e => hk₁ b o hb (hk b o hb e)
end
end MineQ
end

section
set_option Elab.async false
set_option maxRecDepth 100000
set_option linter.unusedVariables false
namespace MineQ
open PySem PySem.Calls PyProof.Rows

/-- a comprehension's list D, its items not at C -/
def isLC {β : Type} (Q : β → VP) (zs : List β) (C D : Addr) (h : Heap) : Prop := ∃ ys, h.PlainList D ys ∧ Paired (fun y b => Q b y h) ys.toList zs ∧ ∀ y ∈ ys.toList, ∀ c, y = .ref c → c ≠ C
theorem lc_isL {β : Type} {Q : β → VP} {zs : List β} {C D : Addr} {h : Heap} (x : isLC Q zs C D h) : isL Q zs (.ref D) h := let ⟨ys, a, b, _⟩ := x; ⟨D, ys, rfl, a, b⟩
theorem lc_subq {β : Type} {Q : β → VP} (hQ : ∀ b, Mono (Q b)) {zs : List β} {C D : Addr} {h h' : Heap} (k : SubQ h h') (x : isLC Q zs C D h) : isLC Q zs C D h' :=
  let ⟨ys, a, b, c⟩ := x; ⟨ys, plain_q k a, b.mono fun u x r => hQ _ _ _ _ k r, c⟩
theorem lc_same {β : Type} {Q : β → VP} (hQ : ∀ b, Own (Q b)) {zs : List β} {C D : Addr} {h h' : Heap} (hDC : D ≠ C) (hs : Heap.SameBut C h h') (x : isLC Q zs C D h) : isL Q zs (.ref D) h' := by
  obtain ⟨ys, a, b, c⟩ := x
  refine ⟨D, ys, rfl, a.extBut hs.extBut hDC, ?_⟩
  have key : ∀ (l₁ : List Value) (l₂ : List β), (∀ y ∈ l₁, y ∈ ys.toList) → Paired (fun y b => Q b y h) l₁ l₂ → Paired (fun y b => Q b y h') l₁ l₂ := by
    intro l₁ l₂ hm hp
    induction hp with
    | nil => exact .nil
    | cons q t ih =>
      rename_i y b l₁ l₂
      exact .cons (hQ b y _ _ (fun d hd o e => hs.extBut d o (c y (hm y List.mem_cons_self) d hd) e) q) (ih fun z hz => hm z (List.mem_cons_of_mem _ hz))
  exact key _ _ (fun _ h => h) b

section
variable {prog : Program} {w : World} {A : Around} {env : Env} {H : Heap} {s : Shared}

theorem comp_raw {α β : Type} {xs : List α} {R : α → VP} {Q : β → VP} {p : α → Bool} {f : α → β} {elt iter : Expr} {x : Str} {px : Pos} {ifs : List Expr} {scope : Scope} {cl : List (Str × Addr)} {pos pos' : Pos} {use : Option (Value → Sem Unit)} {Qf : Value → Shared → Prop} {E : Value → Shared → Prop}
    (hclos : closureFor scope env = pure cl) (hkind : scope.kind = .function) (hnames : ∀ y ∈ scope.names, y.2 = .local → scope.names.lookup y.1 = some .local)
    (hx : (scope.names.lookup x = some .local ∧ (∀ n, cellsFrom n scope.names cl = cl) ∧ (∀ h, pushCells h scope.names = h)) ∨
      ((relabel scope env).names.lookup x = some .cell ∧ (∀ n, cellsFrom n scope.names cl = (x, n) :: cl) ∧ (∀ h, pushCells h scope.names = h.push { cls := .type "cell", data := .cell none })))
    (hsrc : Src prog w A env H iter xs R) (hsz : xs.length ≤ 10000) (hQ : ∀ b, Own (Q b)) (hR : ∀ x, Mono (R x))
    (htests : ∀ L xv v s₂, xv ∈ xs → Sub H s₂.heap → R xv v s₂.heap → Sees (cEnv scope cl L env) s₂.heap x v → Gv prog w A (testsOf ifs (cEnv scope cl L env)) (fun ok _ => ok = p xv) s₂)
    (helt : ∀ L xv v s₂, xv ∈ xs → p xv = true → Sub H s₂.heap → R xv v s₂.heap → Sees (cEnv scope cl L env) s₂.heap x v → Gv prog w A (eval elt (cEnv scope cl L env)) (fun y h => Q (f xv) y h ∧ ∀ a, y = .ref a → s₂.heap.get? a = none) s₂)
    (hs : Sub H s.heap)
    (hfin : ∀ D C h' tk, s.heap.get? D = none → s.heap.get? C = none → D ≠ C → (∃ m, h'.Ns C m) → isLC Q ((xs.filter p).map f) C D h' → Sub s.heap h' → compPost (model prog w) A E use Qf (.ref D) C (.ok .next) { s with heap := h', toks := tk })
    (hset : ∀ x, foldedSetIterable iter env x = pure x := by intro _; rfl) :
    wpAny (model prog w) A (comprehension (.ListComp elt [⟨.Name x px, iter, ifs, 0⟩] scope pos) scope env pos' (newList []) false (eval iter env) use) Qf E s := by
  refine wpAny_comprehension_free (use := use) rfl hset hclos hkind hnames (wpAny_mono (hsrc s hs E) (fun xv s₁ h₁ => wpAny_mono h₁ (fun it s₂ h₂ => ?_) fun _ _ e => e) fun _ _ e => e)
  obtain ⟨k₂, I, fp, wr, P, St, rfl, W, hst, hfp, hwr, hlive, hitem⟩ := h₂
  obtain ⟨G, tkG, rfl, kG⟩ := k₂
  refine wpAny_newObj_type (wpAny_compNewEnv ?_)
  dsimp only at hst hfp hwr hitem ⊢
  generalize hH2 : G.push { cls := .type "list", dict := none, data := .seq ([] : List Value).toArray } = H2
  have hC : H2.objs.size = G.objs.size + 1 := by rw [← hH2, Heap.size_push]
  generalize hH3 : H2.push { cls := .type "dict", data := .dict #[] } = H3
  have hC3 : H3.objs.size = G.objs.size + 2 := by rw [← hH3, Heap.size_push, hC]
  generalize hH4 : pushCells H3 scope.names = H4
  have sub3 : Sub G H3 := fun b o e => hH3 ▸ Heap.get?_push_of_some _ (hH2 ▸ Heap.get?_push_of_some _ e)
  have sub34 : Sub H3 H4 := fun b o e => hH4 ▸ pushCells_keeps _ _ b o e
  have sub4 : Sub G H4 := Sub.trans sub3 sub34
  have hns : H4.Ns H2.objs.size (fun _ => none) := by
    have : H3.Ns H2.objs.size (fun _ => none) := hH3 ▸ Heap.Ns.new H2 (.type "dict")
    exact this.keeps sub34
  have hacc : H4.PlainList G.objs.size #[] := ⟨_, sub34 _ _ (hH3 ▸ Heap.get?_push_of_some _ (hH2 ▸ Heap.get?_push_size _ rfl))⟩
  have nfp : ∀ b, G.objs.size ≤ b → b ∉ fp := fun b hb hm => Nat.lt_irrefl _ (Nat.lt_of_lt_of_le (hfp b hm).1 hb)
  have hDC : G.objs.size ≠ H2.objs.size := by rw [hC]; exact Nat.ne_of_lt (Nat.lt_succ_self _)
  have loop : ∀ (s₃ : Shared), s₃ = { s with heap := H4, toks := tkG } →
      codeAny (model prog w) A (.compLoop (.ListComp elt [⟨.Name x px, iter, ifs, 0⟩] scope pos) 0 (.ref I) (.ref G.objs.size) (cEnv scope cl H2.objs.size env))
        (compPost (model prog w) A E use Qf (.ref G.objs.size) H2.objs.size) s₃ := by
    rintro s₃ rfl
    obtain ⟨a, ha, hslot⟩ : ∃ a, G.objs.size ≤ a ∧ SlotAt (cEnv scope cl H2.objs.size env) H4 x a := by
      rcases hx with ⟨h1, h2, h3⟩ | ⟨h1, h2, h3⟩
      · refine ⟨H2.objs.size, by rw [hC]; exact Nat.le_succ _, .loc _ (lookup_relabel_local h1) rfl hns⟩
      · refine ⟨H3.objs.size, by rw [hC3]; exact Nat.le_add_right _ _, .cell none h1 ?_ ?_⟩
        · show (cellsFrom (H2.objs.size + 1) scope.names cl).lookup x = _
          rw [h2, List.lookup_cons, beq_self_eq_true, hC3, hC]
        · rw [← hH4, h3]
          exact ⟨_, Heap.get?_push_size _ rfl, rfl⟩
    refine comp_loop (B := H) (G := G) W hkind hQ hR hslot ⟨_, hns⟩ (nfp _ ha) (nfp _ (by show G.objs.size ≤ H2.objs.size; rw [hC]; exact Nat.le_succ _)) (nfp _ (Nat.le_refl _)) (W.frame _ _ _ hst fun b _ o e => sub4 b o e) hacc
      (fun b o _ e => sub4 b o e) (fresh_le ha) fresh_size (fun b hb => (hwr b hb).2) (fun i h st b hb => let ⟨o, e, _⟩ := hlive i h st b hb; ⟨o, e⟩) (Sub.trans hs kG) (fun b hb => sub_none hs (hwr b hb).1) hitem
      (fun xv v s₂ => htests _ xv v s₂) (fun xv v s₂ => helt _ xv v s₂) (fun h' tk ys hn hl hp hnc hk => ?_) hsz
    refine hfin _ _ h' tk (sub_none kG fresh_size) (sub_none kG (fresh_le (by rw [hC]; exact Nat.le_succ _))) hDC hn ⟨ys, hl, hp, hnc⟩ fun b o e => hk b o (fun hb => by rw [(hwr b hb).1] at e; cases e) (kG b o e)
  exact codeAny_compStart_list (loop _ rfl) (W.self 0 _ _ _ (W.frame _ _ _ hst fun b _ o e => sub4 b o e) (loop _ rfl))

theorem evf_comp {α β : Type} {xs : List α} {R : α → VP} {Q : β → VP} {p : α → Bool} {f : α → β} {elt iter : Expr} {x : Str} {px : Pos} {ifs : List Expr} {scope : Scope} {cl : List (Str × Addr)} {pos : Pos}
    (hclos : closureFor scope env = pure cl) (hkind : scope.kind = .function) (hnames : ∀ y ∈ scope.names, y.2 = .local → scope.names.lookup y.1 = some .local)
    (hx : (scope.names.lookup x = some .local ∧ (∀ n, cellsFrom n scope.names cl = cl) ∧ (∀ h, pushCells h scope.names = h)) ∨
      ((relabel scope env).names.lookup x = some .cell ∧ (∀ n, cellsFrom n scope.names cl = (x, n) :: cl) ∧ (∀ h, pushCells h scope.names = h.push { cls := .type "cell", data := .cell none })))
    (hsrc : Src prog w A env H iter xs R) (hsz : xs.length ≤ 10000) (hQ : ∀ b, Own (Q b)) (hR : ∀ x, Mono (R x))
    (htests : ∀ L xv v s₂, xv ∈ xs → Sub H s₂.heap → R xv v s₂.heap → Sees (cEnv scope cl L env) s₂.heap x v → Gv prog w A (testsOf ifs (cEnv scope cl L env)) (fun ok _ => ok = p xv) s₂)
    (helt : ∀ L xv v s₂, xv ∈ xs → p xv = true → Sub H s₂.heap → R xv v s₂.heap → Sees (cEnv scope cl L env) s₂.heap x v → Gv prog w A (eval elt (cEnv scope cl L env)) (fun y h => Q (f xv) y h ∧ ∀ a, y = .ref a → s₂.heap.get? a = none) s₂)
    (hset : ∀ x, foldedSetIterable iter env x = pure x := by intro _; rfl) :
    EvF prog w A env H (.ListComp elt [⟨.Name x px, iter, ifs, 0⟩] scope pos) (isL Q ((xs.filter p).map f)) := by
  intro s hs E
  rw [eval_ListComp]
  refine comp_raw hclos hkind hnames hx hsrc hsz hQ hR htests helt hs (fun D C h' tk hD hC hDC hn hl hk => ?_) hset
  obtain ⟨m, hn⟩ := hn
  refine ⟨m, hn, fun h'' hs'' => ⟨⟨lc_same hQ hDC hs'' hl, ?_⟩, ?_⟩⟩
  · rintro a e; cases e; exact hD
  · exact kmk fun b o e => hs''.extBut b o (fun h => by rw [h, hC] at e; cases e) (hk b o e)
end
end MineQ
end

section
set_option Elab.async false
set_option maxRecDepth 100000
set_option linter.unusedVariables false
namespace MineQ
open PySem PySem.Calls PyProof.Rows

def upd (m : Str → Option Value) (x : Str) (v : Value) : Str → Option Value := fun y => if y = x then some v else m y

/-- a frame of the text's own: its locals m, its cells cm -/
structure Fn (s₀ : Shared) (env : Env) (m cm : Str → Option Value) (s : Shared) : Prop where
  kind : env.scope.kind = .function
  same : ∃ h tk, s = { s₀ with heap := h, toks := tk }
  ns : s.heap.Ns env.locals m
  cell : ∀ n c, env.cells.lookup n = some c → s.heap.IsCell c (cm n)
  apart : env.cells.Pairwise fun x y => x.2 ≠ y.2
  keep : Sub s₀.heap s.heap
  newL : s₀.heap.get? env.locals = none
  newC : ∀ n c, env.cells.lookup n = some c → s₀.heap.get? c = none

/-- all stays but what the frame's own names are stored at -/
def Stay (env : Env) (h h' : Heap) : Prop := ∀ b o, h.get? b = some o → b ≠ env.locals → (∀ n, env.cells.lookup n ≠ some b) → h'.get? b = some o
theorem Stay.refl (env : Env) (h : Heap) : Stay env h h := fun _ _ e _ _ => e
theorem Sub.stay {env : Env} {h h' : Heap} (k : Sub h h') : Stay env h h' := fun b o e _ _ => k b o e
theorem Stay.trans {env : Env} {a b c : Heap} (x : Stay env a b) (y : Stay env b c) : Stay env a c := fun p o e h1 h2 => y p o (x p o e h1 h2) h1 h2

section
variable {prog : Program} {w : World} {A : Around} {env : Env} {s₀ s : Shared} {m cm : Str → Option Value}

theorem Fn.subq {h' : Heap} (F : Fn s₀ env m cm s) (k : Stay env s.heap h') : SubQ s.heap h' := by
  intro b o xs n e d
  refine k b o e ?_ ?_
  · rintro rfl
    obtain ⟨o', es, ep, ho, hd, _⟩ := F.ns
    rw [ho] at e; cases e; rw [hd] at d; cases d
  · intro nm hc
    obtain ⟨o', ho, hd⟩ := F.cell nm b hc
    rw [ho] at e; cases e; rw [hd] at d; cases d

theorem Fn.done (F : Fn s₀ env m cm s) : Keeps s₀ s := by obtain ⟨h, tk, rfl⟩ := F.same; exact ⟨h, tk, rfl, F.keep⟩
theorem Fn.keeps {s' : Shared} (F : Fn s₀ env m cm s) (k : Keeps s s') : Fn s₀ env m cm s' := by
  obtain ⟨h, tk, rfl, k⟩ := k
  obtain ⟨h₁, tk₁, rfl⟩ := F.same
  exact ⟨F.kind, ⟨h, tk, rfl⟩, F.ns.keeps k, fun n c e => (F.cell n c e).keeps k, F.apart, Sub.trans F.keep k, F.newL, F.newC⟩
theorem Fn.loc {x : Str} {v : Value} (F : Fn s₀ env m cm s) (hv : m x = some v) (hk : env.kindOf x = some .local := by rfl) : Sees env s.heap x v := .loc m hk F.ns hv
theorem Fn.cel {x : Str} {v : Value} {c : Addr} (F : Fn s₀ env m cm s) (hc : env.cells.lookup x = some c) (hv : cm x = some v) (hk : env.kindOf x = some .cell := by rfl) : Sees env s.heap x v :=
  .cell c hk hc (hv ▸ F.cell x c hc)
theorem Fn.store {M : Model} {x : Str} {v : Value} {Q : Unit → Shared → Prop} {E : Value → Shared → Prop} (F : Fn s₀ env m cm s) (hk : env.kindOf x = some .local)
    (h : ∀ s', Fn s₀ env (upd m x v) cm s' → SubQ s.heap s'.heap → Stay env s.heap s'.heap → Q () s') : wpAny M A (storeName env x v) Q E s := by
  refine wpAny_storeName_local hk F.ns (fun h' hn' hs' => h _ ⟨F.kind, ?_, hn', fun n c e => ?_, F.apart, fun b o e => ?_, F.newL, F.newC⟩ (subq_ns F.ns hs') (fun b o e h1 _ => hs'.extBut b o h1 e)) (by rw [F.kind]; rfl)
  · obtain ⟨h₁, tk₁, rfl⟩ := F.same; exact ⟨h', _, rfl⟩
  · refine (F.cell n c e).sameBut hs' ?_
    rintro rfl
    obtain ⟨o, es, ep, ho, hd, _⟩ := F.ns
    obtain ⟨o', ho', hd'⟩ := F.cell n _ e
    rw [ho] at ho'; cases ho'; rw [hd] at hd'; cases hd'
  · exact hs'.extBut b o (fun hb => by rw [hb, F.newL] at e; cases e) (F.keep b o e)
theorem Fn.storeC {M : Model} {x : Str} {v : Value} {c : Addr} {Q : Unit → Shared → Prop} {E : Value → Shared → Prop} (F : Fn s₀ env m cm s) (hk : env.kindOf x = some .cell) (hc : env.cells.lookup x = some c)
    (h : ∀ s', Fn s₀ env m (upd cm x v) s' → SubQ s.heap s'.heap → Stay env s.heap s'.heap → Q () s') : wpAny M A (storeName env x v) Q E s := by
  refine wpAny_storeName_cell F.kind hk hc (F.cell x c hc) fun h' hc' hs' => h _ ⟨F.kind, ?_, ?_, fun n c' e => ?_, F.apart, fun b o e => ?_, F.newL, F.newC⟩ (subq_cell (F.cell x c hc) hs') (fun b o e _ h2 => hs'.extBut b o (fun h => h2 x (h ▸ hc)) e)
  · obtain ⟨h₁, tk₁, rfl⟩ := F.same; exact ⟨h', _, rfl⟩
  · refine F.ns.sameBut hs' ?_
    intro hh
    obtain ⟨o, es, ep, ho, hd, _⟩ := F.ns
    obtain ⟨o', ho', hd'⟩ := F.cell x _ hc
    rw [hh] at ho; rw [ho] at ho'; cases ho'; rw [hd] at hd'; cases hd'
  · by_cases hn : n = x
    · subst hn; rw [hc] at e; cases e; simpa [upd] using hc'
    · have : upd cm x v n = cm n := by simp [upd, hn]
      rw [this]
      exact (F.cell n c' e).sameBut hs' fun h => hn (name_of_addr F.apart (mem_of_lookup e) (h ▸ mem_of_lookup hc))
  · exact hs'.extBut b o (fun hb => by rw [hb, F.newC x c hc] at e; cases e) (F.keep b o e)

theorem x_nil' {Q : Flow → Shared → Prop} {E : Value → Shared → Prop} (h : Q .next s) : wpAny (model prog w) A (execs [] env) Q E s := wpAny_execs_nil h
theorem x_assign' {x : Str} {px pos : Pos} {e : Expr} {rest : List Stmt} {P : VP} {Q : Flow → Shared → Prop} {E : Value → Shared → Prop} (F : Fn s₀ env m cm s) (he : Ev prog w A env s.heap e P) (hP : Mono P)
    (k : ∀ v s', Fn s₀ env (upd m x v) cm s' → SubQ s.heap s'.heap → Stay env s.heap s'.heap → P v s'.heap → wpAny (model prog w) A (execs rest env) Q E s')
    (hk : env.kindOf x = some .local := by rfl) (hsw : swapsWith e (some (.Name x px)) pos.line env = pure false := by rfl) : wpAny (model prog w) A (execs (.Assign [.Name x px] e pos :: rest) env) Q E s := by
  refine wpAny_execs_cons (wpAny_Assign_Name ((he s (fun _ _ e => e)).use fun v s₁ hv k₁ => ?_) hsw)
  exact (F.keeps k₁).store hk fun s' F' q z => k v s' F' ((ksub k₁).q.trans q) ((Sub.stay (ksub k₁)).trans z) (hP _ _ _ q hv)
theorem x_assignC' {x : Str} {px pos : Pos} {e : Expr} {c : Addr} {rest : List Stmt} {P : VP} {Q : Flow → Shared → Prop} {E : Value → Shared → Prop} (F : Fn s₀ env m cm s) (he : Ev prog w A env s.heap e P) (hP : Mono P)
    (k : ∀ v s', Fn s₀ env m (upd cm x v) s' → SubQ s.heap s'.heap → Stay env s.heap s'.heap → P v s'.heap → wpAny (model prog w) A (execs rest env) Q E s') (hc : env.cells.lookup x = some c)
    (hk : env.kindOf x = some .cell := by rfl) (hsw : swapsWith e (some (.Name x px)) pos.line env = pure false := by rfl) : wpAny (model prog w) A (execs (.Assign [.Name x px] e pos :: rest) env) Q E s := by
  refine wpAny_execs_cons (wpAny_Assign_Name ((he s (fun _ _ e => e)).use fun v s₁ hv k₁ => ?_) hsw)
  exact (F.keeps k₁).storeC hk hc fun s' F' q z => k v s' F' ((ksub k₁).q.trans q) ((Sub.stay (ksub k₁)).trans z) (hP _ _ _ q hv)
theorem x_return' {e : Expr} {pos : Pos} {rest : List Stmt} {P : VP} {Q : Flow → Shared → Prop} {E : Value → Shared → Prop} (he : Ev prog w A env s.heap e P)
    (k : ∀ v s', P v s'.heap → Keeps s s' → Q (.ret v) s') : wpAny (model prog w) A (execs (.Return (some e) pos :: rest) env) Q E s :=
  wpAny_execs_cons (wpAny_Return_some ((he s (fun _ _ e => e)).use fun v s₁ hv k₁ => k v s₁ hv k₁))
theorem x_if' {t : Expr} {b o : List Stmt} {pos : Pos} {rest : List Stmt} {c : Bool} {Q : Flow → Shared → Prop} {E : Value → Shared → Prop} (ht : Et prog w A env s.heap t c)
    (h : ∀ s', Keeps s s' → wpAny (model prog w) A (execs (if c then b else o) env) (fun f s'' => match f with | .next => wpAny (model prog w) A (execs rest env) Q E s'' | f => Q f s'') E s') :
    wpAny (model prog w) A (execs (.If t b o pos :: rest) env) Q E s := by
  refine wpAny_execs_cons (wpAny_If ((ht s (fun _ _ e => e)).use fun x s₁ hx k => ?_))
  subst hx
  have := h s₁ k
  cases x with
  | true => exact this
  | false => exact this

/-- an assignment whose comprehension is stored ahead of its names' going -/
theorem x_assignComp' {α β : Type} {xs : List α} {R : α → VP} {Q : β → VP} {p : α → Bool} {f : α → β} {elt iter : Expr} {x y : Str} {px py : Pos} {ifs : List Expr} {scope : Scope} {cl : List (Str × Addr)} {pos spos : Pos} {rest : List Stmt} {Qf : Flow → Shared → Prop} {E : Value → Shared → Prop}
    (F : Fn s₀ env m cm s) (hk : env.kindOf y = some .local) (hsw : swapsWith (.ListComp elt [⟨.Name x px, iter, ifs, 0⟩] scope pos) (some (.Name y py)) spos.line env = pure true)
    (hclos : closureFor scope env = pure cl) (hkind : scope.kind = .function) (hnames : ∀ y ∈ scope.names, y.2 = .local → scope.names.lookup y.1 = some .local)
    (hx : (scope.names.lookup x = some .local ∧ (∀ n, cellsFrom n scope.names cl = cl) ∧ (∀ h, pushCells h scope.names = h)) ∨
      ((relabel scope env).names.lookup x = some .cell ∧ (∀ n, cellsFrom n scope.names cl = (x, n) :: cl) ∧ (∀ h, pushCells h scope.names = h.push { cls := .type "cell", data := .cell none })))
    (hsrc : Src prog w A env s.heap iter xs R) (hsz : xs.length ≤ 10000) (hQ : ∀ b, Own (Q b)) (hQm : ∀ b, Mono (Q b)) (hR : ∀ x, Mono (R x))
    (htests : ∀ L xv v s₂, xv ∈ xs → Sub s.heap s₂.heap → R xv v s₂.heap → Sees (cEnv scope cl L env) s₂.heap x v → Gv prog w A (testsOf ifs (cEnv scope cl L env)) (fun ok _ => ok = p xv) s₂)
    (helt : ∀ L xv v s₂, xv ∈ xs → p xv = true → Sub s.heap s₂.heap → R xv v s₂.heap → Sees (cEnv scope cl L env) s₂.heap x v → Gv prog w A (eval elt (cEnv scope cl L env)) (fun y h => Q (f xv) y h ∧ ∀ a, y = .ref a → s₂.heap.get? a = none) s₂)
    (k : ∀ v s', Fn s₀ env (upd m y v) cm s' → SubQ s.heap s'.heap → Stay env s.heap s'.heap → isL Q ((xs.filter p).map f) v s'.heap → wpAny (model prog w) A (execs rest env) Qf E s')
    (hset : ∀ x, foldedSetIterable iter env x = pure x := by intro _; rfl) :
    wpAny (model prog w) A (execs (.Assign [.Name y py] (.ListComp elt [⟨.Name x px, iter, ifs, 0⟩] scope pos) spos :: rest) env) Qf E s := by
  refine wpAny_execs_cons ?_
  rw [exec_Assign_Name_used _ _ _ _ hsw]
  refine wpAny_bind (wpAny_standAt (wpAny_bind ?_))
  show wpAny _ A (do let _ ← comprehension (.ListComp elt [⟨.Name x px, iter, ifs, 0⟩] scope pos) scope env _ (newList []) false (eval iter env) (some (assign (.Name y py) env))) _ _ s
  refine wpAny_bind (wpAny_mono (comp_raw (Qf := fun _ s' => wpAny (model prog w) A (execs rest env) Qf E s') hclos hkind hnames hx hsrc hsz hQ hR htests helt (fun _ _ e => e) (fun D C h' tk hD hC hDC hn hl hkk => ?_) hset) (fun _ s' hq => wpAny_pure (wpAny_pure hq)) fun _ _ e => e)
  have F' := F.keeps (s' := { s with heap := h', toks := tk }) (kmk hkk)
  have hLC : env.locals ≠ C := by intro e; obtain ⟨o, _, _, ho, _⟩ := F.ns; rw [e, hC] at ho; cases ho
  obtain ⟨mC, hnC⟩ := hn
  refine wpAny_assign_Name (wpAny_storeName_local hk F'.ns (fun h₂ hn₂ hs₂ => ?_) (by rw [F.kind]; rfl))
  refine ⟨mC, hnC.sameBut hs₂ (Ne.symm hLC), fun h₃ hs₃ => ?_⟩
  have q2 : SubQ h' h₂ := subq_ns F'.ns hs₂
  have hl₂ := lc_subq hQm q2 hl
  have hl₃ := lc_same hQ hDC hs₃ hl₂
  refine k (.ref D) _ ⟨F.kind, ?_, hn₂.sameBut hs₃ hLC, fun n c e => ?_, F.apart, fun b o e => ?_, F.newL, F.newC⟩ ?_ ?_ hl₃
  · obtain ⟨h₁, tk₁, rfl⟩ := F.same; exact ⟨h₃, _, rfl⟩
  · refine ((F'.cell n c e).sameBut hs₂ ?_).sameBut hs₃ ?_
    · rintro rfl
      obtain ⟨o, es, ep, ho, hd, _⟩ := F.ns
      obtain ⟨o', ho', hd'⟩ := F.cell n _ e
      rw [ho] at ho'; cases ho'; rw [hd] at hd'; cases hd'
    · rintro rfl
      obtain ⟨o', ho', hd'⟩ := F.cell n _ e
      rw [hC] at ho'; cases ho'
  · have e1 := F.keep b o e
    refine hs₃.extBut b o (fun h => by rw [h, hC] at e1; cases e1) (hs₂.extBut b o (fun h => by rw [h, F.newL] at e; cases e) (hkk b o e1))
  · intro b o ys n e d
    have e1 := hkk b o e
    refine hs₃.extBut b o (fun h => by rw [h, hC] at e; cases e) (q2 b o ys n e1 d)
  · intro b o e n1 n2
    exact hs₃.extBut b o (fun h => by rw [h, hC] at e; cases e) (hs₂.extBut b o n1 (hkk b o e))
end

section
variable {prog : Program} {w : World} {A : Around} {env : Env} {s₀ s : Shared} {m cm : Str → Option Value}
/-- a loop that changes names of the frame alone -/
theorem x_for' {α : Type} {xs : List α} {R : α → VP} {x : Str} {px pos : Pos} {iter : Expr} {body rest : List Stmt} {Q : Flow → Shared → Prop} {E : Value → Shared → Prop} (st : (Str → Option Value) → (Str → Option Value) → Value → (Str → Option Value) × (Str → Option Value))
    (hst : ∀ (m cm : Str → Option Value) (s : Shared) (v : Value) (Q : Unit → Shared → Prop) (E : Value → Shared → Prop), Fn s₀ env m cm s → (∀ s', Fn s₀ env (st m cm v).1 (st m cm v).2 s' → SubQ s.heap s'.heap → Stay env s.heap s'.heap → Q () s') → wpAny (model prog w) A (storeName env x v) Q E s)
    (F : Fn s₀ env m cm s) (hsrc : Src prog w A env s.heap iter xs R) (hR : ∀ x, Mono (R x)) (J : Nat → (Str → Option Value) → (Str → Option Value) → Heap → Prop) (hJ : ∀ i m cm h h', SubQ h h' → J i m cm h → J i m cm h') (h0 : J 0 m cm s.heap)
    (step : ∀ i xv v m₁ cm₁ s₁, xs[i]? = some xv → (∃ h, SubQ h s₁.heap ∧ J i m₁ cm₁ h) → R xv v s₁.heap → Fn s₀ env (st m₁ cm₁ v).1 (st m₁ cm₁ v).2 s₁ → SubQ s.heap s₁.heap →
      wpAny (model prog w) A (execs body env) (fun f s₂ => f = .next ∧ ∃ m₂ cm₂, Fn s₀ env m₂ cm₂ s₂ ∧ Stay env s₁.heap s₂.heap ∧ J (i + 1) m₂ cm₂ s₂.heap) (fun _ _ => False) s₁)
    (k : ∀ m' cm' s', Fn s₀ env m' cm' s' → J xs.length m' cm' s'.heap → SubQ s.heap s'.heap → Stay env s.heap s'.heap → wpAny (model prog w) A (execs rest env) Q E s')
    (hset : ∀ x, foldedSetIterable iter env x = pure x := by intro _; rfl) :
    wpAny (model prog w) A (execs (.For (.Name x px) iter body [] pos :: rest) env) Q E s := by
  refine wpAny_execs_cons (wpAny_For (wpAny_mono (hsrc s (fun _ _ e => e) E) (fun xv s₁ h₁ => wpAny_mono h₁ (fun it s₂ h₂ => ?_) fun _ _ e => e) fun _ _ e => e) hset)
  obtain ⟨k₂, I, fp, wr, P, St, rfl, W, hst₀, hfp, hwr, hlive, hitem⟩ := h₂
  have F₂ := F.keeps k₂
  have wrN : ∀ b ∈ wr, b ≠ env.locals ∧ ∀ n, env.cells.lookup n ≠ some b := by
    intro b hb
    constructor
    · rintro rfl
      obtain ⟨o', es, ep, ho, _⟩ := F.ns
      rw [(hwr _ hb).1] at ho; cases ho
    · intro n hc
      obtain ⟨o', ho, _⟩ := F.cell n b hc
      rw [(hwr _ hb).1] at ho; cases ho
  have fpN : ∀ b ∈ fp, b ≠ env.locals ∧ ∀ n, env.cells.lookup n ≠ some b := by
    intro b hb
    rcases (hfp b hb).2 with h | ⟨o, ys, n, e, d⟩
    · exact wrN b h
    · constructor
      · rintro rfl
        obtain ⟨o', es, ep, ho, hd, _⟩ := F₂.ns
        rw [ho] at e; cases e; rw [hd] at d; cases d
      · intro n hc
        obtain ⟨o', ho, hd⟩ := F₂.cell n b hc
        rw [ho] at e; cases e; rw [hd] at d; cases d
  have subQ : ∀ h', (∀ b o, s₂.heap.get? b = some o → b ∉ wr → b ≠ env.locals → (∀ n, env.cells.lookup n ≠ some b) → h'.get? b = some o) → SubQ s₂.heap h' := by
    intro h' kk b o ys n e d
    refine kk b o e ?_ ?_ ?_
    · intro hb; obtain ⟨o', e', hn⟩ := (hwr b hb).2; rw [e'] at e; cases e; exact hn _ _ d
    · rintro rfl
      obtain ⟨o', es, ep, ho, hd, _⟩ := F₂.ns
      rw [ho] at e; cases e; rw [hd] at d; cases d
    · intro n hc
      obtain ⟨o', ho, hd⟩ := F₂.cell n b hc
      rw [ho] at e; cases e; rw [hd] at d; cases d
  refine codeAny_forLoop (fun q s' => ∃ i m' cm', q = xs.length + 1 - i ∧ i ≤ xs.length ∧ Fn s₀ env m' cm' s' ∧ St i s'.heap ∧ J i m' cm' s'.heap ∧
    (∀ b o, s₂.heap.get? b = some o → b ∉ wr → b ≠ env.locals → (∀ n, env.cells.lookup n ≠ some b) → s'.heap.get? b = some o)) ?_ (xs.length + 1)
    ⟨0, m, cm, rfl, Nat.zero_le _, F₂, hst₀, hJ _ _ _ _ _ (ksub k₂).q h0, fun _ _ e _ _ _ => e⟩
  rintro q s' ⟨i, m', cm', rfl, hi, F', hS, hJ', hk'⟩
  by_cases hlt : i < xs.length
  · refine W.item i _ _ _ hlt hS fun v h₁ tk₁ hPv hst₁ hk₁ => ?_
    obtain ⟨xv, hxv, hRv⟩ := hitem i v hlt hPv
    have up₁ : ∀ b o, s'.heap.get? b = some o → b ∉ wr → h₁.get? b = some o := fun b o e hb => hk₁ b o hb e
    have Fs : Fn s₀ env m' cm' { s' with heap := h₁, toks := tk₁ } := by
      obtain ⟨hh, tt, rfl⟩ := F'.same
      refine ⟨F'.kind, ⟨_, _, rfl⟩, F'.ns.at' (fun o e => up₁ _ o e fun hb => (wrN _ hb).1 rfl), fun n c e => cell_at (F'.cell n c e) (fun o e' => up₁ _ o e' fun hb => (wrN _ hb).2 n e), F'.apart, fun b o e => ?_, F'.newL, F'.newC⟩
      refine up₁ b o (F'.keep b o e) fun hb => ?_
      have := sub_none F.keep (hwr b hb).1
      rw [this] at e; cases e
    refine wpAny_assign_Name (hst m' cm' _ v _ _ Fs fun s₃ F₃ q₃ z₃ => ?_)
    have kk₃ : ∀ b o, s₂.heap.get? b = some o → b ∉ wr → b ≠ env.locals → (∀ n, env.cells.lookup n ≠ some b) → s₃.heap.get? b = some o := fun b o e n1 n2 n3 => z₃ b o (up₁ b o (hk' b o e n1 n2 n3) n1) n2 n3
    have q1 : SubQ s'.heap h₁ := by
      intro b o ys n e d
      refine up₁ b o e fun hb => ?_
      obtain ⟨o2, e2, hn⟩ := hlive _ _ hS b hb
      rw [e] at e2; cases e2; exact hn _ _ d
    refine wpAny_mono (step i xv v m' cm' s₃ hxv ⟨s'.heap, q1.trans q₃, hJ'⟩ (hR _ _ _ _ (subQ _ kk₃) hRv) F₃ ((ksub k₂).q.trans (subQ _ kk₃))) (fun f s₄ h₄ => ?_) fun _ _ e => e.elim
    obtain ⟨rfl, m₂, cm₂, F₄, z₄, hJ₄⟩ := h₄
    refine ⟨xs.length + 1 - (i + 1), by omega, i + 1, m₂, cm₂, rfl, hlt, F₄, ?_, hJ₄, fun b o e n1 n2 n3 => z₄ b o (kk₃ b o e n1 n2 n3) n2 n3⟩
    exact W.frame _ _ _ hst₁ fun b hb o e => z₄ b o (z₃ b o e (fpN b hb).1 (fpN b hb).2) (fpN b hb).1 (fpN b hb).2
  · have hin : i = xs.length := by omega
    subst hin
    refine W.done _ _ _ hS fun h₁ tk₁ hk₁ => wpAny_execs_nil ?_
    have up₁ : ∀ b o, s'.heap.get? b = some o → b ∉ wr → h₁.get? b = some o := fun b o e hb => hk₁ b o hb e
    have Fs : Fn s₀ env m' cm' { s' with heap := h₁, toks := tk₁ } := by
      obtain ⟨hh, tt, rfl⟩ := F'.same
      refine ⟨F'.kind, ⟨_, _, rfl⟩, F'.ns.at' (fun o e => up₁ _ o e fun hb => (wrN _ hb).1 rfl), fun n c e => cell_at (F'.cell n c e) (fun o e' => up₁ _ o e' fun hb => (wrN _ hb).2 n e), F'.apart, fun b o e => ?_, F'.newL, F'.newC⟩
      refine up₁ b o (F'.keep b o e) fun hb => ?_
      have := sub_none F.keep (hwr b hb).1
      rw [this] at e; cases e
    have q1 : SubQ s'.heap h₁ := by
      intro b o ys n e d
      refine up₁ b o e fun hb => ?_
      obtain ⟨o2, e2, hn⟩ := hlive _ _ hS b hb
      rw [e] at e2; cases e2; exact hn _ _ d
    have st₁ : Stay env s.heap h₁ := fun b o e n1 n2 => up₁ b o (hk' b o (ksub k₂ b o e) (fun hb => by rw [(hwr b hb).1] at e; cases e) n1 n2) (fun hb => by rw [(hwr b hb).1] at e; cases e)
    exact k m' cm' _ Fs (hJ _ _ _ _ _ q1 hJ') (F.subq st₁) st₁
end

section
variable {prog : Program} {w : World} {A : Around} {s : Shared}
/-- a call of the text's own def -/
theorem gv_fn' {a : Addr} {o : Obj} {fd : FuncData} {body : List Stmt} {vals : List Value} {binds : List (Str × Value)} {P : VP}
    (hroom : A.depth < recursionLimit) (ho : s.heap.get? a = some o) (hdata : o.data = .func fd) (hlim : s.heap.NoLimit) (hcd : s.heap.CodeRec fd.code fd.qualname)
    (hbody : fd.body = .stmts body) (hbind : bindArgs fd ⟨vals, []⟩ = pure binds) (hclo : fd.closure = [])
    (hkind : ∀ x ∈ binds, fd.scope.names.lookup x.1 = some .local ∨ (fd.scope.names.lookup x.1 = some .cell ∧ ((cellsFrom (s.heap.objs.size + 1) fd.scope.names []).lookup x.1).isSome = true))
    (h : ∀ s₁, Fn s (callEnvC fd s.heap.objs.size a) (bindL (callEnvC fd s.heap.objs.size a).kindOf binds fun _ => none) (bindC (callEnvC fd s.heap.objs.size a).kindOf binds fun _ => none) s₁ →
      wpAny (model prog w) (A.deeper (callEnvC fd s.heap.objs.size a)) (execs body (callEnvC fd s.heap.objs.size a)) (fun f s' => ∃ v, f = .ret v ∧ P v s'.heap ∧ Keeps s s') (fun _ _ => False) s₁)
    (hco : fd.scope.isCoroutine = false := by rfl) (hgen : fd.scope.isGenerator = false := by rfl) (hk : fd.scope.kind = .function := by rfl) :
    Gv prog w A (call (.ref a) vals) P s := fun E => by
  refine wpAny_call (codeAny_call_cells hroom ho hdata hlim hcd hbody hbind hclo hkind (fun s₁ X => wpAny_mono (h s₁ ⟨hk, X.toInCall.same, X.toInCall.ns, X.cell, X.apart, X.toInCall.keep, ?_, ?_⟩) (fun f s' hf => ?_) (fun _ _ x => x.elim)) hco hgen hk)
  · exact fresh_size
  · intro n c e
    exact fresh_le (Nat.le_of_lt (X.above n c (mem_of_lookup e)))
  · obtain ⟨v, rfl, hp, hk⟩ := hf
    exact ⟨hp, hk⟩
end

/-- the same, shut: no look goes into the tree -/
@[irreducible] def Wx (prog : Program) (w : World) (A : Around) (t : Sem Flow) (Q : Flow → Shared → Prop) (E : Value → Shared → Prop) (s : Shared) : Prop := wpAny (model prog w) A t Q E s
theorem wx_of {prog : Program} {w : World} {A : Around} {t : Sem Flow} {Q : Flow → Shared → Prop} {E : Value → Shared → Prop} {s : Shared} (h : wpAny (model prog w) A t Q E s) : Wx prog w A t Q E s := by unfold Wx; exact h
theorem wx_out {prog : Program} {w : World} {A : Around} {t : Sem Flow} {Q : Flow → Shared → Prop} {E : Value → Shared → Prop} {s : Shared} (h : Wx prog w A t Q E s) : wpAny (model prog w) A t Q E s := by unfold Wx at h; exact h
theorem wx_mono {prog : Program} {w : World} {A : Around} {t : Sem Flow} {Q Q' : Flow → Shared → Prop} {E E' : Value → Shared → Prop} {s : Shared} (h : Wx prog w A t Q E s) (hQ : ∀ f s', Q f s' → Q' f s') (hE : ∀ e s', E e s' → E' e s') : Wx prog w A t Q' E' s := wx_of (wpAny_mono (wx_out h) hQ hE)
section
variable {prog : Program} {w : World} {A : Around} {env : Env} {s₀ s : Shared} {m cm : Str → Option Value}
theorem x_nil {Q : Flow → Shared → Prop} {E : Value → Shared → Prop} (h : Q .next s) : Wx prog w A (execs [] env) Q E s := wx_of (x_nil' h)
theorem x_assign {x : Str} {px pos : Pos} {e : Expr} {rest : List Stmt} {P : VP} {Q : Flow → Shared → Prop} {E : Value → Shared → Prop} (F : Fn s₀ env m cm s) (he : Ev prog w A env s.heap e P) (hP : Mono P)
    (k : ∀ v s', Fn s₀ env (upd m x v) cm s' → SubQ s.heap s'.heap → Stay env s.heap s'.heap → P v s'.heap → Wx prog w A (execs rest env) Q E s')
    (hk : env.kindOf x = some .local := by rfl) (hsw : swapsWith e (some (.Name x px)) pos.line env = pure false := by rfl) : Wx prog w A (execs (.Assign [.Name x px] e pos :: rest) env) Q E s := wx_of (x_assign' F he hP (fun v s' a b c d => wx_out (k v s' a b c d)) hk hsw)
theorem x_assignC {x : Str} {px pos : Pos} {e : Expr} {c : Addr} {rest : List Stmt} {P : VP} {Q : Flow → Shared → Prop} {E : Value → Shared → Prop} (F : Fn s₀ env m cm s) (he : Ev prog w A env s.heap e P) (hP : Mono P)
    (k : ∀ v s', Fn s₀ env m (upd cm x v) s' → SubQ s.heap s'.heap → Stay env s.heap s'.heap → P v s'.heap → Wx prog w A (execs rest env) Q E s') (hc : env.cells.lookup x = some c)
    (hk : env.kindOf x = some .cell := by rfl) (hsw : swapsWith e (some (.Name x px)) pos.line env = pure false := by rfl) : Wx prog w A (execs (.Assign [.Name x px] e pos :: rest) env) Q E s := wx_of (x_assignC' F he hP (fun v s' a b c d => wx_out (k v s' a b c d)) hc hk hsw)
theorem x_return {e : Expr} {pos : Pos} {rest : List Stmt} {P : VP} {Q : Flow → Shared → Prop} {E : Value → Shared → Prop} (he : Ev prog w A env s.heap e P)
    (k : ∀ v s', P v s'.heap → Keeps s s' → Q (.ret v) s') : Wx prog w A (execs (.Return (some e) pos :: rest) env) Q E s := wx_of (x_return' he k)
theorem x_if {t : Expr} {b o : List Stmt} {pos : Pos} {rest : List Stmt} {c : Bool} {Q : Flow → Shared → Prop} {E : Value → Shared → Prop} (ht : Et prog w A env s.heap t c)
    (h : ∀ s', Keeps s s' → Wx prog w A (execs (if c then b else o) env) (fun f s'' => match f with | .next => Wx prog w A (execs rest env) Q E s'' | f => Q f s'') E s') :
    Wx prog w A (execs (.If t b o pos :: rest) env) Q E s := wx_of (x_if' ht fun s' k => wx_out (wx_mono (h s' k) (fun f s'' y => by cases f <;> first | exact wx_out y | exact y) fun _ _ e => e))
theorem x_assignComp {α β : Type} {xs : List α} {R : α → VP} {Q : β → VP} {p : α → Bool} {f : α → β} {elt iter : Expr} {x y : Str} {px py : Pos} {ifs : List Expr} {scope : Scope} {cl : List (Str × Addr)} {pos spos : Pos} {rest : List Stmt} {Qf : Flow → Shared → Prop} {E : Value → Shared → Prop}
    (F : Fn s₀ env m cm s) (hk : env.kindOf y = some .local) (hsw : swapsWith (.ListComp elt [⟨.Name x px, iter, ifs, 0⟩] scope pos) (some (.Name y py)) spos.line env = pure true)
    (hclos : closureFor scope env = pure cl) (hkind : scope.kind = .function) (hnames : ∀ y ∈ scope.names, y.2 = .local → scope.names.lookup y.1 = some .local)
    (hx : (scope.names.lookup x = some .local ∧ (∀ n, cellsFrom n scope.names cl = cl) ∧ (∀ h, pushCells h scope.names = h)) ∨
      ((relabel scope env).names.lookup x = some .cell ∧ (∀ n, cellsFrom n scope.names cl = (x, n) :: cl) ∧ (∀ h, pushCells h scope.names = h.push { cls := .type "cell", data := .cell none })))
    (hsrc : Src prog w A env s.heap iter xs R) (hsz : xs.length ≤ 10000) (hQ : ∀ b, Own (Q b)) (hQm : ∀ b, Mono (Q b)) (hR : ∀ x, Mono (R x))
    (htests : ∀ L xv v s₂, xv ∈ xs → Sub s.heap s₂.heap → R xv v s₂.heap → Sees (cEnv scope cl L env) s₂.heap x v → Gv prog w A (testsOf ifs (cEnv scope cl L env)) (fun ok _ => ok = p xv) s₂)
    (helt : ∀ L xv v s₂, xv ∈ xs → p xv = true → Sub s.heap s₂.heap → R xv v s₂.heap → Sees (cEnv scope cl L env) s₂.heap x v → Gv prog w A (eval elt (cEnv scope cl L env)) (fun y h => Q (f xv) y h ∧ ∀ a, y = .ref a → s₂.heap.get? a = none) s₂)
    (k : ∀ v s', Fn s₀ env (upd m y v) cm s' → SubQ s.heap s'.heap → Stay env s.heap s'.heap → isL Q ((xs.filter p).map f) v s'.heap → Wx prog w A (execs rest env) Qf E s')
    (hset : ∀ x, foldedSetIterable iter env x = pure x := by intro _; rfl) :
    Wx prog w A (execs (.Assign [.Name y py] (.ListComp elt [⟨.Name x px, iter, ifs, 0⟩] scope pos) spos :: rest) env) Qf E s := wx_of (x_assignComp' F hk hsw hclos hkind hnames hx hsrc hsz hQ hQm hR htests helt (fun v s' a b c d => wx_out (k v s' a b c d)) hset)
theorem x_for {α : Type} {xs : List α} {R : α → VP} {x : Str} {px pos : Pos} {iter : Expr} {body rest : List Stmt} {Q : Flow → Shared → Prop} {E : Value → Shared → Prop} (st : (Str → Option Value) → (Str → Option Value) → Value → (Str → Option Value) × (Str → Option Value))
    (hst : ∀ (m cm : Str → Option Value) (s : Shared) (v : Value) (Q : Unit → Shared → Prop) (E : Value → Shared → Prop), Fn s₀ env m cm s → (∀ s', Fn s₀ env (st m cm v).1 (st m cm v).2 s' → SubQ s.heap s'.heap → Stay env s.heap s'.heap → Q () s') → wpAny (model prog w) A (storeName env x v) Q E s)
    (F : Fn s₀ env m cm s) (hsrc : Src prog w A env s.heap iter xs R) (hR : ∀ x, Mono (R x)) (J : Nat → (Str → Option Value) → (Str → Option Value) → Heap → Prop) (hJ : ∀ i m cm h h', SubQ h h' → J i m cm h → J i m cm h') (h0 : J 0 m cm s.heap)
    (step : ∀ i xv v m₁ cm₁ s₁, xs[i]? = some xv → (∃ h, SubQ h s₁.heap ∧ J i m₁ cm₁ h) → R xv v s₁.heap → Fn s₀ env (st m₁ cm₁ v).1 (st m₁ cm₁ v).2 s₁ → SubQ s.heap s₁.heap →
      Wx prog w A (execs body env) (fun f s₂ => f = .next ∧ ∃ m₂ cm₂, Fn s₀ env m₂ cm₂ s₂ ∧ Stay env s₁.heap s₂.heap ∧ J (i + 1) m₂ cm₂ s₂.heap) (fun _ _ => False) s₁)
    (k : ∀ m' cm' s', Fn s₀ env m' cm' s' → J xs.length m' cm' s'.heap → SubQ s.heap s'.heap → Stay env s.heap s'.heap → Wx prog w A (execs rest env) Q E s')
    (hset : ∀ x, foldedSetIterable iter env x = pure x := by intro _; rfl) :
    Wx prog w A (execs (.For (.Name x px) iter body [] pos :: rest) env) Q E s := wx_of (x_for' st hst F hsrc hR J hJ h0 (fun i xv v m₁ cm₁ s₁ a b c d e => wx_out (step i xv v m₁ cm₁ s₁ a b c d e)) (fun m' cm' s' a b c d => wx_out (k m' cm' s' a b c d)) hset)
end
section
variable {prog : Program} {w : World} {A : Around} {s : Shared}
theorem gv_fn {a : Addr} {o : Obj} {fd : FuncData} {body : List Stmt} {vals : List Value} {binds : List (Str × Value)} {P : VP}
    (hroom : A.depth < recursionLimit) (ho : s.heap.get? a = some o) (hdata : o.data = .func fd) (hlim : s.heap.NoLimit) (hcd : s.heap.CodeRec fd.code fd.qualname)
    (hbody : fd.body = .stmts body) (hbind : bindArgs fd ⟨vals, []⟩ = pure binds) (hclo : fd.closure = [])
    (hkind : ∀ x ∈ binds, fd.scope.names.lookup x.1 = some .local ∨ (fd.scope.names.lookup x.1 = some .cell ∧ ((cellsFrom (s.heap.objs.size + 1) fd.scope.names []).lookup x.1).isSome = true))
    (h : ∀ s₁, Fn s (callEnvC fd s.heap.objs.size a) (bindL (callEnvC fd s.heap.objs.size a).kindOf binds fun _ => none) (bindC (callEnvC fd s.heap.objs.size a).kindOf binds fun _ => none) s₁ →
      Wx prog w (A.deeper (callEnvC fd s.heap.objs.size a)) (execs body (callEnvC fd s.heap.objs.size a)) (fun f s' => ∃ v, f = .ret v ∧ P v s'.heap ∧ Keeps s s') (fun _ _ => False) s₁)
    (hco : fd.scope.isCoroutine = false := by rfl) (hgen : fd.scope.isGenerator = false := by rfl) (hk : fd.scope.kind = .function := by rfl) :
    Gv prog w A (call (.ref a) vals) P s := gv_fn' hroom ho hdata hlim hcd hbody hbind hclo hkind (fun s₁ F => wx_out (h s₁ F)) hco hgen hk
end
end MineQ
end

section
set_option Elab.async false
set_option maxRecDepth 100000
set_option linter.unusedVariables false
namespace MineQ
open PySem PySem.W PySem.Calls PyProof.Rows

noncomputable abbrev KK (w : World) : Frag := hd.heap_39 w.params
structure Bs (w : World) (h : Heap) : Prop where
  X : (KK w).In h
  T : ∃ p loose mg mb, TopRead p loose mg mb h
theorem Bs.up {w : World} {h h' : Heap} (x : Bs w h) (k : Sub h h') : Bs w h' := ⟨x.X.keeps k, let ⟨p, l, mg, mb, t⟩ := x.T; ⟨p, l, mg, mb, t.keeps k⟩⟩
theorem Bs.lim {w : World} {h : Heap} (x : Bs w h) : h.NoLimit := let ⟨p, l, mg, mb, t⟩ := x.T; t.nolimit
theorem Bs.glob {w : World} {h : Heap} {env : Env} {x : Str} {v : Value} (B : Bs w h) (e : nsIn (KK w) mainGlobals x = some (some v)) (hk : env.kindOf x = some .globalImplicit) (hg : env.globals = mainGlobals) : Sees env h x v := by
  obtain ⟨p, l, mg, mb, t⟩ := B.T
  exact .glob mg hk (hg ▸ t.g) (mg_of B.X t.g e)
theorem Bs.built {w : World} {h : Heap} {env : Env} {x : Str} {v : Value} (B : Bs w h) (e : nsIn (KK w) mainGlobals x = some none) (hv : bootBuiltins x = some v) (hn : x ≠ "__name__") (hk : env.kindOf x = some .globalImplicit) (hg : env.globals = mainGlobals) (hb : env.builtins = builtinsNs) : Sees env h x v := by
  obtain ⟨p, l, mg, mb, t⟩ := B.T
  exact .built mg mb hk (hg ▸ t.g) (mg_none_of B.X t.g e) (hb ▸ t.b) ((t.builtins x hn).trans hv)

noncomputable def objAt (w : World) (a : Addr) : Obj := ((KK w).lookup a).getD default
noncomputable def fdAt (w : World) (a : Addr) : FuncData := match (objAt w a).data with | .func fd => fd | _ => default
noncomputable def bodyAt (w : World) (a : Addr) : List Stmt := match (fdAt w a).body with | .stmts b => b | _ => []

theorem look21 (w : World) : (KK w).lookup 21 = some (objAt w 21) := rfl
theorem data21 (w : World) : (objAt w 21).data = .func (fdAt w 21) := rfl
theorem code21 (w : World) : codeIn (KK w) (fdAt w 21).code (fdAt w 21).qualname = true := by rfl
theorem body21 (w : World) : (fdAt w 21).body = .stmts (bodyAt w 21) := rfl
theorem glob21 (w : World) : nsIn (KK w) mainGlobals (Str.ofString "S_IMODE") = some (some (.ref 21)) := rfl
theorem bind21 (w : World) (v0 : Value) : bindArgs (fdAt w 21) ⟨[v0], []⟩ = pure [(Str.ofString "mode", v0)] := rfl
theorem look28 (w : World) : (KK w).lookup 28 = some (objAt w 28) := rfl
theorem data28 (w : World) : (objAt w 28).data = .func (fdAt w 28) := rfl
theorem code28 (w : World) : codeIn (KK w) (fdAt w 28).code (fdAt w 28).qualname = true := by rfl
theorem body28 (w : World) : (fdAt w 28).body = .stmts (bodyAt w 28) := rfl
theorem glob28 (w : World) : nsIn (KK w) mainGlobals (Str.ofString "S_IFMT") = some (some (.ref 28)) := rfl
theorem bind28 (w : World) (v0 : Value) : bindArgs (fdAt w 28) ⟨[v0], []⟩ = pure [(Str.ofString "mode", v0)] := rfl
theorem look68 (w : World) : (KK w).lookup 68 = some (objAt w 68) := rfl
theorem data68 (w : World) : (objAt w 68).data = .func (fdAt w 68) := rfl
theorem code68 (w : World) : codeIn (KK w) (fdAt w 68).code (fdAt w 68).qualname = true := by rfl
theorem body68 (w : World) : (fdAt w 68).body = .stmts (bodyAt w 68) := rfl
theorem glob68 (w : World) : nsIn (KK w) mainGlobals (Str.ofString "filemode") = some (some (.ref 68)) := rfl
theorem bind68 (w : World) (v0 : Value) : bindArgs (fdAt w 68) ⟨[v0], []⟩ = pure [(Str.ofString "mode", v0)] := rfl
theorem look75 (w : World) : (KK w).lookup 75 = some (objAt w 75) := rfl
theorem data75 (w : World) : (objAt w 75).data = .func (fdAt w 75) := rfl
theorem code75 (w : World) : codeIn (KK w) (fdAt w 75).code (fdAt w 75).qualname = true := by rfl
theorem body75 (w : World) : (fdAt w 75).body = .stmts (bodyAt w 75) := rfl
theorem glob75 (w : World) : nsIn (KK w) mainGlobals (Str.ofString "unorderable_list_difference") = some (some (.ref 75)) := rfl
theorem bind75 (w : World) (v0 v1 : Value) : bindArgs (fdAt w 75) ⟨[v0, v1], []⟩ = pure [(Str.ofString "expected", v0), (Str.ofString "actual", v1)] := rfl
theorem look82 (w : World) : (KK w).lookup 82 = some (objAt w 82) := rfl
theorem data82 (w : World) : (objAt w 82).data = .func (fdAt w 82) := rfl
theorem code82 (w : World) : codeIn (KK w) (fdAt w 82).code (fdAt w 82).qualname = true := by rfl
theorem body82 (w : World) : (fdAt w 82).body = .stmts (bodyAt w 82) := rfl
theorem glob82 (w : World) : nsIn (KK w) mainGlobals (Str.ofString "_law_mode") = some (some (.ref 82)) := rfl
theorem bind82 (w : World) (v0 : Value) : bindArgs (fdAt w 82) ⟨[v0], []⟩ = pure [(Str.ofString "x", v0)] := rfl
theorem look87 (w : World) : (KK w).lookup 87 = some (objAt w 87) := rfl
theorem data87 (w : World) : (objAt w 87).data = .func (fdAt w 87) := rfl
theorem code87 (w : World) : codeIn (KK w) (fdAt w 87).code (fdAt w 87).qualname = true := by rfl
theorem body87 (w : World) : (fdAt w 87).body = .stmts (bodyAt w 87) := rfl
theorem glob87 (w : World) : nsIn (KK w) mainGlobals (Str.ofString "_law_ways") = some (some (.ref 87)) := rfl
theorem bind87 (w : World) (v0 : Value) : bindArgs (fdAt w 87) ⟨[v0], []⟩ = pure [(Str.ofString "size", v0)] := rfl
theorem look92 (w : World) : (KK w).lookup 92 = some (objAt w 92) := rfl
theorem data92 (w : World) : (objAt w 92).data = .func (fdAt w 92) := rfl
theorem code92 (w : World) : codeIn (KK w) (fdAt w 92).code (fdAt w 92).qualname = true := by rfl
theorem body92 (w : World) : (fdAt w 92).body = .stmts (bodyAt w 92) := rfl
theorem glob92 (w : World) : nsIn (KK w) mainGlobals (Str.ofString "_law_price") = some (some (.ref 92)) := rfl
theorem bind92 (w : World) (v0 v1 : Value) : bindArgs (fdAt w 92) ⟨[v0, v1], []⟩ = pure [(Str.ofString "one", v0), (Str.ofString "two", v1)] := rfl
theorem look99 (w : World) : (KK w).lookup 99 = some (objAt w 99) := rfl
theorem data99 (w : World) : (objAt w 99).data = .func (fdAt w 99) := rfl
theorem code99 (w : World) : codeIn (KK w) (fdAt w 99).code (fdAt w 99).qualname = true := by rfl
theorem body99 (w : World) : (fdAt w 99).body = .stmts (bodyAt w 99) := rfl
theorem glob99 (w : World) : nsIn (KK w) mainGlobals (Str.ofString "_law_steps") = some (some (.ref 99)) := rfl
theorem bind99 (w : World) (v0 v1 : Value) : bindArgs (fdAt w 99) ⟨[v0, v1], []⟩ = pure [(Str.ofString "row", v0), (Str.ofString "other", v1)] := rfl
theorem noglob_len (w : World) : nsIn (KK w) mainGlobals (Str.ofString "len") = some none := rfl
theorem noglob_list (w : World) : nsIn (KK w) mainGlobals (Str.ofString "list") = some none := rfl
theorem noglob_sorted (w : World) : nsIn (KK w) mainGlobals (Str.ofString "sorted") = some none := rfl
theorem noglob_min (w : World) : nsIn (KK w) mainGlobals (Str.ofString "min") = some none := rfl
theorem noglob_sum (w : World) : nsIn (KK w) mainGlobals (Str.ofString "sum") = some none := rfl
theorem noglob_range (w : World) : nsIn (KK w) mainGlobals (Str.ofString "range") = some none := rfl
theorem noglob_abs (w : World) : nsIn (KK w) mainGlobals (Str.ofString "abs") = some none := rfl
theorem noglob_enumerate (w : World) : nsIn (KK w) mainGlobals (Str.ofString "enumerate") = some none := rfl
theorem noglob_ValueError (w : World) : nsIn (KK w) mainGlobals (Str.ofString "ValueError") = some none := rfl


theorem boot_ValueError' : bootBuiltins "ValueError" = some (.type "ValueError") := by decide +kernel
section
variable {w : World} {h : Heap} {env : Env}
theorem sees_len (B : Bs w h) (hk : env.kindOf (Str.ofString "len") = some .globalImplicit) (hg : env.globals = mainGlobals) (hb : env.builtins = builtinsNs) : Sees env h (Str.ofString "len") (.builtin "len") := B.built (noglob_len w) boot_len (by decide) hk hg hb
theorem sees_sum (B : Bs w h) (hk : env.kindOf (Str.ofString "sum") = some .globalImplicit) (hg : env.globals = mainGlobals) (hb : env.builtins = builtinsNs) : Sees env h (Str.ofString "sum") (.builtin "sum") := B.built (noglob_sum w) boot_sum (by decide) hk hg hb
theorem sees_min (B : Bs w h) (hk : env.kindOf (Str.ofString "min") = some .globalImplicit) (hg : env.globals = mainGlobals) (hb : env.builtins = builtinsNs) : Sees env h (Str.ofString "min") (.builtin "min") := B.built (noglob_min w) boot_min (by decide) hk hg hb
theorem sees_abs (B : Bs w h) (hk : env.kindOf (Str.ofString "abs") = some .globalImplicit) (hg : env.globals = mainGlobals) (hb : env.builtins = builtinsNs) : Sees env h (Str.ofString "abs") (.builtin "abs") := B.built (noglob_abs w) boot_abs (by decide) hk hg hb
theorem sees_sorted (B : Bs w h) (hk : env.kindOf (Str.ofString "sorted") = some .globalImplicit) (hg : env.globals = mainGlobals) (hb : env.builtins = builtinsNs) : Sees env h (Str.ofString "sorted") (.builtin "sorted") := B.built (noglob_sorted w) boot_sorted (by decide) hk hg hb
theorem sees_list (B : Bs w h) (hk : env.kindOf (Str.ofString "list") = some .globalImplicit) (hg : env.globals = mainGlobals) (hb : env.builtins = builtinsNs) : Sees env h (Str.ofString "list") (.type "list") := B.built (noglob_list w) PyProof.Rows.boot_list (by decide) hk hg hb
theorem sees_range (B : Bs w h) (hk : env.kindOf (Str.ofString "range") = some .globalImplicit) (hg : env.globals = mainGlobals) (hb : env.builtins = builtinsNs) : Sees env h (Str.ofString "range") (.type "range") := B.built (noglob_range w) boot_range (by decide) hk hg hb
theorem sees_enumerate (B : Bs w h) (hk : env.kindOf (Str.ofString "enumerate") = some .globalImplicit) (hg : env.globals = mainGlobals) (hb : env.builtins = builtinsNs) : Sees env h (Str.ofString "enumerate") (.type "enumerate") := B.built (noglob_enumerate w) boot_enumerate (by decide) hk hg hb
theorem sees_ValueError (B : Bs w h) (hk : env.kindOf (Str.ofString "ValueError") = some .globalImplicit) (hg : env.globals = mainGlobals) (hb : env.builtins = builtinsNs) : Sees env h (Str.ofString "ValueError") (.type "ValueError") := B.built (noglob_ValueError w) boot_ValueError' (by decide) hk hg hb
end
theorem kp_fn {w : World} {h : Heap} {a : Addr} (B : Bs w h) (hl : (KK w).lookup a = some (objAt w a)) (hd : (objAt w a).data = .func (fdAt w a)) : Kp h (.ref a) := .fn a _ _ (B.X _ _ hl) hd
end MineQ
end

section
set_option Elab.async false
set_option maxRecDepth 100000
set_option linter.unusedVariables false
namespace MineQ
open PySem PySem.W PySem.Calls PySem.MeetsSeq PyProof.Rows
section
variable {prog : Program} {w : World} {A : Around} {env : Env} {H : Heap} {s : Shared}

theorem any_paired {α : Type} {F : Value → α → Prop} {e : Value → Bool} {q : α → Bool} (h : ∀ v x, F v x → e v = q x) : ∀ {l₁ : List Value} {l₂ : List α}, Paired F l₁ l₂ → l₁.any e = l₂.any q
  | _, _, .nil => rfl
  | _, _, .cons hf t => by rw [List.any_cons, List.any_cons, h _ _ hf, any_paired h t]

def eqI (k : Int) (v : Value) : Bool := match v with | .int i _ => i == k | _ => false
def eqS (k : Str) (v : Value) : Bool := match v with | .str i _ => i.cps.toList == k.cps.toList | _ => false
theorem str_beq (a b : Str) : (a.cps.toList == b.cps.toList) = (a == b) := by
  by_cases h : a = b
  · subst h; simp
  · have h1 : (a == b) = false := by simpa using h
    rw [h1]
    have : a.cps.toList ≠ b.cps.toList := fun e => h (by cases a; cases b; simp at e; congr)
    simpa using this
theorem g_inI {k : Int} {t : Tok} {xs : List Int} {v : Value} (h : isL isI xs v s.heap) : Gv prog w A (compareOp .In (.int k t) v) (isB (xs.contains k)) s := fun E => by
  obtain ⟨a, vs, rfl, ⟨n, hl⟩, hp⟩ := h
  refine SeqRoads2.in_list (items := vs) (n := n) (eqI k) (fun y hy => ?_) hl ⟨?_, krefl⟩
  · obtain ⟨i, hi, rfl⟩ := Array.mem_iff_getElem.mp hy
    obtain ⟨x, _, t', e⟩ := Paired.get' hp (i := i) (a := vs[i]) (by simp [hi])
    rw [e]; exact MeetsSeq.EqGives.int x k t' t
  · show Value.bool _ = Value.bool _
    rw [← Array.any_toList, any_paired (q := fun x => x == k) (by rintro v x ⟨t, rfl⟩; rfl) hp]
    congr 1
    rw [List.contains_eq_any_beq]
    congr 1; funext x; exact Bool.beq_comm
theorem g_inS {k : Str} {t : Tok} {xs : List Str} {v : Value} (h : isL isS xs v s.heap) : Gv prog w A (compareOp .In (.str k t) v) (isB (xs.contains k)) s := fun E => by
  obtain ⟨a, vs, rfl, ⟨n, hl⟩, hp⟩ := h
  refine SeqRoads2.in_list (items := vs) (n := n) (eqS k) (fun y hy => ?_) hl ⟨?_, krefl⟩
  · obtain ⟨i, hi, rfl⟩ := Array.mem_iff_getElem.mp hy
    obtain ⟨x, _, t', e⟩ := Paired.get' hp (i := i) (a := vs[i]) (by simp [hi])
    rw [e]; exact SeqRoads2.EqGives.str x k t' t
  · show Value.bool _ = Value.bool _
    rw [← Array.any_toList, any_paired (q := fun x => x == k) (by rintro v x ⟨t, rfl⟩; exact str_beq _ _) hp]
    congr 1
    rw [List.contains_eq_any_beq]
    congr 1; funext x; exact Bool.beq_comm
theorem g_min2 {a b : Int} {t u : Tok} (hh : A.handled = none) : Gv prog w A (call (.builtin "min") [.int a t, .int b u]) (isI (min a b)) s := fun E => by
  refine min_two_ints hh fun h' tk hk => ⟨?_, kmk hk⟩
  split
  · exact ⟨u, by rw [Int.min_eq_right (by omega)]⟩
  · exact ⟨t, by rw [Int.min_eq_left (by omega)]⟩

theorem preSum_eq (xs : List Int) : ∀ n, n ≤ xs.length → preSum (fun i => xs.getD i 0) n = (xs.take n).sum
  | 0, _ => by simp [preSum]
  | n + 1, h => by
    have ih := preSum_eq xs n (by omega)
    have e : xs.take (n + 1) = xs.take n ++ [xs.getD n 0] := by
      rw [List.take_add_one]
      have : xs[n]? = some (xs.getD n 0) := by simp [List.getD_eq_getElem?_getD, show n < xs.length by omega]
      rw [this]; rfl
    rw [e, List.sum_append, preSum, ih]; simp
theorem g_sum {xs : List Int} {v : Value} (hh : A.handled = none) (h : isL isI xs v s.heap) : Gv prog w A (call (.builtin "sum") [v]) (isI xs.sum) s := fun E => by
  refine call_sum_walkG (wpAny_mono (it_list (A := A.in1) hh (fun x => mono_I x) h E) (fun it s₂ hI => ?_) fun _ _ e => e)
  obtain ⟨k, I, fp, wr, P, St, rfl, W, hst, hfp, hwr, hlive, hit⟩ := hI
  refine ⟨I, fp, wr, xs.length, (fun i v => i < xs.length ∧ P i v), St, (fun i => xs.getD i 0), rfl, ?_, hst, (fun b hb => (hfp b hb).1), ?_, ?_⟩
  · exact ⟨W.sub, W.frame, fun i s Q E hi st hQ => W.item i s Q E hi st fun v h' tk hP => hQ v h' tk ⟨hi, hP⟩, W.done, W.self⟩
  · rintro i v ⟨hi, hP⟩
    obtain ⟨x, ex, t, rfl⟩ := hit i v hi hP
    exact ⟨t, by simp [List.getD_eq_getElem?_getD, ex]⟩
  · intro h' tk t' hk
    refine ⟨⟨t', ?_⟩, ?_⟩
    · rw [preSum_eq xs _ (Nat.le_refl _), List.take_length]
    · obtain ⟨g, tg, rfl, kg⟩ := k
      exact kmk fun b o e => hk b o (fun hb => by rw [(hwr b hb).1] at e; cases e) (kg b o e)
end
end MineQ
end

section
set_option Elab.async false
set_option maxRecDepth 100000
set_option linter.unusedVariables false
namespace MineQ
open PySem PySem.W PySem.Calls PyProof.Rows
section
variable {prog : Program} {w : World} {A : Around} {s : Shared}
def ifmt (n : Int) : Int := Builtin.bitAnd n 61440
def imode (n : Int) : Int := Builtin.bitAnd n 4095
theorem c_ifmt {n : Int} {v : Value} (hA : A.depth < recursionLimit) (B : Bs w s.heap) (hv : isI n v s.heap) : Gv prog w A (call (.ref 28) [v]) (isI (ifmt n)) s := by
  obtain ⟨t, rfl⟩ := hv
  refine gv_fn (fd := fdAt w 28) hA (B.X _ _ (look28 w)) (data28 w) B.lim (codeRec_of B.X (code28 w)) (body28 w) (bind28 w _) rfl (by intro x hx; simp at hx; subst hx; exact Or.inl rfl) (fun s₁ F => ?_)
  exact x_return (ev_and (ev_name rfl (F.loc rfl) fun _ _ => ⟨t, rfl⟩) ev_int) fun v s' hv k => ⟨v, rfl, hv, ktr F.done k⟩
theorem c_imode {n : Int} {v : Value} (hA : A.depth < recursionLimit) (B : Bs w s.heap) (hv : isI n v s.heap) : Gv prog w A (call (.ref 21) [v]) (isI (imode n)) s := by
  obtain ⟨t, rfl⟩ := hv
  refine gv_fn (fd := fdAt w 21) hA (B.X _ _ (look21 w)) (data21 w) B.lim (codeRec_of B.X (code21 w)) (body21 w) (bind21 w _) rfl (by intro x hx; simp at hx; subst hx; exact Or.inl rfl) (fun s₁ F => ?_)
  exact x_return (ev_and (ev_name rfl (F.loc rfl) fun _ _ => ⟨t, rfl⟩) ev_int) fun v s' hv k => ⟨v, rfl, hv, ktr F.done k⟩
def lmode (x : Int) : Int := 65536 * x + 4096 * x.fmod 16 + (x.fdiv 16 * 585).fmod 4096
theorem c_mode {n : Int} {v : Value} (hA : A.depth < recursionLimit) (B : Bs w s.heap) (hv : isI n v s.heap) : Gv prog w A (call (.ref 82) [v]) (isI (lmode n)) s := by
  obtain ⟨t, rfl⟩ := hv
  refine gv_fn (fd := fdAt w 82) hA (B.X _ _ (look82 w)) (data82 w) B.lim (codeRec_of B.X (code82 w)) (body82 w) (bind82 w _) rfl (by intro x hx; simp at hx; subst hx; exact Or.inl rfl) (fun s₁ F => ?_)
  have hx : ∀ p, Ev prog w (A.deeper (callEnvC (fdAt w 82) s.heap.objs.size 82)) (callEnvC (fdAt w 82) s.heap.objs.size 82) s₁.heap (.Name (Str.ofString "x") p) (isI n) := fun p => ev_name rfl (F.loc rfl) fun _ _ => ⟨t, rfl⟩
  exact x_return (ev_add (ev_add (ev_mul (.of_left (by decide)) ev_int (hx _)) (ev_mul (.of_left (by decide)) ev_int (ev_mod (by decide) (hx _) ev_int)))
    (ev_mod (by decide) (ev_mul (.of_right (by decide)) (ev_div (by decide) (by decide) (hx _) ev_int) ev_int) ev_int)) fun v s' hv k => ⟨v, rfl, hv, ktr F.done k⟩
end
end MineQ
end

section
set_option Elab.async false
set_option maxRecDepth 100000
set_option linter.unusedVariables false
namespace MineQ
open PySem PySem.W PySem.Calls PyProof.Rows
section
variable {prog : Program} {w : World} {A : Around} {env : Env} {H : Heap} {s : Shared}

theorem ev_fI {e : Expr} {n : Int} (x : Ev prog w A env H e (isI n)) : EvF prog w A env H e (isI n) := fun s hs => (x s hs).mono fun v h y => ⟨y, by rintro a rfl; obtain ⟨t, e⟩ := y; cases e⟩
theorem ev_fS {e : Expr} {n : Str} (x : Ev prog w A env H e (isS n)) : EvF prog w A env H e (isS n) := fun s hs => (x s hs).mono fun v h y => ⟨y, by rintro a rfl; obtain ⟨t, e⟩ := y; cases e⟩
theorem t_nil {env : Env} : Gv prog w A (testsOf [] env) (fun ok _ => ok = true) s := fun _ => wpAny_tests_nil ⟨rfl, krefl⟩
theorem t_one {c : Expr} {b : Bool} (h : Et prog w A env s.heap c b) : Gv prog w A (testsOf [c] env) (fun ok _ => ok = b) s := fun E => wpAny_tests_one (h s (fun _ _ e => e) E)
theorem cellAt {s₀ : Shared} {m cm : Str → Option Value} {x : Str} {c : Addr} {v : Value} (F : Fn s₀ env m cm s) (hc : env.cells.lookup x = some c) (hv : cm x = some v) : s.heap.IsCell c (some v) := hv ▸ F.cell x c hc
theorem filter_true {α : Type} (xs : List α) : xs.filter (fun _ => true) = xs := by simp

theorem mem_upto {n : Nat} {x : Int} (h : x ∈ upto n) : 0 ≤ x ∧ x < n := by
  simp only [upto, List.mem_map, List.mem_range] at h
  obtain ⟨k, hk, rfl⟩ := h
  exact ⟨Int.natCast_nonneg k, Int.ofNat_lt.mpr hk⟩
theorem pow_small {x : Int} (h0 : 0 ≤ x) (h1 : x < 16) : (2 : Int) ^ x.toNat ≠ 0 ∧ ((2 : Int) ^ x.toNat).natAbs < 1073741824 := by
  have : x = 0 ∨ x = 1 ∨ x = 2 ∨ x = 3 ∨ x = 4 ∨ x = 5 ∨ x = 6 ∨ x = 7 ∨ x = 8 ∨ x = 9 ∨ x = 10 ∨ x = 11 ∨ x = 12 ∨ x = 13 ∨ x = 14 ∨ x = 15 := by omega
  rcases this with rfl | rfl | rfl | rfl | rfl | rfl | rfl | rfl | rfl | rfl | rfl | rfl | rfl | rfl | rfl | rfl <;> exact ⟨by decide, by decide⟩
def known : List Int := [4096, 8192, 16384, 24576, 32768, 40960, 49152]
def kindOfI (n : Int) : Int := if known.contains (ifmt n) then ifmt n else 0
def bitOf (n : Int) (k : Int) : Int := (n.fdiv (2 ^ k.toNat)).fmod 2
def bitDiff (a b : Int) : Int := (((upto 16).filter fun k => bitOf (imode a) k != bitOf (imode b) k).length : Nat)
def price (a b : Int) : Int := if kindOfI a == kindOfI b then bitDiff a b else bitDiff a b + 16

theorem es_known {pos : Pos} {p1 p2 p3 p4 p5 p6 p7 : Pos} {k1 k2 k3 k4 k5 k6 k7 : Nat} : Es prog w A env H pos [.Constant (.int 4096) k1 p1, .Constant (.int 8192) k2 p2, .Constant (.int 16384) k3 p3, .Constant (.int 24576) k4 p4, .Constant (.int 32768) k5 p5, .Constant (.int 40960) k6 p6, .Constant (.int 49152) k7 p7]
    (fun vs h => Paired (fun u x => isI x u h) vs known) :=
  have st := fun (n : Int) (l : List Int) (vs : List Value) (h : Heap) (v : Value) (a : isI n v h) (b : Paired (fun u x => isI x u h) vs l) => (Paired.cons (F := fun u x => isI x u h) a b)
  es_cons (mono_I _) ev_int (es_cons (mono_I _) ev_int (es_cons (mono_I _) ev_int (es_cons (mono_I _) ev_int (es_cons (mono_I _) ev_int (es_cons (mono_I _) ev_int (es_cons (mono_I _) ev_int (es_nil (P := fun vs h => Paired (fun u x => isI x u h) vs []) fun _ _ => Paired.nil)
    fun v vs h _ a b => st _ _ _ _ _ a b) fun v vs h _ a b => st _ _ _ _ _ a b) fun v vs h _ a b => st _ _ _ _ _ a b) fun v vs h _ a b => st _ _ _ _ _ a b) fun v vs h _ a b => st _ _ _ _ _ a b) fun v vs h _ a b => st _ _ _ _ _ a b) fun v vs h _ a b => st _ _ _ _ _ a b

set_option maxHeartbeats 4000000 in
theorem c_price {a b : Int} {va vb : Value} (hh : A.handled = none) (hA : A.depth + 5 < recursionLimit) (B : Bs w s.heap) (ha : isI a va s.heap) (hb : isI b vb s.heap) : Gv prog w A (call (.ref 92) [va, vb]) (isI (price a b)) s := by
  obtain ⟨ta, rfl⟩ := ha
  obtain ⟨tb, rfl⟩ := hb
  refine gv_fn (fd := fdAt w 92) (by omega) (B.X _ _ (look92 w)) (data92 w) B.lim (codeRec_of B.X (code92 w)) (body92 w) (bind92 w _ _) rfl (by intro x hx; simp at hx; rcases hx with rfl | rfl <;> exact Or.inl rfl) (fun s₁ F => ?_)
  generalize hL : s.heap.objs.size = L at F ⊢
  have hA' : (A.deeper (callEnvC (fdAt w 92) L 92)).depth + 3 < recursionLimit := by show A.depth + 1 + 3 < _; omega
  generalize hA2 : A.deeper (callEnvC (fdAt w 92) L 92) = A2 at hA' ⊢
  have hh2 : A2.handled = none := by rw [← hA2]; exact hh
  -- known
  refine x_assignC F (evf_list (fun x => mono_I x) es_known (by decide)).ev (mono_L (fun x => mono_I x) known) (fun vk s₂ F₂ q₂ z₂ hk₂ => ?_) (hc := rfl)
  -- kinds
  have B₂ : Bs w s₂.heap := B.up F₂.keep
  refine x_assignComp F₂ rfl rfl (cl := [(Str.ofString "known", L + 1)]) rfl rfl (by decide) (Or.inl ⟨rfl, fun _ => rfl, fun _ => rfl⟩) (xs := [a, b]) (R := isI) (Q := isI) (p := fun _ => true) (f := kindOfI)
    (src_tuple hh2 (fun x => mono_I x) (evf_tuple (fun x => mono_I x) (es_cons (mono_I a) (ev_name rfl (F₂.loc rfl) fun _ _ => ⟨ta, rfl⟩) (es_cons (mono_I b) (ev_name rfl (F₂.loc rfl) fun _ _ => ⟨tb, rfl⟩) (es_nil (P := fun vs h => Paired (fun u x => isI x u h) vs []) fun _ _ => Paired.nil)
      (R' := fun vs h => Paired (fun u x => isI x u h) vs [b]) fun v vs h _ a b => Paired.cons a b) fun v vs h _ a b => Paired.cons a b) (by simp)).ev)
    (by simp) own_I mono_I (fun x => mono_I x) (fun _ _ _ _ _ _ _ _ => t_nil) (fun Lc xv v s₃ _ _ hs₃ hv hsee => ?_) (fun v s₃ F₃ q₃ z₃ hk₃ => ?_)
  · have B₃ := B₂.up hs₃
    have hcall : ∀ p1 p2 p3, Ev prog w A2 (cEnv _ _ Lc (callEnvC (fdAt w 92) L 92)) s₃.heap (.Call (.Name (Str.ofString "S_IFMT") p1) [.Name (Str.ofString "mode") p2] [] p3) (isI (ifmt xv)) := fun p1 p2 p3 =>
      ev_call1 (ev_name rfl (B₃.glob (glob28 w) rfl rfl) fun _ _ => rfl) (kp_fn B₃ (look28 w) (data28 w)) (mono_I xv) (ev_name rfl hsee fun _ _ => hv) (fun v s hs hv => c_ifmt (by omega) (B₃.up hs) hv)
    refine ev_fI (ev_ifexp (c := known.contains (ifmt xv)) ?_ (fun hc => ?_) (fun hc => ?_)) s₃ (fun _ _ e => e)
    · exact et_cmp (mono_I _) (hcall _ _ _) (P' := isL isI known) (ev_name rfl (.cell (L + 1) rfl rfl ((cellAt F₂ (x := Str.ofString "known") rfl rfl).keeps hs₃)) fun h hs => mono_L (fun x => mono_I x) known _ _ _ (Sub.trans hs₃ hs).q hk₂) (by rintro _ y s hs ⟨t, rfl⟩ hy; exact g_inI hy)
    · exact (hcall _ _ _).imp fun v h _ hv => by unfold kindOfI; rw [if_pos hc]; exact hv
    · exact ev_int.imp fun v h _ hv => by unfold kindOfI; rw [if_neg (by rw [hc]; exact Bool.false_ne_true)]; exact hv
  · rw [filter_true] at hk₃
    have B₃ : Bs w s₃.heap := B.up F₃.keep
    -- rights
    refine x_assignC F₃ (P := isL isI [imode a, imode b]) (EvF.imp (evf_comp (cl := []) rfl rfl (by decide) (Or.inl ⟨rfl, fun _ => rfl, fun _ => rfl⟩) (xs := [a, b]) (R := isI) (Q := isI) (p := fun _ => true) (f := imode)
      (src_tuple hh2 (fun x => mono_I x) (evf_tuple (fun x => mono_I x) (es_cons (mono_I a) (ev_name rfl (F₃.loc rfl) fun _ _ => ⟨ta, rfl⟩) (es_cons (mono_I b) (ev_name rfl (F₃.loc rfl) fun _ _ => ⟨tb, rfl⟩) (es_nil (P := fun vs h => Paired (fun u x => isI x u h) vs []) fun _ _ => Paired.nil)
        (R' := fun vs h => Paired (fun u x => isI x u h) vs [b]) fun v vs h _ a b => Paired.cons a b) fun v vs h _ a b => Paired.cons a b) (by simp)).ev)
      (by simp) own_I (fun x => mono_I x) (fun _ _ _ _ _ _ _ _ => t_nil) (fun Lc xv v s₄ _ _ hs₄ hv hsee => ?_)) (fun v h hv => by rw [filter_true] at hv; exact hv)).ev (mono_L (fun x => mono_I x) _) (fun vr s₄ F₄ q₄ z₄ hr₄ => ?_) (hc := rfl)
    · have B₄ := B₃.up hs₄
      exact ev_fI (ev_call1 (ev_name rfl (B₄.glob (glob21 w) rfl rfl) fun _ _ => rfl) (kp_fn B₄ (look21 w) (data21 w)) (mono_I xv) (ev_name rfl hsee fun _ _ => hv) (fun v s hs hv => c_imode (by omega) (B₄.up hs) hv)) s₄ (fun _ _ e => e)
    have B₄ : Bs w s₄.heap := B.up F₄.keep
    have hk₄ := mono_L (fun x => mono_I x) _ _ _ _ q₄ hk₃
    -- bits
    refine x_assign F₄ (P := isI (bitDiff a b)) (ev_call1 (ev_name rfl (sees_len B₄ rfl rfl rfl) fun _ _ => rfl) (.built _) (mono_L (fun x => mono_I x) ((upto 16).filter fun k => bitOf (imode a) k != bitOf (imode b) k))
      (EvF.imp (evf_comp (cl := [(Str.ofString "rights", L + 1 + 1)]) rfl rfl (by decide) (Or.inl ⟨rfl, fun _ => rfl, fun _ => rfl⟩) (xs := upto 16) (R := isI) (Q := isI) (p := fun k => bitOf (imode a) k != bitOf (imode b) k) (f := fun x => x)
        (src_range hh2 (ev_name rfl (sees_range B₄ rfl rfl rfl) fun _ _ => rfl) ev_int rfl (by decide)) (by decide) own_I (fun x => mono_I x) (fun Lc xv v s₅ hm hs₅ hv hsee => ?_) (fun Lc xv v s₅ _ _ hs₅ hv hsee => ?_)) (fun v h hv => by rw [List.map_id'] at hv; exact hv)).ev
      (fun v s hs hv => (g_len hv (Nat.le_trans (List.length_filter_le _ _) (by decide))))) (mono_I _) (fun vb s₅ F₅ q₅ z₅ hb₅ => ?_)
    · obtain ⟨h0, h1⟩ := mem_upto hm
      obtain ⟨n0, n1⟩ := pow_small h0 h1
      have hr : ∀ (ce : Env) (p : Pos), ce.scope.kind = .function → ce.kindOf (Str.ofString "rights") = some .cell → ce.cells.lookup (Str.ofString "rights") = some (L + 1 + 1) → Ev prog w A2 ce s₅.heap (.Name (Str.ofString "rights") p) (isL isI [imode a, imode b]) := fun ce p e1 e2 e3 =>
        ev_name e1 (.cell (L + 1 + 1) e2 e3 ((cellAt F₄ (x := Str.ofString "rights") rfl rfl).keeps hs₅)) fun h hs => mono_L (fun x => mono_I x) _ _ _ _ (Sub.trans hs₅ hs).q hr₄
      exact t_one (et_ne (ev_mod (by decide) (ev_div n0 n1 (ev_idx (fun x => mono_I x) (hr _ _ rfl rfl rfl) ev_int (by decide) (by decide) rfl) (ev_pow h0 (by omega) (by decide) ev_int (ev_name rfl hsee fun _ _ => hv))) ev_int) (ev_mod (by decide) (ev_div n0 n1 (ev_idx (fun x => mono_I x) (hr _ _ rfl rfl rfl) ev_int (by decide) (by decide) rfl) (ev_pow h0 (by omega) (by decide) ev_int (ev_name rfl hsee fun _ _ => hv))) ev_int))
    · exact ev_fI (ev_name rfl hsee fun _ _ => hv) s₅ (fun _ _ e => e)
    · have hk₅ := mono_L (fun x => mono_I x) _ _ _ _ q₅ hk₄
      have hk : ∀ p, Ev prog w A2 (callEnvC (fdAt w 92) L 92) s₅.heap (.Name (Str.ofString "kinds") p) (isL isI [kindOfI a, kindOfI b]) := fun p => ev_name rfl (F₅.loc rfl) fun h hs => mono_L (fun x => mono_I x) _ _ _ _ hs.q hk₅
      have hb : ∀ p, Ev prog w A2 (callEnvC (fdAt w 92) L 92) s₅.heap (.Name (Str.ofString "bits") p) (isI (bitDiff a b)) := fun p => ev_name rfl (F₅.loc rfl) fun h hs => hb₅
      refine x_return (P := isI (price a b)) (ev_ifexp (et_eq (ev_idx (fun x => mono_I x) (hk _) ev_int (by decide) (by decide) rfl) (ev_idx (fun x => mono_I x) (hk _) ev_int (by decide) (by decide) rfl)) (fun hc => ?_) (fun hc => ?_)) fun v s' hv k => ⟨v, rfl, hv, ktr F₅.done k⟩
      · exact (hb _).imp fun v h _ hv => by unfold price; rw [if_pos hc]; exact hv
      · exact (ev_add (hb _) ev_int).imp fun v h _ hv => by unfold price; rw [if_neg (by rw [hc]; exact Bool.false_ne_true)]; exact hv
end
end MineQ
end

section
set_option Elab.async false
set_option maxRecDepth 100000
set_option linter.unusedVariables false
namespace MineQ
open PySem PySem.W PySem.Calls PyProof.Rows
section
variable {prog : Program} {w : World} {A : Around} {env : Env} {H : Heap} {s : Shared}

theorem ev_smeth1 {o e : Expr} {name : Str} {id : String} {apos pos : Pos} {x : Str} {P R : VP} (slot : Slot "str" name id) (hty : typeOf (.builtin id) = pure (.type "method_descriptor")) (ho : Ev prog w A env H o (isS x)) (he : Ev prog w A env H e P)
    (hc : ∀ t v s, Sub H s.heap → P v s.heap → Gv prog w A (call (.builtin id) [.str x t, v]) R s)
    (hbase : attributeBase o name env (eval o env) = eval o env := by rfl) (hline : (apos.endLine == pos.line) = true := by rfl) (hst : starEach [e] env = (false, eval e env) :: starEach [] env := by rfl) :
    Ev prog w A env H (.Call (.Attribute o name apos) [e] [] pos) R := fun s hs E => by
  refine wpAny_Call_method hbase (by rw [hst]; rfl) hline F.plainAttrs_str slot hty ((ho s hs).use fun ov s₁ hov k₁ => ?_)
  obtain ⟨t, rfl⟩ := hov
  refine ⟨typeIs_str _ _ _, (by intro a e; cases e), callWith_method1 ?_ hst rfl⟩
  rw [hst]
  exact spliced_cons ((he s₁ (Sub.trans hs (ksub k₁))).use fun v s₂ hv k₂ => spliced_nil (wpAny_mono (hc t v s₂ (Sub.trans hs (ksub (ktr k₁ k₂))) hv E) (fun _ _ y => ⟨y.1, ktr (ktr k₁ k₂) y.2⟩) fun _ _ e => e))

theorem g_index {x y : Str} {t u : Tok} {i : Nat} {rest : List Nat} (ho : Builtin.Str.occurrences x y 0 x.length 1 = i :: rest) : Gv prog w A (call (.builtin "str.index") [.str x t, .str y u]) (isI i) s :=
  fun E => SC.index ho ⟨⟨_, rfl⟩, kmk fun _ _ e => e⟩
theorem g_slen {x : Str} {v : Value} (hx : x.length ≤ 10000) (hv : isS x v s.heap) : Gv prog w A (call (.builtin "len") [v]) (isI x.length) s := fun E => by
  obtain ⟨t, rfl⟩ := hv
  exact P.len_str (by omega) ⟨⟨_, rfl⟩, kmk fun _ _ e => e⟩
theorem strs_values {xs : List Str} {vs : List Value} {h : Heap} (hp : Paired (fun u x => isS x u h) vs xs) : ∃ l : List (Str × Tok), strValues l = vs ∧ l.map (·.1) = xs := by
  induction hp with
  | nil => exact ⟨[], rfl, rfl⟩
  | cons q t ih =>
    rename_i u x l₁ l₂
    obtain ⟨l, e1, e2⟩ := ih
    obtain ⟨t, rfl⟩ := q
    exact ⟨(x, t) :: l, by rw [← e1]; rfl, by simp [e2]⟩
theorem g_join {x : Str} {t : Tok} {xs : List Str} {v : Value} (hok : JoinOk x xs = true) (hv : isL isS xs v s.heap) : Gv prog w A (call (.builtin "str.join") [.str x t, v]) (isS (Txt.join x xs)) s := fun E => by
  obtain ⟨a, vs, rfl, hl, hp⟩ := hv
  obtain ⟨l, e1, e2⟩ := strs_values hp
  have hl' : s.heap.IsList a (strValues l).toArray := by rw [e1]; simpa using hl.isList
  exact SC.join hl' e2 hok fun t' k => ⟨⟨t', rfl⟩, kmk fun _ _ e => e⟩
end
end MineQ
end

section
set_option Elab.async false
set_option maxRecDepth 100000
set_option linter.unusedVariables false
namespace MineQ
open PySem PySem.W PySem.Calls PyProof.Rows

def ringsS : List Str := [Str.ofString "-r", Str.ofString "-w", Str.ofString "-Ssx", Str.ofString "-r", Str.ofString "-w", Str.ofString "-Ssx", Str.ofString "-r", Str.ofString "-w", Str.ofString "-Ttx"]
def ringAt (k : Nat) : Str := ringsS.getD k default
def rix (k c : Nat) : Nat := (ringAt k).cps.toList.idxOf c
def charAt (x : Str) (k : Nat) : Nat := x.cps.getD k 0
def farK (x y : Str) (k : Nat) : Int := if ((rix k (charAt x (k + 1)) : Nat) : Int) - ((rix k (charAt y (k + 1)) : Nat) : Int) < 0 then -(((rix k (charAt x (k + 1)) : Nat) : Int) - ((rix k (charAt y (k + 1)) : Nat) : Int)) else ((rix k (charAt x (k + 1)) : Nat) : Int) - ((rix k (charAt y (k + 1)) : Nat) : Int)
def stepK (x y : Str) (k : Nat) : Int := min (farK x y k) (((ringAt k).length : Nat) - farK x y k)
def stepsN (x y : Str) : Nat → Int
  | 0 => if charAt x 0 == charAt y 0 then 0 else 16
  | n + 1 => stepsN x y n + stepK x y n
def stepsOf (x y : Str) : Int := stepsN x y 9
def RowOk (x : Str) : Prop := x.cps.size = 10 ∧ ∀ k, k < 9 → charAt x (k + 1) ∈ (ringAt k).cps.toList
theorem charAt_get {x : Str} (h : x.cps.size = 10) {k : Nat} (hk : k < 10) : x.cps[k]? = some (charAt x k) := by
  unfold charAt
  rw [Array.getD_eq_getD_getElem?]
  have : k < x.cps.size := by omega
  simp [this]
theorem ring_occ : ∀ k, k < 9 → ∀ c ∈ (ringAt k).cps.toList, Builtin.Str.occurrences (ringAt k) ⟨#[c]⟩ 0 (ringAt k).length 1 = [rix k c] := by decide +kernel
theorem ring_get {k : Nat} (hk : k < 9) : ringsS[k]? = some (ringAt k) := by
  have : ∀ k, k < 9 → ringsS[k]? = some (ringAt k) := by decide +kernel
  exact this k hk
theorem ring_len {k : Nat} (hk : k < 9) : (ringAt k).length ≤ 10000 := by
  have : ∀ k, k < 9 → (ringAt k).length ≤ 10000 := by decide +kernel
  exact this k hk

section
variable {prog : Program} {w : World} {A : Around} {env : Env} {H : Heap} {s : Shared}
theorem g_eqS {x y : Str} {t u : Tok} : Gv prog w A (compareOp .Eq (.str x t) (.str y u)) (isB (x == y)) s := fun E => P.eq_str ⟨by rw [str_beq]; rfl, krefl⟩
theorem es_rings {pos : Pos} {k0 k1 k2 k3 k4 k5 k6 k7 k8 : Nat} {p0 p1 p2 p3 p4 p5 p6 p7 p8 : Pos} : Es prog w A env H pos [.Constant (.str (Str.ofString "-r")) k0 p0, .Constant (.str (Str.ofString "-w")) k1 p1, .Constant (.str (Str.ofString "-Ssx")) k2 p2, .Constant (.str (Str.ofString "-r")) k3 p3, .Constant (.str (Str.ofString "-w")) k4 p4, .Constant (.str (Str.ofString "-Ssx")) k5 p5, .Constant (.str (Str.ofString "-r")) k6 p6, .Constant (.str (Str.ofString "-w")) k7 p7, .Constant (.str (Str.ofString "-Ttx")) k8 p8] (fun vs h => Paired (fun u x => isS x u h) vs ringsS) :=
  have st := fun (n : Str) (l : List Str) (vs : List Value) (h : Heap) (v : Value) (a : isS n v h) (b : Paired (fun u x => isS x u h) vs l) => (Paired.cons (F := fun u x => isS x u h) a b)
  es_cons (mono_S _) ev_str (es_cons (mono_S _) ev_str (es_cons (mono_S _) ev_str (es_cons (mono_S _) ev_str (es_cons (mono_S _) ev_str (es_cons (mono_S _) ev_str (es_cons (mono_S _) ev_str (es_cons (mono_S _) ev_str (es_cons (mono_S _) ev_str (es_nil (P := fun vs h => Paired (fun u x => isS x u h) vs []) fun _ _ => Paired.nil) fun v vs h _ a b => st _ _ _ _ _ a b) fun v vs h _ a b => st _ _ _ _ _ a b) fun v vs h _ a b => st _ _ _ _ _ a b) fun v vs h _ a b => st _ _ _ _ _ a b) fun v vs h _ a b => st _ _ _ _ _ a b) fun v vs h _ a b => st _ _ _ _ _ a b) fun v vs h _ a b => st _ _ _ _ _ a b) fun v vs h _ a b => st _ _ _ _ _ a b) fun v vs h _ a b => st _ _ _ _ _ a b

theorem one_beq (a b : Nat) : ((⟨#[a]⟩ : Str) == ⟨#[b]⟩) = (a == b) := by
  by_cases h : a = b
  · subst h; simp
  · have : (⟨#[a]⟩ : Str) ≠ ⟨#[b]⟩ := fun e => h (by cases e; rfl)
    rw [show (a == b) = false from by simpa using h]
    simpa using this
end
end MineQ
end

section
set_option Elab.async false
set_option maxRecDepth 100000
set_option linter.unusedVariables false
namespace MineQ
open PySem PySem.W PySem.Calls PyProof.Rows
section
variable {prog : Program} {w : World} {A : Around} {env : Env} {H : Heap} {s : Shared}
theorem upd_ne {m : Str → Option Value} {x y : Str} {v : Value} (h : y ≠ x) : upd m x v y = m y := by simp [upd, h]
theorem upd_eq {m : Str → Option Value} {x : Str} {v : Value} : upd m x v x = some v := by simp [upd]
set_option maxHeartbeats 4000000 in
theorem c_steps {x y : Str} {vx vy : Value} (hh : A.handled = none) (hA : A.depth + 5 < recursionLimit) (B : Bs w s.heap) (okx : RowOk x) (oky : RowOk y) (hx : isS x vx s.heap) (hy : isS y vy s.heap) : Gv prog w A (call (.ref 99) [vx, vy]) (isI (stepsOf x y)) s := by
  obtain ⟨tx, rfl⟩ := hx
  obtain ⟨ty, rfl⟩ := hy
  refine gv_fn (fd := fdAt w 99) (by omega) (B.X _ _ (look99 w)) (data99 w) B.lim (codeRec_of B.X (code99 w)) (body99 w) (bind99 w _ _) rfl (by intro x hx; simp at hx; rcases hx with rfl | rfl <;> exact Or.inl rfl) (fun s₁ F => ?_)
  generalize hL : s.heap.objs.size = L at F ⊢
  have hA' : (A.deeper (callEnvC (fdAt w 99) L 99)).depth + 3 < recursionLimit := by show A.depth + 1 + 3 < _; omega
  generalize hA2 : A.deeper (callEnvC (fdAt w 99) L 99) = A2 at hA' ⊢
  have hh2 : A2.handled = none := by rw [← hA2]; exact hh
  generalize hE : callEnvC (fdAt w 99) L 99 = ev at F ⊢
  have kr : ev.kindOf (Str.ofString "row") = some .local := by rw [← hE]; rfl
  have ko : ev.kindOf (Str.ofString "other") = some .local := by rw [← hE]; rfl
  have ks : ev.kindOf (Str.ofString "steps") = some .local := by rw [← hE]; rfl
  have kg : ev.kindOf (Str.ofString "rings") = some .local := by rw [← hE]; rfl
  have kk : ev.kindOf (Str.ofString "k") = some .local := by rw [← hE]; rfl
  have kf : ev.kindOf (Str.ofString "far") = some .local := by rw [← hE]; rfl
  have e1 : ev.globals = mainGlobals := by rw [← hE]; rfl
  have e2 : ev.builtins = builtinsNs := by rw [← hE]; rfl
  have mrow : bindL ev.kindOf [(Str.ofString "row", Value.str x tx), (Str.ofString "other", Value.str y ty)] (fun _ => none) (Str.ofString "row") = some (.str x tx) := by rw [← hE]; rfl
  have moth : bindL ev.kindOf [(Str.ofString "row", Value.str x tx), (Str.ofString "other", Value.str y ty)] (fun _ => none) (Str.ofString "other") = some (.str y ty) := by rw [← hE]; rfl
  generalize bindL ev.kindOf [(Str.ofString "row", Value.str x tx), (Str.ofString "other", Value.str y ty)] (fun _ => none) = m at F mrow moth
  refine x_assign F (P := isL isS ringsS) (evf_list (fun x => mono_S x) es_rings (by decide)).ev (mono_L (fun x => mono_S x) _) (fun vg s₂ F₂ q₂ z₂ hg₂ => ?_) kg
  have c0x := charAt_get okx.1 (k := 0) (by omega)
  have c0y := charAt_get oky.1 (k := 0) (by omega)
  refine x_assign F₂ (P := isI (stepsN x y 0)) (ev_ifexp (c := charAt x 0 == charAt y 0) (et_cmp (mono_S _) (ev_sidx (ev_name F₂.kind (F₂.loc ((upd_ne (by decide)).trans mrow) kr) fun _ _ => ⟨tx, rfl⟩) ev_int (by decide) (by decide) c0x)
    (ev_sidx (ev_name F₂.kind (F₂.loc ((upd_ne (by decide)).trans moth) ko) fun _ _ => ⟨ty, rfl⟩) ev_int (by decide) (by decide) c0y) (by rintro _ _ s hs ⟨t, rfl⟩ ⟨u, rfl⟩; rw [← one_beq]; exact g_eqS))
    (fun hc => ev_int.imp fun v h _ hv => by unfold stepsN; rw [if_pos hc]; exact hv) (fun hc => ev_int.imp fun v h _ hv => by unfold stepsN; rw [if_neg (by rw [hc]; exact Bool.false_ne_true)]; exact hv)) (mono_I _) (fun vs s₃ F₃ q₃ z₃ hs₃ => ?_) ks
  have gA : ev.kindOf (Str.ofString "abs") = some .globalImplicit := by rw [← hE]; rfl
  have gM : ev.kindOf (Str.ofString "min") = some .globalImplicit := by rw [← hE]; rfl
  have gN : ev.kindOf (Str.ofString "len") = some .globalImplicit := by rw [← hE]; rfl
  have gR : ev.kindOf (Str.ofString "range") = some .globalImplicit := by rw [← hE]; rfl
  have B₃ : Bs w s₃.heap := B.up F₃.keep
  refine x_for (st := fun m cm v => (upd m (Str.ofString "k") v, cm)) (fun m cm s v Q E F h => F.store kk h) F₃ (src_range (n := 9) hh2 (ev_name F₃.kind (sees_range B₃ gR e1 e2) fun _ _ => rfl) ev_int rfl (by decide)) (fun x => mono_I x)
    (J := fun i m cm h => m (Str.ofString "row") = some (.str x tx) ∧ m (Str.ofString "other") = some (.str y ty) ∧ (∃ vg, m (Str.ofString "rings") = some vg ∧ isL isS ringsS vg h) ∧ ∃ t, m (Str.ofString "steps") = some (.int (stepsN x y i) t))
    (by rintro i m cm h h' q ⟨a, b, ⟨vg, c, d⟩, e⟩; exact ⟨a, b, ⟨vg, c, mono_L (fun x => mono_S x) _ _ _ _ q d⟩, e⟩)
    ⟨(upd_ne (by decide)).trans ((upd_ne (by decide)).trans mrow), (upd_ne (by decide)).trans ((upd_ne (by decide)).trans moth), ⟨vg, (upd_ne (by decide)).trans upd_eq, mono_L (fun x => mono_S x) _ _ _ _ q₃ hg₂⟩, by obtain ⟨t, rfl⟩ := hs₃; exact ⟨t, upd_eq⟩⟩
    (fun i xv v m₁ cm₁ s₄ hxv hj hv F₄ q₄ => ?_) (fun m' cm' s' F' hj q' z' => ?_)
  · dsimp only at F₄
    obtain ⟨h, hq, j1, j2, ⟨vg, j3, j4⟩, ts, j5⟩ := hj
    have hi : i < 9 := by
      have := (List.getElem?_eq_some_iff.mp hxv).1
      rw [upto_len] at this; exact this
    rw [upto_get hi] at hxv
    cases hxv
    obtain ⟨tk, rfl⟩ := hv
    have hg := mono_L (fun x => mono_S x) _ _ _ _ hq j4
    have B₄ : Bs w s₄.heap := B.up F₄.keep
    have cx := charAt_get okx.1 (k := i + 1) (by omega)
    have cy := charAt_get oky.1 (k := i + 1) (by omega)
    have ek : ∀ p, Ev prog w A2 ev s₄.heap (.Name (Str.ofString "k") p) (isI i) := fun p => ev_name F₄.kind (F₄.loc upd_eq kk) fun _ _ => ⟨tk, rfl⟩
    have er : ∀ p p1 p2, Ev prog w A2 ev s₄.heap (.Subscript (.Name (Str.ofString "rings") p) (.Name (Str.ofString "k") p1) p2) (isS (ringAt i)) := fun p p1 p2 =>
      ev_idx (fun x => mono_S x) (ev_name F₄.kind (F₄.loc ((upd_ne (by decide)).trans j3) kg) fun h hs => mono_L (fun x => mono_S x) _ _ _ _ hs.q hg) (ek _) (by omega) (by omega) (by simpa using ring_get hi)
    have exx : ∀ p p1 p2 p3 p4 k1, Ev prog w A2 ev s₄.heap (.Subscript (.Name (Str.ofString "row") p) (.BinOp (.Name (Str.ofString "k") p1) .Add (.Constant (.int 1) k1 p2) p3) p4) (isS ⟨#[charAt x (i + 1)]⟩) := fun p p1 p2 p3 p4 k1 =>
      ev_sidx (ev_name F₄.kind (F₄.loc ((upd_ne (by decide)).trans j1) kr) fun _ _ => ⟨tx, rfl⟩) (ev_add (ek _) ev_int) (by omega) (by omega) (by rw [show ((i : Int) + 1).toNat = i + 1 by omega]; exact cx)
    have exy : ∀ p p1 p2 p3 p4 k1, Ev prog w A2 ev s₄.heap (.Subscript (.Name (Str.ofString "other") p) (.BinOp (.Name (Str.ofString "k") p1) .Add (.Constant (.int 1) k1 p2) p3) p4) (isS ⟨#[charAt y (i + 1)]⟩) := fun p p1 p2 p3 p4 k1 =>
      ev_sidx (ev_name F₄.kind (F₄.loc ((upd_ne (by decide)).trans j2) ko) fun _ _ => ⟨ty, rfl⟩) (ev_add (ek _) ev_int) (by omega) (by omega) (by rw [show ((i : Int) + 1).toNat = i + 1 by omega]; exact cy)
    refine x_assign F₄ (P := isI (farK x y i)) (ev_call1 (ev_name F₄.kind (sees_abs B₄ gA e1 e2) fun _ _ => rfl) (.built _) (mono_I _)
      (ev_sub (ev_smeth1 PySem.F.slot_str_index PySem.F.type_str_index (er _ _ _) (exx _ _ _ _ _ _) (by rintro t _ s hs ⟨u, rfl⟩; exact g_index (ring_occ i hi _ (okx.2 i hi))))
        (ev_smeth1 PySem.F.slot_str_index PySem.F.type_str_index (er _ _ _) (exy _ _ _ _ _ _) (by rintro t _ s hs ⟨u, rfl⟩; exact g_index (ring_occ i hi _ (oky.2 i hi)))))
      (by rintro _ s hs ⟨t, rfl⟩; exact g_abs)) (mono_I _) (fun vf s₅ F₅ q₅ z₅ hf₅ => ?_) kf
    have B₅ : Bs w s₅.heap := B.up F₅.keep
    obtain ⟨tf, rfl⟩ := hf₅
    have ef : ∀ p, Ev prog w A2 ev s₅.heap (.Name (Str.ofString "far") p) (isI (farK x y i)) := fun p => ev_name F₅.kind (F₅.loc upd_eq kf) fun _ _ => ⟨tf, rfl⟩
    have er5 : ∀ p p1 p2, Ev prog w A2 ev s₅.heap (.Subscript (.Name (Str.ofString "rings") p) (.Name (Str.ofString "k") p1) p2) (isS (ringAt i)) := fun p p1 p2 =>
      ev_idx (fun x => mono_S x) (ev_name F₅.kind (F₅.loc ((upd_ne (by decide)).trans ((upd_ne (by decide)).trans j3)) kg) fun h hs => mono_L (fun x => mono_S x) _ _ _ _ (q₅.trans hs.q) hg) (ev_name F₅.kind (F₅.loc ((upd_ne (by decide)).trans upd_eq) kk) fun _ _ => ⟨tk, rfl⟩) (by omega) (by omega) (by simpa using ring_get hi)
    refine x_assign F₅ (P := isI (stepsN x y (i + 1))) (ev_add (ev_name F₅.kind (F₅.loc ((upd_ne (by decide)).trans ((upd_ne (by decide)).trans j5)) ks) fun _ _ => ⟨ts, rfl⟩)
      (ev_call2 (R := isI (stepK x y i)) (ev_name F₅.kind (sees_min B₅ gM e1 e2) fun _ _ => rfl) (.built _) (mono_I _) (mono_I _) (ef _)
        (ev_sub (ev_call1 (ev_name F₅.kind (sees_len B₅ gN e1 e2) fun _ _ => rfl) (.built _) (mono_S _) (er5 _ _ _) (fun v s hs hv => g_slen (ring_len hi) hv)) (ef _))
        (by rintro _ _ s hs ⟨t, rfl⟩ ⟨u, rfl⟩; exact g_min2 hh2))) (mono_I _) (fun vn s₆ F₆ q₆ z₆ hn₆ => x_nil ⟨rfl, _, _, F₆, z₅.trans z₆, ?_⟩) ks
    obtain ⟨tn, rfl⟩ := hn₆
    refine ⟨?_, ?_, ⟨vg, ?_, mono_L (fun x => mono_S x) _ _ _ _ (q₅.trans q₆) hg⟩, tn, upd_eq⟩
    · exact (upd_ne (by decide)).trans ((upd_ne (by decide)).trans ((upd_ne (by decide)).trans j1))
    · exact (upd_ne (by decide)).trans ((upd_ne (by decide)).trans ((upd_ne (by decide)).trans j2))
    · exact (upd_ne (by decide)).trans ((upd_ne (by decide)).trans ((upd_ne (by decide)).trans j3))
  · obtain ⟨_, _, _, t, j5⟩ := hj
    exact x_return (P := isI (stepsOf x y)) (ev_name F'.kind (F'.loc j5 ks) fun _ _ => ⟨t, by rw [upto_len]; rfl⟩) fun v s' hv k => ⟨v, rfl, hv, ktr F'.done k⟩
end
end MineQ
end

section
set_option Elab.async false
set_option maxRecDepth 100000
set_option linter.unusedVariables false
namespace MineQ
open PySem PySem.W PySem.Calls PyProof.Rows

section
variable {prog : Program} {w : World} {A : Around} {s : Shared} {RR : Result → Shared → Prop}

theorem turn1 (elt target iter : Expr) (g0 : Comprehension) (scope : Scope) (pos : Pos) (it acc : Value) (env : Env) :
    compTurn (.ListComp elt [g0, ⟨target, iter, [], 0⟩] scope pos) 1 it acc env = (standAt iter.pos >>= fun _ => pyNext it >>= fun r => match r with
      | none => pure (.done .next)
      | some v => letOwnedTupleGo target it v >>= fun _ => assign target env v >>= fun _ =>
        (eval elt env >>= fun x => call (.builtin "list.append") [acc, x] >>= fun _ => pure ()) >>= fun _ =>
          again (.compLoop (.ListComp elt [g0, ⟨target, iter, [], 0⟩] scope pos) 1 it acc env)) := by rfl
theorem turn0 (elt target iter : Expr) (t1 i1 : Expr) (scope : Scope) (pos : Pos) (it acc : Value) (env : Env) :
    compTurn (.ListComp elt [⟨target, iter, [], 0⟩, ⟨t1, i1, [], 0⟩] scope pos) 0 it acc env = (standAt iter.pos >>= fun _ => pyNext it >>= fun r => match r with
      | none => pure (.done .next)
      | some v => letOwnedTupleGo target it v >>= fun _ => assign target env v >>= fun _ =>
        eval i1 env >>= fun x => standAt i1.pos >>= fun _ => foldedSetIterable i1 env x >>= fun x => holding [x] (pyIter x) >>= fun it' =>
          runOwn (.compStart (.ListComp elt [⟨target, iter, [], 0⟩, ⟨t1, i1, [], 0⟩] scope pos) 1 it' acc env) env >>= fun _ =>
          again (.compLoop (.ListComp elt [⟨target, iter, [], 0⟩, ⟨t1, i1, [], 0⟩] scope pos) 0 it acc env)) := by rfl

theorem code_loop1 {elt target iter : Expr} {g0 : Comprehension} {scope : Scope} {pos : Pos} {it acc : Value} {env : Env} (I : Nat → Shared → Prop)
    (turn : ∀ n s, I n s → wpAny (model prog w) A (pyNext it) (fun r s₁ => match r with
      | none => RR (.ok .next) s₁
      | some v => wpAny (model prog w) A (assign target env v) (fun _ s₂ => wpAny (model prog w) A (eval elt env) (fun x s₃ =>
          wpAny (model prog w) A (call (.builtin "list.append") [acc, x]) (fun _ s₄ => ∃ m, m < n ∧ I m s₄) (fun _ _ => False) s₃) (fun _ _ => False) s₂) (fun _ _ => False) s₁) (fun _ _ => False) s)
    (n : Nat) (h : I n s) (ht : ∀ v, letOwnedTupleGo target it v = pure () := by intro _; rfl) :
    codeAny (model prog w) A (.compLoop (.ListComp elt [g0, ⟨target, iter, [], 0⟩] scope pos) 1 it acc env) RR s := by
  refine codeAny_loop rfl I (fun n s hI => ?_) n h
  show wpAny _ _ ((compTurn (.ListComp elt [g0, ⟨target, iter, [], 0⟩] scope pos) 1 it acc env).onRaise (fun x => do noteFrame x env; theTreesLotGoes x)) _ _ s
  refine wpAny_noted ?_
  rw [turn1]
  refine wpAny_bind (wpAny_standAt (wpAny_bind (wpAny_mono (turn n s hI) (fun r s₁ h₁ => ?_) fun _ _ h' => h'.elim)))
  cases r with
  | none => exact wpAny_pure h₁
  | some v =>
    refine wpAny_bind (wpAny_of_eq (ht v) ?_)
    exact wpAny_bind (wpAny_mono h₁ (fun _ s₂ h₂ => wpAny_bind (wpAny_bind (wpAny_mono h₂ (fun x s₃ h₃ => wpAny_bind (wpAny_mono h₃
      (fun _ s₄ h₄ => wpAny_pure (wpAny_pure ⟨rfl, h₄⟩)) fun _ _ h' => h'.elim)) fun _ _ h' => h'.elim))) fun _ _ h' => h'.elim)

theorem code_start1 {elt target iter g0 scope pos it acc env}
    (h0 : codeAny (model prog w) A (.compLoop (.ListComp elt [g0, ⟨target, iter, [], 0⟩] scope pos) 1 it acc env) RR s)
    (h : wpAny (model prog w) A (pyIter it) (fun it' s' => codeAny (model prog w) A (.compLoop (.ListComp elt [g0, ⟨target, iter, [], 0⟩] scope pos) 1 it' acc env) RR s') (fun _ _ => False) s) :
    codeAny (model prog w) A (.compStart (.ListComp elt [g0, ⟨target, iter, [], 0⟩] scope pos) 1 it acc env) RR s := by
  refine codeAny_of_tree ?_
  show wpAny _ _ ((compStart (.ListComp elt [g0, ⟨target, iter, [], 0⟩] scope pos) 1 it acc env).onRaise (fun x => do noteFrame x env; standAt theWindowsPlace)) _ _ s
  refine wpAny_notedAt ?_
  unfold compStart
  show wpAny _ _ (ask >>= _) _ _ s
  refine wpAny_bind (wpAny_askSetting (wpAny_ite ?_))
  split
  · first
      | exact wpAny_bind (wpAny_pure (wpAny_pure (And.intro rfl h0)))
      | exact wpAny_pure (And.intro rfl h0)
  · first
      | exact wpAny_bind (wpAny_rule (wpAny_bind (wpAny_standAt (wpAny_bind (wpAny_mono h (fun it' s' h' => wpAny_pure (And.intro rfl h')) fun _ _ x => x.elim)))))
      | (refine wpAny_bind (wpAny_rule ?_); show wpAny _ _ (standAt iter.pos >>= _) _ _ s; exact wpAny_bind (wpAny_standAt (wpAny_bind (wpAny_mono h (fun it' s' h' => wpAny_pure (And.intro rfl h')) fun _ _ x => x.elim))))

theorem code_loop0 {elt target iter t1 i1 : Expr} {scope : Scope} {pos : Pos} {it acc : Value} {env : Env} (I : Nat → Shared → Prop)
    (turn : ∀ n s, I n s → wpAny (model prog w) A (pyNext it) (fun r s₁ => match r with
      | none => RR (.ok .next) s₁
      | some v => wpAny (model prog w) A (assign target env v) (fun _ s₂ => wpAny (model prog w) A (eval i1 env) (fun x s₃ =>
          wpAny (model prog w) A (pyIter x) (fun it' s₄ => codeAny (model prog w) A (.compStart (.ListComp elt [⟨target, iter, [], 0⟩, ⟨t1, i1, [], 0⟩] scope pos) 1 it' acc env) (fun r s₅ => match r with | .ok _ => ∃ m, m < n ∧ I m s₅ | .error _ => False) s₄) (fun _ _ => False) s₃) (fun _ _ => False) s₂) (fun _ _ => False) s₁) (fun _ _ => False) s)
    (n : Nat) (h : I n s) (ht : ∀ v, letOwnedTupleGo target it v = pure () := by intro _; rfl) (hset : ∀ x, foldedSetIterable i1 env x = pure x := by intro _; rfl) :
    codeAny (model prog w) A (.compLoop (.ListComp elt [⟨target, iter, [], 0⟩, ⟨t1, i1, [], 0⟩] scope pos) 0 it acc env) RR s := by
  refine codeAny_loop rfl I (fun n s hI => ?_) n h
  show wpAny _ _ ((compTurn (.ListComp elt [⟨target, iter, [], 0⟩, ⟨t1, i1, [], 0⟩] scope pos) 0 it acc env).onRaise (fun x => do noteFrame x env; theTreesLotGoes x)) _ _ s
  refine wpAny_noted ?_
  rw [turn0]
  refine wpAny_bind (wpAny_standAt (wpAny_bind (wpAny_mono (turn n s hI) (fun r s₁ h₁ => ?_) fun _ _ h' => h'.elim)))
  cases r with
  | none => exact wpAny_pure h₁
  | some v =>
    refine wpAny_bind (wpAny_of_eq (ht v) ?_)
    refine wpAny_bind (wpAny_mono h₁ (fun _ s₂ h₂ => wpAny_bind (wpAny_mono h₂ (fun x s₃ h₃ => wpAny_bind (wpAny_standAt (wpAny_bind (wpAny_of_eq (hset x) (wpAny_bind (wpAny_holding (wpAny_mono h₃
      (fun it' s₄ h₄ => wpAny_bind (wpAny_runOwn (codeAny_mono h₄ fun r s₅ h₅ => ?_))) fun _ _ h' => h'.elim))))))) fun _ _ h' => h'.elim)) fun _ _ h' => h'.elim)
    cases r with
    | ok f => exact wpAny_pure ⟨rfl, h₅⟩
    | error e => exact h₅.elim
end
end MineQ
end

section
set_option Elab.async false
set_option maxRecDepth 100000
set_option linter.unusedVariables false
namespace MineQ
open PySem PySem.W PySem.Calls PyProof.Rows

def AccOk (D : Addr) (h : Heap) (zs : List (List Int)) : Prop := ∃ ys, h.PlainList D ys ∧ Paired (fun y b => isL isI b y h) ys.toList zs ∧ ∀ y ∈ ys.toList, y ≠ .ref D
theorem acc_subq {D : Addr} {h h' : Heap} {zs : List (List Int)} (k : SubQ h h') (x : AccOk D h zs) : AccOk D h' zs :=
  let ⟨ys, a, b, c⟩ := x; ⟨ys, plain_q k a, b.mono fun u z r => mono_L (fun x => mono_I x) _ _ _ _ k r, c⟩
theorem li_same {D : Addr} {h h' : Heap} {b : List Int} {y : Value} (hs : Heap.SameBut D h h') (hy : y ≠ .ref D) (x : isL isI b y h) : isL isI b y h' :=
  own_LI b y h h' (fun a e o e' => hs.extBut a o (fun ha => hy (by rw [e, ha])) e') x

section
variable {prog : Program} {w : World} {A : Around} {s : Shared} {RR : Result → Shared → Prop}
theorem acc_push {D : Addr} {zs : List (List Int)} {b : List Int} {y : Value} {Q : Value → Shared → Prop} {E : Value → Shared → Prop} (x : AccOk D s.heap zs) (hb : isL isI b y s.heap) (hy : y ≠ .ref D) (hsz : zs.length ≤ 10000)
    (h : ∀ h', AccOk D h' (zs ++ [b]) → Heap.SameBut D s.heap h' → Q .none { s with heap := h' }) : wpAny (model prog w) A (call (.builtin "list.append") [.ref D, y]) Q E s := by
  obtain ⟨ys, hl, hp, hn⟩ := x
  refine wpAny_list_append_plain (hsz := by rw [plist_size hp]; exact Nat.le_trans hsz (by decide)) hl fun h' hl' hs' => h h' ⟨_, hl', ?_, ?_⟩ hs'
  · have key : ∀ (l₁ : List Value) (l₂ : List (List Int)), (∀ z ∈ l₁, z ≠ .ref D) → Paired (fun y b => isL isI b y s.heap) l₁ l₂ → Paired (fun y b => isL isI b y h') l₁ l₂ := by
      intro l₁ l₂ hm hp
      induction hp with
      | nil => exact .nil
      | cons q t ih => exact .cons (li_same hs' (hm _ List.mem_cons_self) q) (ih fun z hz => hm z (List.mem_cons_of_mem _ hz))
    simpa using Paired.snoc (key _ _ hn hp) (li_same hs' hy hb)
  · intro z hz
    simp at hz
    rcases hz with hz | rfl
    · exact hn z (by simpa using hz)
    · exact hy

theorem inner {I1 D : Addr} {cenv : Env} {ps : List Int} {f : Int → List Int} {zs : List (List Int)} {wl : List Int} {vw : Value} {x y : Str} {px : Pos} {elt iter : Expr} {g0 : Comprehension} {scope : Scope} {pos : Pos} {fp wr : List Addr} {P : Nat → Value → Prop} {St : Nat → Heap → Prop} {m : Str → Option Value} {B : Heap}
    (W : Walks prog w A I1 fp wr ps.length P St) (hk : cenv.scope.kind = .function) (hx : cenv.kindOf x = some .local) (hy : cenv.kindOf y = some .local) (hxy : y ≠ x)
    (hst : St 0 s.heap) (hn : s.heap.Ns cenv.locals m) (hm : m y = some vw) (hw : isL isI wl vw s.heap) (hwD : vw ≠ .ref D) (hacc : AccOk D s.heap zs)
    (hfp : ∀ b ∈ fp, b ≠ cenv.locals ∧ b ≠ D) (hlive : ∀ i h, St i h → ∀ b ∈ wr, ∃ o, h.get? b = some o ∧ ∀ xs n, o.data ≠ .seq xs n)
    (hitem : ∀ i v, i < ps.length → P i v → ∃ z, ps[i]? = some z ∧ ∃ t, v = .int z t)
    (hB : Sub B s.heap) (hBC : B.get? cenv.locals = none) (hBD : B.get? D = none) (hBw : ∀ b ∈ wr, B.get? b = none) (hsz : zs.length + ps.length ≤ 10000)
    (helt : ∀ pv t s₂, pv ∈ ps → Sub B s₂.heap → Sees cenv s₂.heap y vw → isL isI wl vw s₂.heap → Sees cenv s₂.heap x (.int pv t) → Gv prog w A (eval elt cenv) (fun z h => isL isI (f pv) z h ∧ ∀ a, z = .ref a → s₂.heap.get? a = none) s₂)
    (hRR : ∀ h' tk m', h'.Ns cenv.locals m' → AccOk D h' (zs ++ ps.map f) → (∀ b o, b ≠ cenv.locals → b ≠ D → b ∉ wr → s.heap.get? b = some o → h'.get? b = some o) → RR (.ok .next) { s with heap := h', toks := tk }) :
    codeAny (model prog w) A (.compLoop (.ListComp elt [g0, ⟨.Name x px, iter, [], 0⟩] scope pos) 1 (.ref I1) (.ref D) cenv) RR s := by
  refine code_loop1 (fun k s' => ∃ h tk i m', s' = { s with heap := h, toks := tk } ∧ St i h ∧ h.Ns cenv.locals m' ∧ m' y = some vw ∧ AccOk D h (zs ++ (ps.take i).map f) ∧ isL isI wl vw h ∧ i ≤ ps.length ∧ k = ps.length + 1 - i ∧
    (∀ b o, b ≠ cenv.locals → b ≠ D → b ∉ wr → s.heap.get? b = some o → h.get? b = some o)) ?_ (ps.length + 1)
    ⟨s.heap, s.toks, 0, m, rfl, hst, hn, hm, by simpa using hacc, hw, Nat.zero_le _, rfl, fun _ _ _ _ _ e => e⟩
  rintro k s' ⟨h, tk, i, m', rfl, hst', hn', hm', hacc', hw', hi, rfl, hkeep⟩
  have subB : ∀ h' : Heap, (∀ b o, b ≠ cenv.locals → b ≠ D → b ∉ wr → s.heap.get? b = some o → h'.get? b = some o) → Sub B h' := fun h' kk b o e =>
    kk b o (fun q => by rw [q, hBC] at e; cases e) (fun q => by rw [q, hBD] at e; cases e) (fun q => by rw [hBw b q] at e; cases e) (hB b o e)
  have q1 : ∀ h₁ : Heap, (∀ b o, b ∉ wr → h.get? b = some o → h₁.get? b = some o) → SubQ h h₁ := by
    intro h₁ up b o ys n e d
    refine up b o (fun hb => ?_) e
    obtain ⟨o2, e2, hn2⟩ := hlive _ _ hst' b hb
    rw [e] at e2; cases e2; exact hn2 _ _ d
  by_cases hlt : i < ps.length
  · refine W.item i _ _ _ hlt hst' fun v h₁ tk₁ hPv hst₁ hk₁ => ?_
    obtain ⟨pv, hpv, t, rfl⟩ := hitem i v hlt hPv
    have hCw : cenv.locals ∉ wr := fun hb => (hfp _ (W.sub _ hb)).1 rfl
    have hDw : D ∉ wr := fun hb => (hfp _ (W.sub _ hb)).2 rfl
    have Q1 := q1 h₁ hk₁
    refine wpAny_assign_Name (wpAny_storeName_local hx (hn'.at' fun o e => hk₁ _ o hCw e) (fun h₂ hn₂ hs₂ => ?_) (by rw [hk]; rfl))
    have Q2 : SubQ h₁ h₂ := subq_ns (hn'.at' fun o e => hk₁ _ o hCw e) hs₂
    have kk₂ : ∀ b o, b ≠ cenv.locals → b ≠ D → b ∉ wr → s.heap.get? b = some o → h₂.get? b = some o := fun b o n1 n2 n3 e => hs₂.extBut b o n1 (hk₁ b o n3 (hkeep b o n1 n2 n3 e))
    have hw₂ := mono_L (fun x => mono_I x) _ _ _ _ (Q1.trans Q2) hw'
    have hacc₂ := acc_subq (Q1.trans Q2) hacc'
    refine (helt pv t { s with heap := h₂, toks := tk₁ + 1 } (List.mem_of_getElem? hpv) (subB _ kk₂) (.loc _ hy hn₂ (by simp [hxy, hm'])) hw₂ (.loc _ hx hn₂ (by simp))).use fun z s₃ hz k₃ => ?_
    obtain ⟨h₃, tk₃, rfl, k₃⟩ := k₃
    obtain ⟨hz, hfr⟩ := hz
    have hzD : z ≠ .ref D := by
      intro e
      obtain ⟨ys, ⟨n, e1⟩, _⟩ := hacc₂
      have := hfr D e
      rw [e1] at this; cases this
    refine acc_push (zs := zs ++ (ps.take i).map f) (acc_subq (Sub.q k₃) hacc₂) hz hzD (by simp; omega) fun h₄ hacc₄ hs₄ => ?_
    have hCD : cenv.locals ≠ D := by
      intro e
      obtain ⟨ys, ⟨n, e1⟩, _⟩ := hacc'
      obtain ⟨o, es, ep, ho, hd, _⟩ := hn'
      rw [e, e1] at ho; cases ho; cases hd
    refine ⟨ps.length + 1 - (i + 1), by omega, h₄, tk₃, i + 1, _, rfl, ?_, (hn₂.keeps k₃).sameBut hs₄ hCD, by simp [hxy, hm'], ?_, li_same hs₄ hwD (mono_L (fun x => mono_I x) _ _ _ _ (Sub.q k₃) hw₂), hlt, rfl, fun b o n1 n2 n3 e => hs₄.extBut b o n2 (k₃ b o (kk₂ b o n1 n2 n3 e))⟩
    · exact W.frame _ _ _ hst₁ fun b hb o e => hs₄.extBut b o (hfp b hb).2 (k₃ b o (hs₂.extBut b o (hfp b hb).1 e))
    · have : ps.take (i + 1) = ps.take i ++ [pv] := by rw [List.take_add_one, hpv]; rfl
      rw [this, List.map_append, ← List.append_assoc]
      exact hacc₄
  · have hin : i = ps.length := by omega
    subst hin
    refine W.done _ _ _ hst' fun h₁ tk₁ hk₁ => ?_
    have hCw : cenv.locals ∉ wr := fun hb => (hfp _ (W.sub _ hb)).1 rfl
    have Q1 := q1 h₁ hk₁
    rw [List.take_length] at hacc'
    exact hRR h₁ tk₁ m' (hn'.at' fun o e => hk₁ _ o hCw e) (acc_subq Q1 hacc') fun b o n1 n2 n3 e => hk₁ b o n3 (hkeep b o n1 n2 n3 e)
end
end MineQ
end

section
set_option Elab.async false
set_option maxRecDepth 100000
set_option linter.unusedVariables false
namespace MineQ
open PySem PySem.W PySem.Calls PyProof.Rows
def isLI (l : List Int) : VP := isL isI l
theorem mono_LI (l : List Int) : Mono (isLI l) := mono_L (fun x => mono_I x) l
theorem acc_isL {D : Addr} {h : Heap} {zs : List (List Int)} (x : AccOk D h zs) : isL isLI zs (.ref D) h := let ⟨ys, a, b, _⟩ := x; ⟨D, ys, rfl, a, b⟩
section
variable {prog : Program} {w : World} {A : Around} {env : Env} {H : Heap} {s : Shared}

/-- a source that is walked by objects of its own alone -/
def SrcW (prog : Program) (w : World) (A : Around) (env : Env) (H : Heap) (e : Expr) (xs : List Int) : Prop :=
  ∀ s, Sub H s.heap → ∀ E, wpAny (model prog w) A (eval e env) (fun x s₁ => wpAny (model prog w) A (pyIter x) (fun it s₂ => Keeps s s₂ ∧ ∃ I fp wr P St, it = .ref I ∧ Walks prog w A I fp wr xs.length P St ∧ St 0 s₂.heap ∧ (∀ b ∈ fp, b ∈ wr) ∧
    (∀ b ∈ wr, s.heap.get? b = none) ∧ (∀ i h, St i h → ∀ b ∈ wr, ∃ o, h.get? b = some o ∧ ∀ xs n, o.data ≠ .seq xs n) ∧ (∀ i v, i < xs.length → P i v → ∃ x, xs[i]? = some x ∧ ∃ t, v = .int x t)) E s₁) E s
theorem srcw_range {e : Expr} {p pos : Pos} {n : Nat} {k : Int} (hh : A.handled = none) (hf : Ev prog w A env H (.Name (Str.ofString "range") p) (isV (.type "range"))) (he : Ev prog w A env H e (isI k)) (hk : k = n) (hn : n ≤ 10000)
    (hst : starEach [e] env = (false, eval e env) :: starEach [] env := by rfl) : SrcW prog w A env H (.Call (.Name (Str.ofString "range") p) [e] [] pos) (upto n) := fun s hs E => by
  have hc : Ev prog w A env H (.Call (.Name (Str.ofString "range") p) [e] [] pos) (fun v h => ∃ r t u w', v = .ref r ∧ IsRange h r 0 n 1 t u w') :=
    ev_call1 hf (.type _) (mono_I k) he (by
      rintro _ s _ ⟨t, rfl⟩ E
      subst hk
      exact call_range_1 ⟨⟨_, _, _, _, rfl, Heap.get?_push_size _ rfl⟩, kpush _⟩) hst
  refine (hc s hs).use fun v s₁ hv k₁ => ?_
  obtain ⟨r, t, u, w', rfl, hr⟩ := hv
  have hsmall : Builtin.Range.small 0 n 1 = true := by
    unfold Builtin.Range.small
    rw [rangeSize_nat]
    have h1 : Builtin.Range.rangeFitsLong 0 = true := by decide
    have h2 : Builtin.Range.rangeFitsLong (n : Int) = true := by unfold Builtin.Range.rangeFitsLong; rw [Bool.and_eq_true]; exact ⟨decide_eq_true (by omega), decide_eq_true (by omega)⟩
    have h3 : Builtin.Range.rangeFitsLong 1 = true := by decide
    have e : (((n : Int) - 0).toNat : Int) = n := by omega
    have e2 : ((n : Int) + (1 - 1)) = n := by omega
    rw [e, e2, h1, h2, h3, if_pos (by decide)]
    simp
  have W := Walks.range (prog := prog) (w := w) hh s₁.heap.objs.size 0 1 n
  rw [← upto_len n] at W
  refine wpAny_pyIter_range hr hsmall ⟨ktr k₁ (kpush (tk := s₁.toks) _), s₁.heap.objs.size, _, _, _, _, rfl, W, ?_, fun b hb => hb, ?_, ?_, ?_⟩
  · show IsRangeIter _ _ _ _ _
    rw [rangeSize_nat, upto_len]
    have e : (((n : Int) - 0).toNat : Int) = (n : Int) - ((0 : Nat) : Int) := by omega
    have e2 : (0 : Int) + ((0 : Nat) : Int) * 1 = 0 := by omega
    rw [e, e2]
    exact Heap.get?_push_size _ rfl
  · intro b hb
    simp at hb; subst hb
    exact sub_none (ksub k₁) fresh_size
  · intro i h st b hb
    simp at hb; subst hb
    exact ⟨_, st, fun xs n e => by cases e⟩
  · rintro i v hi ⟨t, rfl⟩
    rw [upto_len] at hi
    exact ⟨i, upto_get hi, t, by simp⟩

theorem comp2_raw {xs : List (List Int)} {f : List Int → Int → List Int} {elt iter i1 : Expr} {x y : Str} {px py : Pos} {scope : Scope} {cl : List (Str × Addr)} {pos pos' : Pos} {use : Option (Value → Sem Unit)} {Qf : Value → Shared → Prop} {E : Value → Shared → Prop}
    (hclos : closureFor scope env = pure cl) (hkind : scope.kind = .function) (hnames : ∀ y ∈ scope.names, y.2 = .local → scope.names.lookup y.1 = some .local)
    (hx : scope.names.lookup x = some .local) (hy : scope.names.lookup y = some .local) (hxy : y ≠ x) (hcs : ∀ n, cellsFrom n scope.names cl = cl) (hpc : ∀ h, pushCells h scope.names = h)
    (hsrc : Src prog w A env H iter xs isLI) (hsz : ∀ i, i ≤ xs.length → ((xs.take i).flatMap fun wl => (upto (wl.length + 1)).map (f wl)).length ≤ 10000)
    (hsrc1 : ∀ L wl v (s₂ : Shared), wl ∈ xs → Sub H s₂.heap → isLI wl v s₂.heap → Sees (cEnv scope cl L env) s₂.heap y v → SrcW prog w A (cEnv scope cl L env) s₂.heap i1 (upto (wl.length + 1)))
    (helt : ∀ L wl v pv t s₂, wl ∈ xs → pv ∈ upto (wl.length + 1) → Sub H s₂.heap → Sees (cEnv scope cl L env) s₂.heap y v → isLI wl v s₂.heap → Sees (cEnv scope cl L env) s₂.heap x (.int pv t) →
      Gv prog w A (eval elt (cEnv scope cl L env)) (fun z h => isL isI (f wl pv) z h ∧ ∀ a, z = .ref a → s₂.heap.get? a = none) s₂)
    (hs : Sub H s.heap)
    (hfin : ∀ D C h' tk, s.heap.get? D = none → s.heap.get? C = none → D ≠ C → (∃ m, h'.Ns C m) → AccOk D h' (xs.flatMap fun wl => (upto (wl.length + 1)).map (f wl)) → Sub s.heap h' → compPost (model prog w) A E use Qf (.ref D) C (.ok .next) { s with heap := h', toks := tk })
    (hset : ∀ x, foldedSetIterable iter env x = pure x := by intro _; rfl) (hset1 : ∀ L x, foldedSetIterable i1 (cEnv scope cl L env) x = pure x := by intro _ _; rfl) :
    wpAny (model prog w) A (comprehension (.ListComp elt [⟨.Name y py, iter, [], 0⟩, ⟨.Name x px, i1, [], 0⟩] scope pos) scope env pos' (newList []) false (eval iter env) use) Qf E s := by
  refine wpAny_comprehension_free (use := use) rfl hset hclos hkind hnames (wpAny_mono (hsrc s hs E) (fun xv s₁ h₁ => wpAny_mono h₁ (fun it s₂ h₂ => ?_) fun _ _ e => e) fun _ _ e => e)
  obtain ⟨k₂, I, fp, wr, P, St, rfl, W, hst, hfp, hwr, hlive, hitem⟩ := h₂
  obtain ⟨G, tkG, rfl, kG⟩ := k₂
  refine wpAny_newObj_type (wpAny_compNewEnv ?_)
  dsimp only at hst hfp hwr hitem ⊢
  generalize hH2 : G.push { cls := .type "list", dict := none, data := .seq ([] : List Value).toArray } = H2
  have hC : H2.objs.size = G.objs.size + 1 := by rw [← hH2, Heap.size_push]
  generalize hH3 : H2.push { cls := .type "dict", data := .dict #[] } = H3
  rw [hpc]
  have sub3 : Sub G H3 := fun b o e => hH3 ▸ Heap.get?_push_of_some _ (hH2 ▸ Heap.get?_push_of_some _ e)
  have hns : H3.Ns H2.objs.size (fun _ => none) := hH3 ▸ Heap.Ns.new H2 (.type "dict")
  have hacc : AccOk G.objs.size H3 [] := ⟨#[], ⟨_, hH3 ▸ Heap.get?_push_of_some _ (hH2 ▸ Heap.get?_push_size _ rfl)⟩, by simpa using Paired.nil, by simp⟩
  have nfp : ∀ b, G.objs.size ≤ b → b ∉ fp := fun b hb hm => Nat.lt_irrefl _ (Nat.lt_of_lt_of_le (hfp b hm).1 hb)
  have hDC : G.objs.size ≠ H2.objs.size := by rw [hC]; exact Nat.ne_of_lt (Nat.lt_succ_self _)
  have hGC : G.get? H2.objs.size = none := fresh_le (by rw [hC]; exact Nat.le_succ _)
  have fpC : ∀ b ∈ fp, b ≠ H2.objs.size ∧ b ≠ G.objs.size := fun b hb => ⟨fun e => nfp b (by rw [e, hC]; exact Nat.le_succ _) hb, fun e => nfp b (by rw [e]; exact Nat.le_refl _) hb⟩
  have loop : ∀ (s₃ : Shared), s₃ = { s with heap := H3, toks := tkG } →
      codeAny (model prog w) A (.compLoop (.ListComp elt [⟨.Name y py, iter, [], 0⟩, ⟨.Name x px, i1, [], 0⟩] scope pos) 0 (.ref I) (.ref G.objs.size) (cEnv scope cl H2.objs.size env))
        (compPost (model prog w) A E use Qf (.ref G.objs.size) H2.objs.size) s₃ := by
    rintro s₃ rfl
    refine code_loop0 (fun k s' => ∃ h tk i m', s' = { s with heap := h, toks := tk } ∧ St i h ∧ h.Ns H2.objs.size m' ∧ AccOk G.objs.size h ((xs.take i).flatMap fun wl => (upto (wl.length + 1)).map (f wl)) ∧ i ≤ xs.length ∧ k = xs.length + 1 - i ∧
      (∀ b o, b ∉ wr → G.get? b = some o → h.get? b = some o)) ?_ (xs.length + 1)
      ⟨H3, tkG, 0, _, rfl, W.frame _ _ _ hst fun b _ o e => sub3 b o e, hns, by simpa using hacc, Nat.zero_le _, rfl, fun b o _ e => sub3 b o e⟩ (hset := hset1 _)
    rintro k s' ⟨h, tk, i, m', rfl, hst', hn', hacc', hi, rfl, hkeep⟩
    have subH : ∀ h' : Heap, (∀ b o, b ∉ wr → G.get? b = some o → h'.get? b = some o) → Sub H h' := fun h' kk b o e =>
      kk b o (fun q => by have := sub_none hs (hwr b q).1; rw [this] at e; cases e) (kG b o (hs b o e))
    have subQ : ∀ h' : Heap, (∀ b o, b ∉ wr → G.get? b = some o → h'.get? b = some o) → SubQ G h' := fun h' kk b o xs n e d =>
      kk b o (fun hb => by obtain ⟨o', e', hn⟩ := (hwr b hb).2; rw [e'] at e; cases e; exact hn _ _ d) e
    have q1 : ∀ h₁ : Heap, (∀ b o, b ∉ wr → h.get? b = some o → h₁.get? b = some o) → SubQ h h₁ := by
      intro h₁ up b o ys n e d
      refine up b o (fun hb => ?_) e
      obtain ⟨o2, e2, hn2⟩ := hlive _ _ hst' b hb
      rw [e] at e2; cases e2; exact hn2 _ _ d
    have hCw : H2.objs.size ∉ wr := fun hb => (fpC _ (W.sub _ hb)).1 rfl
    by_cases hlt : i < xs.length
    · refine W.item i _ _ _ hlt hst' fun v h₁ tk₁ hPv hst₁ hk₁ => ?_
      obtain ⟨wl, hwl, hRv⟩ := hitem i v hlt hPv
      have hmem : wl ∈ xs := List.mem_of_getElem? hwl
      have hvD : v ≠ .ref G.objs.size := by
        intro e
        obtain ⟨a, vs, e1, ⟨n, hl⟩, _⟩ := hRv
        rw [e] at e1; cases e1
        rw [fresh_size] at hl; cases hl
      have Q1 := q1 h₁ hk₁
      refine wpAny_assign_Name (wpAny_storeName_local (lookup_relabel_local hy) (hn'.at' fun o e => hk₁ _ o hCw e) (fun h₂ hn₂ hs₂ => ?_) (by show (scope.kind == .class || (scope.kind == .module && _)) = false; rw [hkind]; rfl))
      replace hs₂ : Heap.SameBut H2.objs.size h₁ h₂ := hs₂
      have Q2 : SubQ h₁ h₂ := subq_ns (hn'.at' fun o e => hk₁ _ o hCw e) hs₂
      have kk₂ : ∀ b o, b ∉ wr → G.get? b = some o → h₂.get? b = some o := fun b o n1 e => hs₂.extBut b o (fun q => by rw [q, hGC] at e; cases e) (hk₁ b o n1 (hkeep b o n1 e))
      have hw₂ : isLI wl v h₂ := mono_LI wl _ _ _ (subQ _ kk₂) hRv
      have hacc₂ := acc_subq (Q1.trans Q2) hacc'
      have hst₂ : St (i + 1) h₂ := W.frame _ _ _ hst₁ fun b hb o e => hs₂.extBut b o (fpC b hb).1 e
      have see : Sees (cEnv scope cl H2.objs.size env) h₂ y v := .loc _ (lookup_relabel_local hy) hn₂ (by simp)
      refine wpAny_mono (hsrc1 H2.objs.size wl v { s with heap := h₂, toks := tk₁ + 1 } hmem (subH _ kk₂) hw₂ see _ (fun _ _ e => e) (fun _ _ => False)) (fun xv s₃ h₃ => wpAny_mono h₃ (fun it s₄ h₄ => ?_) fun _ _ e => e) fun _ _ e => e
      obtain ⟨k₄, I1, fp1, wr1, P1, St1, rfl, W1, hst1, hfp1, hwr1, hlive1, hitem1⟩ := h₄
      obtain ⟨h₄, tk₄, rfl, k₄⟩ := k₄
      dsimp only at hst1 hfp1 hwr1 hitem1 k₄
      have wr1N : ∀ b ∈ wr1, b ≠ H2.objs.size ∧ b ≠ G.objs.size := by
        intro b hq
        have hn1 : h₂.get? b = none := hwr1 b hq
        constructor
        · rintro rfl; obtain ⟨o, es, ep, ho, _⟩ := hn₂; have ho' : h₂.get? H2.objs.size = some o := ho; rw [hn1] at ho'; cases ho'
        · rintro rfl; obtain ⟨ys, ⟨n, ho⟩, _⟩ := hacc₂; rw [hn1] at ho; cases ho
      have lp1 : codeAny (model prog w) A (.compLoop (.ListComp elt [⟨.Name y py, iter, [], 0⟩, ⟨.Name x px, i1, [], 0⟩] scope pos) 1 (.ref I1) (.ref G.objs.size) (cEnv scope cl H2.objs.size env))
          (fun r s₅ => match r with | .ok _ => ∃ q, q < xs.length + 1 - i ∧ ∃ h tk i m', s₅ = { s with heap := h, toks := tk } ∧ St i h ∧ h.Ns H2.objs.size m' ∧ AccOk G.objs.size h ((xs.take i).flatMap fun wl => (upto (wl.length + 1)).map (f wl)) ∧ i ≤ xs.length ∧ q = xs.length + 1 - i ∧ (∀ b o, b ∉ wr → G.get? b = some o → h.get? b = some o) | .error _ => False)
          { s with heap := h₄, toks := tk₄ } := by
        have htk : xs.take (i + 1) = xs.take i ++ [wl] := by rw [List.take_add_one, hwl]; rfl
        have hfm : ((xs.take (i + 1)).flatMap fun wl => (upto (wl.length + 1)).map (f wl)) = ((xs.take i).flatMap fun wl => (upto (wl.length + 1)).map (f wl)) ++ (upto (wl.length + 1)).map (f wl) := by rw [htk, List.flatMap_append]; simp
        refine inner (B := H) W1 hkind (lookup_relabel_local hx) (lookup_relabel_local hy) hxy hst1 (hn₂.keeps k₄) (by simp) (mono_LI wl _ _ _ (Sub.q k₄) hw₂) hvD (acc_subq (Sub.q k₄) hacc₂) (fun b hb => wr1N b (hfp1 b hb)) hlive1
          (fun i v hi hP => hitem1 i v hi hP) (Sub.trans (subH _ kk₂) k₄) (sub_none hs (sub_none kG hGC)) (sub_none hs (sub_none kG fresh_size)) (fun b hb => sub_none (subH _ kk₂) (hwr1 b hb)) ?_ (fun pv t s₂ hm hB hsy hwy hsx => helt _ wl v pv t s₂ hmem hm hB hsy hwy hsx) (fun h' tk' m'' hn5 hacc5 hk5 => ?_)
        · have := hsz (i + 1) hlt
          rw [hfm, List.length_append, List.length_map] at this
          exact this
        · have n1 : ∀ b o, h₂.get? b = some o → b ∉ wr1 := fun b o e hb => by rw [hwr1 b hb] at e; cases e
          refine ⟨xs.length + 1 - (i + 1), by omega, h', tk', i + 1, m'', rfl, ?_, hn5, by rw [hfm]; exact hacc5, hlt, rfl, fun b o hb e => ?_⟩
          · exact W.frame _ _ _ hst₂ fun b hb o e => hk5 b o (fpC b hb).1 (fpC b hb).2 (n1 b o e) (k₄ b o e)
          · have e2 := kk₂ b o hb e
            exact hk5 b o (fun q => by rw [show b = H2.objs.size from q, hGC] at e; cases e) (fun q => by rw [q, fresh_size] at e; cases e) (n1 b o e2) (k₄ b o e2)
      exact code_start1 lp1 (W1.self 0 _ _ _ hst1 lp1)
    · have hin : i = xs.length := by omega
      subst hin
      refine W.done _ _ _ hst' fun h₁ tk₁ hk₁ => ?_
      rw [List.take_length] at hacc'
      exact hfin _ _ h₁ tk₁ (sub_none kG fresh_size) (sub_none kG hGC) hDC ⟨m', hn'.at' fun o e => hk₁ _ o hCw e⟩ (acc_subq (q1 h₁ hk₁) hacc') fun b o e => hk₁ b o (fun hb => by rw [(hwr b hb).1] at e; cases e) (hkeep b o (fun hb => by rw [(hwr b hb).1] at e; cases e) (kG b o e))
  exact codeAny_compStart_list (loop _ rfl) (W.self 0 _ _ _ (W.frame _ _ _ hst fun b _ o e => sub3 b o e) (loop _ rfl))
end
end MineQ
end

section
set_option Elab.async false
set_option maxRecDepth 100000
set_option linter.unusedVariables false
namespace MineQ
open PySem PySem.W PySem.Calls PyProof.Rows
section
variable {prog : Program} {w : World} {A : Around} {env : Env} {H : Heap} {s : Shared}

def pickL {α : Type} (xs : List α) (lo hi st : Option Int) : List α := (sliceRange (sliceBounds lo hi st xs.length).1 (sliceBounds lo hi st xs.length).2.1 (sliceBounds lo hi st xs.length).2.2).filterMap (xs[·]?)
theorem pick_paired {α : Type} {F : Value → α → Prop} {vs : Array Value} {xs : List α} (hp : Paired F vs.toList xs) (lo hi st : Option Int) : Paired F (slicePick vs lo hi st).toList (pickL xs lo hi st) := by
  unfold slicePick pickL
  rw [plist_size hp]
  have := Paired.pick hp (sliceRange (sliceBounds lo hi st xs.length).1 (sliceBounds lo hi st xs.length).2.1 (sliceBounds lo hi st xs.length).2.2)
  simpa using this
def IsOpt (e : Option Expr) (env : Env) (H : Heap) (prog : Program) (w : World) (A : Around) (k : Option Int) : Prop := match e, k with
  | none, none => True
  | some e, some k => Ev prog w A env H e (isI k)
  | _, _ => False
theorem opt_none : IsOpt none env H prog w A none := trivial
theorem opt_some {e : Expr} {k : Int} (h : Ev prog w A env H e (isI k)) : IsOpt (some e) env H prog w A (some k) := h
theorem part_use {e : Option Expr} {k : Option Int} (h : IsOpt e env H prog w A k) (hs : Sub H s.heap) : Gv prog w A (evalPart e env) (fun v _ => IsPart v k) s := by
  cases e with
  | none => cases k with
    | none => exact fun E => by rw [evalPart_none]; exact wpAny_pure ⟨.none, krefl⟩
    | some k => exact h.elim
  | some e => cases k with
    | none => exact h.elim
    | some k => exact (Ev.imp h fun v h' _ hv => hv : Ev prog w A env H e (isI k)) s hs |>.mono fun v h hv => by obtain ⟨t, rfl⟩ := hv; exact .int k t
theorem evf_slice {value : Expr} {lower upper step : Option Expr} {p pos : Pos} {α : Type} {R : α → VP} {xs : List α} {lo hi st : Option Int} (hR : ∀ x, Mono (R x)) (hv : Ev prog w A env H value (isL R xs)) (hlo : IsOpt lower env H prog w A lo) (hhi : IsOpt upper env H prog w A hi) (hst : IsOpt step env H prog w A st)
    (h0 : st ≠ some 0) (hsz : xs.length ≤ 10000) (hop : ∃ ops : Value → Value → List Value, ∀ o i, subscripted (.Slice lower upper step p) false o i = operate (ops o i) (getItem o i)) : EvF prog w A env H (.Subscript value (.Slice lower upper step p) pos) (isL R (pickL xs lo hi st)) := fun s hs E => by
  obtain ⟨ops, hop⟩ := hop
  refine Subscript_ ((hv s hs).use fun o s₁ ho k₁ => wpAny_Slice ((part_use hlo (Sub.trans hs (ksub k₁))).use fun l s₂ hl k₂ => (part_use hhi (Sub.trans hs (ksub (ktr k₁ k₂)))).use fun u s₃ hu k₃ => (part_use hst (Sub.trans hs (ksub (ktr (ktr k₁ k₂) k₃)))).use fun t s₄ ht k₄ => ?_))
  have kk := ktr (ktr k₂ k₃) k₄
  obtain ⟨a, vs, rfl, hL, hp⟩ := mono_L hR xs _ _ _ (ksub kk).q ho
  have k5 : Keeps s₄ { s₄ with heap := s₄.heap.push { cls := .type "slice", data := .fields #[l, u, t] } } := kpush (tk := s₄.toks) _
  refine tail_any ((hL.isList).push _).typeIs slot_list_getitem.lookup (wpAny_getItem_list_slice ((hL.isList).push _) (Heap.IsSliceOf.new ..) hl hu ht h0 ⟨⟨⟨_, _, rfl, ⟨_, Heap.get?_push_size _ rfl⟩, ?_⟩, ?_⟩, ktr k₁ (ktr kk (ktr k5 (kpush (tk := s₄.toks) _)))⟩ (by rw [plist_size hp]; exact Nat.le_trans hsz (by decide))) (hop _ _)
  · refine (pick_paired hp lo hi st).mono fun v x r => hR x _ _ _ (Sub.q ?_) r
    exact fun b o e => Heap.get?_push_of_some _ (Heap.get?_push_of_some _ e)
  · rintro b e
    cases e
    exact sub_none (ksub (ktr k₁ (ktr kk k5))) fresh_size
theorem evf_addL {l r : Expr} {pos : Pos} {α : Type} {R : α → VP} {xs ys : List α} (hR : ∀ x, Mono (R x)) (hl : Ev prog w A env H l (isL R xs)) (hr : Ev prog w A env H r (isL R ys)) (hsz : xs.length + ys.length ≤ 10000) : EvF prog w A env H (.BinOp l .Add r pos) (isL R (xs ++ ys)) := fun s hs E => by
  refine wpAny_BinOp ((hl s hs).use fun a s₁ ha k₁ => (hr s₁ (Sub.trans hs (ksub k₁))).use fun b s₂ hb k₂ => ?_)
  obtain ⟨la, va, rfl, ⟨na, hla⟩, hpa⟩ := mono_L hR xs _ _ _ (ksub k₂).q ha
  obtain ⟨lb, vb, rfl, ⟨nb, hlb⟩, hpb⟩ := hb
  refine P.add_list hla hlb ⟨⟨⟨_, _, rfl, ⟨_, Heap.get?_push_size _ rfl⟩, ?_⟩, ?_⟩, ktr (ktr k₁ k₂) (kpush (tk := s₂.toks) _)⟩ (by rw [plist_size hpa, plist_size hpb]; exact Nat.le_trans hsz (by decide))
  · have := Paired.app hpa hpb
    rw [Array.toList_append]
    exact this.mono fun v x r => hR x _ _ _ (Sub.q fun b o e => Heap.get?_push_of_some _ e) r
  · rintro c e; cases e; exact sub_none (ksub (ktr k₁ k₂)) fresh_size
theorem pickL_upto {α : Type} (xs : List α) (b : Nat) : pickL xs none (some b) none = xs.take b := by
  unfold pickL
  rw [sliceBounds_plain]
  simp only [Option.elim]
  have h1 : ((0 : Nat) : Int) = 0 := rfl
  rw [clipAt_nat, show (((0 : Nat) : Int)) = ((0 : Nat) : Int) from rfl]
  rw [sliceRange_one]
  have := pick_run xs.toArray 0 (min b xs.length - 0)
  simp at this ⊢
  rw [this]
  rw [List.take_eq_take_iff]; omega
theorem pickL_from {α : Type} (xs : List α) (a : Nat) : pickL xs (some a) none none = xs.drop a := by
  unfold pickL
  rw [sliceBounds_plain]
  simp only [Option.elim]
  rw [clipAt_nat, sliceRange_one]
  have := pick_run xs.toArray (min a xs.length) (xs.length - min a xs.length)
  simp at this ⊢
  rw [this]
  rw [List.take_of_length_le (by simp)]
  by_cases h : a ≤ xs.length
  · rw [Nat.min_eq_left h]
  · rw [Nat.min_eq_right (by omega), List.drop_of_length_le (by omega), List.drop_of_length_le (by omega)]
end
end MineQ
end

section
set_option Elab.async false
set_option maxRecDepth 100000
set_option linter.unusedVariables false
namespace MineQ
open PySem PySem.W PySem.Calls PyProof.Rows
section
variable {prog : Program} {w : World} {A : Around} {env : Env} {s₀ s : Shared} {m cm : Str → Option Value}
theorem x_assignComp2 {xs : List (List Int)} {f : List Int → Int → List Int} {elt iter i1 : Expr} {x y z : Str} {px py pz : Pos} {scope : Scope} {cl : List (Str × Addr)} {pos spos : Pos} {rest : List Stmt} {Qf : Flow → Shared → Prop} {E : Value → Shared → Prop}
    (F : Fn s₀ env m cm s) (hk : env.kindOf z = some .local) (hsw : swapsWith (.ListComp elt [⟨.Name y py, iter, [], 0⟩, ⟨.Name x px, i1, [], 0⟩] scope pos) (some (.Name z pz)) spos.line env = pure true)
    (hclos : closureFor scope env = pure cl) (hkind : scope.kind = .function) (hnames : ∀ y ∈ scope.names, y.2 = .local → scope.names.lookup y.1 = some .local)
    (hx : scope.names.lookup x = some .local) (hy : scope.names.lookup y = some .local) (hxy : y ≠ x) (hcs : ∀ n, cellsFrom n scope.names cl = cl) (hpc : ∀ h, pushCells h scope.names = h)
    (hsrc : Src prog w A env s.heap iter xs isLI) (hsz : ∀ i, i ≤ xs.length → ((xs.take i).flatMap fun wl => (upto (wl.length + 1)).map (f wl)).length ≤ 10000)
    (hsrc1 : ∀ L wl v (s₂ : Shared), wl ∈ xs → Sub s.heap s₂.heap → isLI wl v s₂.heap → Sees (cEnv scope cl L env) s₂.heap y v → SrcW prog w A (cEnv scope cl L env) s₂.heap i1 (upto (wl.length + 1)))
    (helt : ∀ L wl v pv t s₂, wl ∈ xs → pv ∈ upto (wl.length + 1) → Sub s.heap s₂.heap → Sees (cEnv scope cl L env) s₂.heap y v → isLI wl v s₂.heap → Sees (cEnv scope cl L env) s₂.heap x (.int pv t) →
      Gv prog w A (eval elt (cEnv scope cl L env)) (fun z h => isL isI (f wl pv) z h ∧ ∀ a, z = .ref a → s₂.heap.get? a = none) s₂)
    (k : ∀ v s', Fn s₀ env (upd m z v) cm s' → SubQ s.heap s'.heap → Stay env s.heap s'.heap → isL isLI (xs.flatMap fun wl => (upto (wl.length + 1)).map (f wl)) v s'.heap → Wx prog w A (execs rest env) Qf E s')
    (hset : ∀ x, foldedSetIterable iter env x = pure x := by intro _; rfl) (hset1 : ∀ L x, foldedSetIterable i1 (cEnv scope cl L env) x = pure x := by intro _ _; rfl) :
    Wx prog w A (execs (.Assign [.Name z pz] (.ListComp elt [⟨.Name y py, iter, [], 0⟩, ⟨.Name x px, i1, [], 0⟩] scope pos) spos :: rest) env) Qf E s := by
  refine wx_of (wpAny_execs_cons ?_)
  rw [exec_Assign_Name_used _ _ _ _ hsw]
  refine wpAny_bind (wpAny_standAt (wpAny_bind ?_))
  show wpAny _ A (do let _ ← comprehension (.ListComp elt [⟨.Name y py, iter, [], 0⟩, ⟨.Name x px, i1, [], 0⟩] scope pos) scope env _ (newList []) false (eval iter env) (some (assign (.Name z pz) env))) _ _ s
  refine wpAny_bind (wpAny_mono (comp2_raw (Qf := fun _ s' => wpAny (model prog w) A (execs rest env) Qf E s') hclos hkind hnames hx hy hxy hcs hpc hsrc hsz hsrc1 helt (fun _ _ e => e) (fun D C h' tk hD hC hDC hn hl hkk => ?_) hset hset1) (fun _ s' hq => wpAny_pure (wpAny_pure hq)) fun _ _ e => e)
  have F' := F.keeps (s' := { s with heap := h', toks := tk }) (kmk hkk)
  have hLC : env.locals ≠ C := by intro e; obtain ⟨o, _, _, ho, _⟩ := F.ns; rw [e, hC] at ho; cases ho
  obtain ⟨mC, hnC⟩ := hn
  refine wpAny_assign_Name (wpAny_storeName_local hk F'.ns (fun h₂ hn₂ hs₂ => ?_) (by rw [F.kind]; rfl))
  refine ⟨mC, hnC.sameBut hs₂ (Ne.symm hLC), fun h₃ hs₃ => ?_⟩
  have q2 : SubQ h' h₂ := subq_ns F'.ns hs₂
  have q3 : SubQ h₂ h₃ := subq_ns (hnC.sameBut hs₂ (Ne.symm hLC)) hs₃
  refine wx_out (k (.ref D) _ ⟨F.kind, ?_, hn₂.sameBut hs₃ hLC, fun n c e => ?_, F.apart, fun b o e => ?_, F.newL, F.newC⟩ ?_ ?_ (acc_isL (acc_subq (q2.trans q3) hl)))
  · obtain ⟨h₁, tk₁, rfl⟩ := F.same; exact ⟨h₃, _, rfl⟩
  · refine ((F'.cell n c e).sameBut hs₂ ?_).sameBut hs₃ ?_
    · rintro rfl
      obtain ⟨o, es, ep, ho, hd, _⟩ := F.ns
      obtain ⟨o', ho', hd'⟩ := F.cell n _ e
      rw [ho] at ho'; cases ho'; rw [hd] at hd'; cases hd'
    · rintro rfl
      obtain ⟨o', ho', hd'⟩ := F.cell n _ e
      rw [hC] at ho'; cases ho'
  · have e1 := F.keep b o e
    refine hs₃.extBut b o (fun h => by rw [h, hC] at e1; cases e1) (hs₂.extBut b o (fun h => by rw [h, F.newL] at e; cases e) (hkk b o e1))
  · exact (Sub.q hkk).trans (q2.trans q3)
  · intro b o e n1 n2
    exact hs₃.extBut b o (fun h => by rw [h, hC] at e; cases e) (hs₂.extBut b o n1 (hkk b o e))
end

def insAt (k : Int) (wl : List Int) (p : Int) : List Int := wl.take p.toNat ++ [k] ++ wl.drop p.toNat
def waysN : Nat → List (List Int)
  | 0 => [[]]
  | n + 1 => (waysN n).flatMap fun wl => (upto (wl.length + 1)).map (insAt n wl)
theorem waysN_len : ∀ n, n ≤ 4 → (∀ wl ∈ waysN n, wl.length = n) ∧ ∀ i, i ≤ (waysN n).length → (((waysN n).take i).flatMap fun wl => (upto (wl.length + 1)).map (insAt n wl)).length ≤ 10000 := by
  decide +kernel
end MineQ
end

section
set_option Elab.async false
set_option maxRecDepth 100000
set_option linter.unusedVariables false
namespace MineQ
open PySem PySem.W PySem.Calls PyProof.Rows
theorem own_LLI (xs : List (List Int)) : True := trivial
section
variable {prog : Program} {w : World} {A : Around} {env : Env} {H : Heap} {s : Shared}
theorem es_nil1 {pos : Pos} : Es prog w A env H pos [.List [] pos] (fun vs h => Paired (fun u x => isLI x u h) vs [[]]) :=
  es_cons (mono_LI []) (evf_list (R := isI) (xs := []) (fun x => mono_I x) (es_nil fun _ _ => Paired.nil) (by decide)).ev (es_nil (P := fun vs h => Paired (fun u x => isLI x u h) vs []) fun _ _ => Paired.nil) fun v vs h _ a b => Paired.cons a b

set_option maxHeartbeats 4000000 in
theorem c_ways {n : Nat} {v : Value} (hn : n ≤ 4) (hh : A.handled = none) (hA : A.depth + 5 < recursionLimit) (B : Bs w s.heap) (hv : isI n v s.heap) : Gv prog w A (call (.ref 87) [v]) (isL isLI (waysN n)) s := by
  obtain ⟨tv, rfl⟩ := hv
  refine gv_fn (fd := fdAt w 87) (by omega) (B.X _ _ (look87 w)) (data87 w) B.lim (codeRec_of B.X (code87 w)) (body87 w) (bind87 w _) rfl (by intro x hx; simp at hx; subst hx; exact Or.inl rfl) (fun s₁ F => ?_)
  generalize hL : s.heap.objs.size = L at F ⊢
  generalize hA2 : A.deeper (callEnvC (fdAt w 87) L 87) = A2
  have hh2 : A2.handled = none := by rw [← hA2]; exact hh
  refine x_assign F (P := isL isLI (waysN 0)) (evf_list mono_LI (es_cons (mono_LI []) (evf_list (R := isI) (xs := []) (fun x => mono_I x) (es_nil fun _ _ => Paired.nil) (by decide)).ev (es_nil (P := fun vs h => Paired (fun u x => isLI x u h) vs []) fun _ _ => Paired.nil) fun v vs h _ a b => Paired.cons a b) (by decide)).ev (mono_L mono_LI _) (fun vg s₂ F₂ q₂ z₂ hg₂ => ?_)
  have B₂ : Bs w s₂.heap := B.up F₂.keep
  refine x_for (st := fun m cm v => (m, upd cm (Str.ofString "k") v)) (fun m cm s v Q E F h => F.storeC (c := L + 1) rfl rfl h) F₂ (src_range (n := n) hh2 (ev_name rfl (sees_range B₂ rfl rfl rfl) fun _ _ => rfl) (ev_name rfl (F₂.loc rfl) fun _ _ => ⟨tv, rfl⟩) rfl (by omega)) (fun x => mono_I x)
    (J := fun i m cm h => ∃ vg, m (Str.ofString "ways") = some vg ∧ isL isLI (waysN i) vg h)
    (by rintro i m cm h h' q ⟨vg, a, b⟩; exact ⟨vg, a, mono_L mono_LI _ _ _ _ q b⟩) ⟨vg, rfl, hg₂⟩ (fun i xv v m₁ cm₁ s₄ hxv hj hv F₄ q₄ => ?_) (fun m' cm' s' F' hj q' z' => ?_)
  · dsimp only at F₄
    obtain ⟨h, hq, vg, j1, j2⟩ := hj
    have hi : i < n := by
      have := (List.getElem?_eq_some_iff.mp hxv).1
      rw [upto_len] at this; exact this
    rw [upto_get hi] at hxv
    cases hxv
    obtain ⟨tk, rfl⟩ := hv
    have hg := mono_L mono_LI _ _ _ _ hq j2
    have B₄ : Bs w s₄.heap := B.up F₄.keep
    obtain ⟨l1, l2⟩ := waysN_len i (by omega)
    refine x_assignComp2 F₄ rfl rfl (cl := [(Str.ofString "k", L + 1)]) rfl rfl (by decide) rfl rfl (by decide) (fun _ => rfl) (fun _ => rfl) (xs := waysN i) (f := insAt i)
      (src_list hh2 mono_LI (ev_name rfl (F₄.loc j1) fun h hs => mono_L mono_LI _ _ _ _ hs.q hg)) l2 (fun Lc wl v s₅ hm hs₅ hv hsee => ?_) (fun Lc wl v pv t s₅ hm hpv hs₅ hsee hv hsx => ?_) (fun vr s₅ F₅ q₅ z₅ hr₅ => x_nil ⟨rfl, _, _, F₅, z₅, ?_⟩)
    · have B₅ := B₄.up hs₅
      have hlen := l1 wl hm
      exact srcw_range hh2 (ev_name rfl (sees_range B₅ rfl rfl rfl) fun _ _ => rfl) (ev_add (ev_call1 (ev_name rfl (sees_len B₅ rfl rfl rfl) fun _ _ => rfl) (.built _) (mono_LI wl) (ev_name rfl hsee fun h hs => mono_LI wl _ _ _ hs.q hv) (fun v s hs hv => g_len hv (by omega))) ev_int) (by push_cast; rfl) (by omega)
    · obtain ⟨p0, p1⟩ := mem_upto hpv
      have hlen := l1 wl hm
      have epv : ∀ ce p, ce.scope.kind = .function → Sees ce s₅.heap (Str.ofString "p") (.int pv t) → Ev prog w A2 ce s₅.heap (.Name (Str.ofString "p") p) (isI pv) := fun ce p e1 e2 => ev_name e1 e2 fun _ _ => ⟨t, rfl⟩
      have e1 : pickL wl none (some pv) none = wl.take pv.toNat := by rw [← pickL_upto]; congr 2; omega
      have e2 : pickL wl (some pv) none none = wl.drop pv.toNat := by rw [← pickL_from]; congr 2; omega
      refine EvF.imp (evf_addL (fun x => mono_I x) (evf_addL (fun x => mono_I x) (evf_slice (lo := none) (hi := some pv) (st := none) (fun x => mono_I x) (ev_name rfl hsee fun h hs => mono_LI wl _ _ _ hs.q hv) opt_none (opt_some (epv _ _ rfl hsx)) opt_none (by decide) (by omega) ⟨_, fun _ _ => rfl⟩).ev
          (evf_list (R := isI) (xs := [(i : Int)]) (fun x => mono_I x) (es_cons (mono_I _) (ev_name rfl (.cell (L + 1) rfl rfl ((cellAt F₄ (x := Str.ofString "k") rfl rfl).keeps hs₅)) fun _ _ => ⟨tk, rfl⟩) (es_nil (P := fun vs h => Paired (fun u x => isI x u h) vs []) fun _ _ => Paired.nil) fun v vs h _ a b => Paired.cons a b) (by simp)).ev ?_).ev
        (evf_slice (lo := some pv) (hi := none) (st := none) (fun x => mono_I x) (ev_name rfl hsee fun h hs => mono_LI wl _ _ _ hs.q hv) (opt_some (epv _ _ rfl hsx)) opt_none opt_none (by decide) (by omega) ⟨_, fun _ _ => rfl⟩).ev ?_) (fun v h hv => ?_) s₅ (fun _ _ e => e)
      · rw [e1]; simp; omega
      · rw [e1, e2]; simp; omega
      · rw [e1, e2] at hv; exact hv
    · exact ⟨vr, rfl, hr₅⟩
  · obtain ⟨vg, j1, j2⟩ := hj
    rw [upto_len] at j2
    exact x_return (P := isL isLI (waysN n)) (ev_name rfl (F'.loc j1) fun h hs => mono_L mono_LI _ _ _ _ hs.q j2) fun v s' hv k => ⟨v, rfl, hv, ktr F'.done k⟩
end
end MineQ
end

section
set_option Elab.async false
set_option maxRecDepth 100000
set_option linter.unusedVariables false
namespace MineQ
open PySem PySem.W PySem.Calls PyProof.Rows
section
variable {prog : Program} {w : World} {A : Around} {env : Env} {s₀ s : Shared} {m cm : Str → Option Value}
theorem Fn.mutate {p : Addr} {o : Obj} {ys : Array Value} {n : Nat} {h' : Heap} {tk : Nat} (F : Fn s₀ env m cm s) (hp : s.heap.get? p = some o) (hd : o.data = .seq ys n) (hn : s₀.heap.get? p = none) (hs : Heap.SameBut p s.heap h') : Fn s₀ env m cm { s with heap := h', toks := tk } := by
  refine ⟨F.kind, ?_, F.ns.sameBut hs ?_, fun n c e => (F.cell n c e).sameBut hs ?_, F.apart, fun b o e => hs.extBut b o (fun q => by rw [q, hn] at e; cases e) (F.keep b o e), F.newL, F.newC⟩
  · obtain ⟨h₁, tk₁, rfl⟩ := F.same; exact ⟨h', tk, rfl⟩
  · intro e
    obtain ⟨o', es, ep, ho, hd', _⟩ := F.ns
    rw [e, hp] at ho; cases ho; rw [hd] at hd'; cases hd'
  · rintro rfl
    obtain ⟨o', ho, hd'⟩ := F.cell n _ e
    rw [hp] at ho; cases ho; rw [hd] at hd'; cases hd'

/-- x.append(e), as a statement -/
theorem x_append {x : Str} {px ap cp pos : Pos} {p : Addr} {items : Array Value} {e : Expr} {rest : List Stmt} {P : VP} {Q : Flow → Shared → Prop} {E : Value → Shared → Prop} (F : Fn s₀ env m cm s) (hx : Sees env s.heap x (.ref p)) (hl : s.heap.PlainList p items) (hsz : items.size ≤ 10000) (hn : s₀.heap.get? p = none)
    (he : Ev prog w A env s.heap e P)
    (k : ∀ v h₁ s', Sub s.heap h₁ → P v h₁ → Heap.SameBut p h₁ s'.heap → Fn s₀ env m cm s' → s'.heap.PlainList p (items.push v) → Wx prog w A (execs rest env) Q E s')
    (hi : interactive env = false := by rfl) (hsw : swapsWith (.Call (.Attribute (.Name x px) (Str.ofString "append") ap) [e] [] cp) none pos.line env = pure false := by rfl) (hd : (x == ("__debug__" : Str)) = false := by decide)
    (hbase : attributeBase (.Name x px) (Str.ofString "append") env (eval (.Name x px) env) = eval (.Name x px) env := by rfl) (hline : (ap.endLine == cp.line) = true := by rfl) (hst : starEach [e] env = (false, eval e env) :: starEach [] env := by rfl) :
    Wx prog w A (execs (.Expr (.Call (.Attribute (.Name x px) (Str.ofString "append") ap) [e] [] cp) pos :: rest) env) Q E s := by
  refine wx_of (wpAny_execs_cons (wpAny_Expr ?_ hi hsw))
  refine wpAny_Call_method hbase (by rw [hst]; rfl) hline PySem.F.plainAttrs_list PySem.F.slot_list_append PySem.F.type_list_append (wpAny_Name (hx.load F.kind ?_) hd)
  obtain ⟨n, hl'⟩ := id hl
  refine ⟨⟨_, hl', rfl⟩, (by rintro a e; cases e; exact ⟨_, hl', rfl⟩), callWith_method1 ?_ hst rfl⟩
  rw [hst]
  refine spliced_cons ((he s (fun _ _ e => e)).use fun v s₂ hv k₂ => spliced_nil ?_)
  have hl₂ : s₂.heap.PlainList p items := hl.at fun o e => ksub k₂ _ o e
  refine wpAny_list_append_plain (hsz := Nat.le_trans hsz (by decide)) hl₂ fun h' hl₃ hs₃ => wx_out (k v s₂.heap _ (ksub k₂) hv hs₃ ?_ hl₃)
  obtain ⟨n₂, hl₂'⟩ := hl₂
  exact (F.keeps k₂).mutate hl₂' rfl hn hs₃
end
end MineQ
end

section
set_option Elab.async false
set_option maxRecDepth 100000
set_option linter.unusedVariables false
namespace MineQ
open PySem PySem.W PySem.Calls PyProof.Rows
section
variable {prog : Program} {w : World} {A : Around} {env : Env} {s₀ s : Shared} {m cm : Str → Option Value}
theorem Fn.keepBut {I : Addr} {h' : Heap} {tk : Nat} (F : Fn s₀ env m cm s) (up : ∀ b o, b ≠ I → s.heap.get? b = some o → h'.get? b = some o) (hL : I ≠ env.locals) (hC : ∀ n, env.cells.lookup n ≠ some I) (h0 : s₀.heap.get? I = none) : Fn s₀ env m cm { s with heap := h', toks := tk } := by
  refine ⟨F.kind, ?_, F.ns.at' (fun o e => up _ o (Ne.symm hL) e), fun n c e => cell_at (F.cell n c e) (fun o e' => up _ o (fun q => hC n (q ▸ e)) e'), F.apart, fun b o e => up b o (fun q => by rw [q, h0] at e; cases e) (F.keep b o e), F.newL, F.newC⟩
  obtain ⟨h₁, tk₁, rfl⟩ := F.same; exact ⟨h', tk, rfl⟩
/-- storing a name, wherever it lies -/
def StoresBy (prog : Program) (w : World) (A : Around) (s₀ : Shared) (env : Env) (x : Str) (st : (Str → Option Value) → (Str → Option Value) → Value → (Str → Option Value) × (Str → Option Value)) : Prop :=
  ∀ (m cm : Str → Option Value) (s : Shared) (v : Value) (Q : Unit → Shared → Prop) (E : Value → Shared → Prop), Fn s₀ env m cm s → (∀ s', Fn s₀ env (st m cm v).1 (st m cm v).2 s' → SubQ s.heap s'.heap → Stay env s.heap s'.heap → Q () s') → wpAny (model prog w) A (storeName env x v) Q E s
theorem stores_loc {x : Str} (hk : env.kindOf x = some .local) : StoresBy prog w A s₀ env x (fun m cm v => (upd m x v, cm)) := fun m cm s v Q E F h => F.store hk h
theorem stores_cell {x : Str} {c : Addr} (hk : env.kindOf x = some .cell) (hc : env.cells.lookup x = some c) : StoresBy prog w A s₀ env x (fun m cm v => (m, upd cm x v)) := fun m cm s v Q E F h => F.storeC hk hc h
theorem assign2 {x1 x2 : Str} {p1 p2 pos : Pos} {k : Nat} {t : Addr} {v1 v2 : Value} {st1 st2 : (Str → Option Value) → (Str → Option Value) → Value → (Str → Option Value) × (Str → Option Value)} {Q : Unit → Shared → Prop} {E : Value → Shared → Prop} (hh : A.handled = none)
    (F : Fn s₀ env m cm s) (ht : Heap.PT s.heap t #[v1, v2]) (h1 : StoresBy prog w A s₀ env x1 st1) (h2 : StoresBy prog w A s₀ env x2 st2)
    (h : ∀ s', Fn s₀ env (st2 (st1 m cm v1).1 (st1 m cm v1).2 v2).1 (st2 (st1 m cm v1).1 (st1 m cm v1).2 v2).2 s' → SubQ s.heap s'.heap → Stay env s.heap s'.heap → Q () s') :
    wpAny (model prog w) A (assign (.Tuple [.Name x1 p1, .Name x2 p2] k pos) env (.ref t)) Q E s := by
  obtain ⟨n, ht⟩ := ht
  refine wpAny_assign_Tuple hh (items := #[v1, v2]) ⟨_, ht, rfl, n, rfl⟩ rfl rfl fun h' hx => ?_
  have k' : Sub s.heap h' := fun b o e => hx b o (Nat.ne_of_lt (Heap.lt_size e)) e
  have F' := F.keeps (s' := { s with heap := h' }) (kmk (tk := s.toks) k')
  show wpAny _ A (do holding [v2] (assign (.Name x1 p1) env v1); do holding [] (assign (.Name x2 p2) env v2); pure ()) _ _ _
  refine wpAny_bind (wpAny_holding (wpAny_assign_Name (h1 _ _ _ _ _ _ F' fun s₂ F₂ q₂ z₂ => ?_)))
  refine wpAny_bind (wpAny_holding (wpAny_assign_Name (h2 _ _ _ _ _ _ F₂ fun s₃ F₃ q₃ z₃ => wpAny_pure (h s₃ F₃ ((Sub.q k').trans (q₂.trans q₃)) ((Sub.stay k').trans (z₂.trans z₃))))))
theorem x_break {pos : Pos} {rest : List Stmt} {Q : Flow → Shared → Prop} {E : Value → Shared → Prop} (h : Q .brk s) : Wx prog w A (execs (.Break pos :: rest) env) Q E s := wx_of (wpAny_execs_cons (wpAny_Break h))
theorem letgo_tuple {elts : List Expr} {x1 : Nat} {pos : Pos} {I l T : Addr} {i : Nat} {Q : Unit → Shared → Prop} {E : Value → Shared → Prop} (hit : s.heap.IsTupleIter I l i) (hQ : Q () s) :
    wpAny (model prog w) A (letOwnedTupleGo (.Tuple elts x1 pos) (.ref I) (.ref T)) Q E s := by
  obtain ⟨o, ho, hc, hd⟩ := hit
  unfold letOwnedTupleGo
  refine wpAny_bind (wpAny_load ho ?_)
  rw [hc, hd]
  show wpAny _ A (if (["enumerate", "zip", "dict_itemiterator", "dict_reverseitemiterator", "odict_iterator", "itertools.zip_longest", "itertools.pairwise"].contains "tuple_iterator" && _) = true then _ else _) Q E s
  rw [if_neg (by
    intro h
    rw [show (["enumerate", "zip", "dict_itemiterator", "dict_reverseitemiterator", "odict_iterator", "itertools.zip_longest", "itertools.pairwise"].contains "tuple_iterator") = false from by decide, Bool.false_and] at h
    cases h)]
  exact wpAny_pure hQ
end

def nth (l : List Stmt) (k : Nat) : Stmt := l.getD k (.Pass ⟨0, 0, 0, 0⟩)
def sBody : Stmt → List Stmt
  | .For _ _ b _ _ => b
  | _ => []
noncomputable def fmInner (w : World) : Stmt := nth (sBody (nth (bodyAt w 68) 1)) 0

def hitB (i : Nat) (n b : Int) : Bool := if i = 0 then ifmt n == b else Builtin.bitAnd n b == b
def pickC (i : Nat) (n : Int) : List (Int × Str) → Str
  | [] => if i = 0 then Str.ofString "?" else Str.ofString "-"
  | q :: r => if hitB i n q.1 then q.2 else pickC i n r

structure FmEnv (ev : Env) : Prop where
  mode : ev.kindOf (Str.ofString "mode") = some .local
  perm : ev.kindOf (Str.ofString "perm") = some .local
  index : ev.kindOf (Str.ofString "index") = some .local
  table : ev.kindOf (Str.ofString "table") = some .local
  bit : ev.kindOf (Str.ofString "bit") = some .local
  char : ev.kindOf (Str.ofString "char") = some .local
  ifmt : ev.kindOf (Str.ofString "S_IFMT") = some .globalImplicit
  enum : ev.kindOf (Str.ofString "enumerate") = some .globalImplicit
  tab : ev.kindOf (Str.ofString "_filemode_table") = some .globalImplicit
  g : ev.globals = mainGlobals
  b : ev.builtins = builtinsNs
  ia : interactive ev = false

/-- filemode's frame -/
structure FS (s₀ : Shared) (ev : Env) (p : Addr) (n : Int) (cs : List Str) (m cm : Str → Option Value) (s : Shared) : Prop where
  F : Fn s₀ ev m cm s
  md : ∃ t, m (Str.ofString "mode") = some (.int n t)
  pm : m (Str.ofString "perm") = some (.ref p)
  ls : ∃ items, s.heap.PlainList p items ∧ Paired (fun u x => isS x u s.heap) items.toList cs

/-- all stays but the frame's names and the list at p -/
def StayP (env : Env) (p : Addr) (h h' : Heap) : Prop := ∀ b o, h.get? b = some o → b ≠ env.locals → (∀ n, env.cells.lookup n ≠ some b) → b ≠ p → h'.get? b = some o
theorem Stay.p {env : Env} {p : Addr} {h h' : Heap} (x : Stay env h h') : StayP env p h h' := fun b o e n1 n2 _ => x b o e n1 n2
theorem StayP.trans {env : Env} {p : Addr} {a b c : Heap} (x : StayP env p a b) (y : StayP env p b c) : StayP env p a c := fun q o e n1 n2 n3 => y q o (x q o e n1 n2 n3) n1 n2 n3
end MineQ
end

section
set_option Elab.async false
set_option maxRecDepth 100000
set_option linter.unusedVariables false
namespace MineQ
open PySem PySem.W PySem.Calls PyProof.Rows
def sElse : Stmt → List Stmt
  | .For _ _ _ o _ => o
  | _ => []
section
variable {prog : Program} {w : World} {A : Around} {ev : Env} {s₀ s : Shared} {m cm : Str → Option Value} {p : Addr} {n : Int} {cs : List Str}

theorem fm_app {x : Str} {px ap cp pos : Pos} {e : Expr} {c : Str} {rest : List Stmt} {Q : Flow → Shared → Prop} {E : Value → Shared → Prop} (V : FmEnv ev) (Z : FS s₀ ev p n cs m cm s) (hx : x = Str.ofString "perm") (hsz : cs.length ≤ 1000) (hn : s₀.heap.get? p = none) (he : Ev prog w A ev s.heap e (isS c))
    (k : ∀ s', FS s₀ ev p n (cs ++ [c]) m cm s' → StayP ev p s.heap s'.heap → Wx prog w A (execs rest ev) Q E s')
    (hsw : swapsWith (.Call (.Attribute (.Name x px) (Str.ofString "append") ap) [e] [] cp) none pos.line ev = pure false := by rfl)
    (hbase : attributeBase (.Name x px) (Str.ofString "append") ev (eval (.Name x px) ev) = eval (.Name x px) ev := by rfl) (hline : (ap.endLine == cp.line) = true := by rfl) (hst : starEach [e] ev = (false, eval e ev) :: starEach [] ev := by rfl) :
    Wx prog w A (execs (.Expr (.Call (.Attribute (.Name x px) (Str.ofString "append") ap) [e] [] cp) pos :: rest) ev) Q E s := by
  subst hx
  obtain ⟨items, hl, hp⟩ := Z.ls
  refine x_append Z.F (Z.F.loc Z.pm V.perm) hl (by rw [plist_size hp]; omega) hn he (fun v h₁ s' k₁ hv hs F' hl' => k s' ⟨F', Z.md, Z.pm, _, hl', ?_⟩ fun b o e n1 n2 n3 => hs.extBut b o n3 (k₁ b o e)) V.ia hsw (by decide) hbase hline hst
  rw [Array.toList_push]
  exact Paired.snoc hp hv

theorem fm_test {i : Nat} {b : Int} {c : Str} {ti tb tc : Tok} (V : FmEnv ev) (Z : FS s₀ ev p n cs m cm s) (hA : A.depth + 2 < recursionLimit) (B : Bs w s₀.heap) (hsz : cs.length ≤ 1000) (hn : s₀.heap.get? p = none)
    (hi : m (Str.ofString "index") = some (.int i ti)) (hb : m (Str.ofString "bit") = some (.int b tb)) (hc : m (Str.ofString "char") = some (.str c tc)) :
    Wx prog w A (execs (sBody (fmInner w)) ev) (fun f s' => if hitB i n b = true then f = .brk ∧ FS s₀ ev p n (cs ++ [c]) m cm s' ∧ StayP ev p s.heap s'.heap else f = .next ∧ FS s₀ ev p n cs m cm s' ∧ StayP ev p s.heap s'.heap) (fun _ _ => False) s := by
  obtain ⟨tm, hm⟩ := Z.md
  have keepZ : ∀ s', Keeps s s' → FS s₀ ev p n cs m cm s' := fun s' k => ⟨Z.F.keeps k, Z.md, Z.pm, let ⟨items, hl, hp⟩ := Z.ls; ⟨items, hl.at fun o e => ksub k _ o e, hp⟩⟩
  refine x_if (et_eq (a := i) (b := 0) (ev_name Z.F.kind (Z.F.loc hi V.index) fun _ _ => ⟨ti, rfl⟩) ev_int) fun s₁ k₁ => ?_
  have Z₁ := keepZ s₁ k₁
  have B₁ : Bs w s₁.heap := B.up Z₁.F.keep
  have st₁ : StayP ev p s.heap s₁.heap := (Sub.stay (ksub k₁)).p
  have keepZ1 : ∀ s', Keeps s₁ s' → FS s₀ ev p n cs m cm s' := fun s' k => keepZ s' (ktr k₁ k)
  by_cases h0 : i = 0
  · subst h0
    rw [if_pos (by decide)]
    have hit : hitB 0 n b = (ifmt n == b) := rfl
    refine x_if (et_eq (a := ifmt n) (b := b) (ev_call1 (ev_name Z₁.F.kind (B₁.glob (glob28 w) V.ifmt V.g) fun _ _ => rfl) (kp_fn B₁ (look28 w) (data28 w)) (mono_I n) (ev_name Z₁.F.kind (Z₁.F.loc hm V.mode) fun _ _ => ⟨tm, rfl⟩) (fun v s hs hv => c_ifmt (by omega) (B₁.up hs) hv))
      (ev_name Z₁.F.kind (Z₁.F.loc hb V.bit) fun _ _ => ⟨tb, rfl⟩)) fun s₂ k₂ => ?_
    have Z₂ := keepZ1 s₂ k₂
    have st₂ : StayP ev p s.heap s₂.heap := (Sub.stay (ksub (ktr k₁ k₂))).p
    cases hq : ifmt n == b with
    | true =>
      rw [if_pos rfl]
      refine fm_app V Z₂ rfl hsz hn (ev_name Z₂.F.kind (Z₂.F.loc hc V.char) fun _ _ => ⟨tc, rfl⟩) fun s₃ Z₃ st₃ => x_break ?_
      dsimp only
      rw [if_pos (hit.trans hq)]
      exact ⟨rfl, Z₃, st₂.trans st₃⟩
    | false =>
      rw [if_neg Bool.false_ne_true]
      refine x_nil (x_nil (x_nil ?_))
      rw [if_neg (by rw [hit, hq]; exact Bool.false_ne_true)]
      exact ⟨rfl, Z₂, st₂⟩
  · have e0 : ((i : Int) == 0) = false := by simp; omega
    rw [e0, if_neg Bool.false_ne_true]
    have hit : hitB i n b = (Builtin.bitAnd n b == b) := by unfold hitB; rw [if_neg h0]
    refine x_if (et_eq (a := Builtin.bitAnd n b) (b := b) (ev_and (ev_name Z₁.F.kind (Z₁.F.loc hm V.mode) fun _ _ => ⟨tm, rfl⟩) (ev_name Z₁.F.kind (Z₁.F.loc hb V.bit) fun _ _ => ⟨tb, rfl⟩)) (ev_name Z₁.F.kind (Z₁.F.loc hb V.bit) fun _ _ => ⟨tb, rfl⟩)) fun s₂ k₂ => ?_
    have Z₂ := keepZ1 s₂ k₂
    have st₂ : StayP ev p s.heap s₂.heap := (Sub.stay (ksub (ktr k₁ k₂))).p
    cases hq : Builtin.bitAnd n b == b with
    | true =>
      rw [if_pos rfl]
      refine fm_app V Z₂ rfl hsz hn (ev_name Z₂.F.kind (Z₂.F.loc hc V.char) fun _ _ => ⟨tc, rfl⟩) fun s₃ Z₃ st₃ => x_break ?_
      dsimp only
      rw [if_pos (hit.trans hq)]
      exact ⟨rfl, Z₃, st₂.trans st₃⟩
    | false =>
      rw [if_neg Bool.false_ne_true]
      refine x_nil (x_nil (x_nil ?_))
      rw [if_neg (by rw [hit, hq]; exact Bool.false_ne_true)]
      exact ⟨rfl, Z₂, st₂⟩

theorem fm_else {i : Nat} {ti : Tok} (V : FmEnv ev) (Z : FS s₀ ev p n cs m cm s) (hsz : cs.length ≤ 1000) (hn : s₀.heap.get? p = none) (hi : m (Str.ofString "index") = some (.int i ti)) :
    Wx prog w A (execs (sElse (fmInner w)) ev) (fun f s' => f = .next ∧ FS s₀ ev p n (cs ++ [pickC i n []]) m cm s' ∧ StayP ev p s.heap s'.heap) (fun _ _ => False) s := by
  have keepZ : ∀ s', Keeps s s' → FS s₀ ev p n cs m cm s' := fun s' k => ⟨Z.F.keeps k, Z.md, Z.pm, let ⟨items, hl, hp⟩ := Z.ls; ⟨items, hl.at fun o e => ksub k _ o e, hp⟩⟩
  refine x_if (et_eq (a := i) (b := 0) (ev_name Z.F.kind (Z.F.loc hi V.index) fun _ _ => ⟨ti, rfl⟩) ev_int) fun s₁ k₁ => ?_
  have Z₁ := keepZ s₁ k₁
  have st₁ : StayP ev p s.heap s₁.heap := (Sub.stay (ksub k₁)).p
  by_cases h0 : i = 0
  · subst h0
    rw [if_pos (by decide)]
    exact fm_app V Z₁ rfl hsz hn ev_str fun s₂ Z₂ st₂ => x_nil (x_nil ⟨rfl, Z₂, st₁.trans st₂⟩)
  · have e0 : ((i : Int) == 0) = false := by simp; omega
    have hp : pickC i n [] = Str.ofString "-" := by unfold pickC; rw [if_neg h0]
    rw [e0, if_neg Bool.false_ne_true, hp]
    exact fm_app V Z₁ rfl hsz hn ev_str fun s₂ Z₂ st₂ => x_nil (x_nil ⟨rfl, Z₂, st₁.trans st₂⟩)
end
end MineQ
end

section
set_option Elab.async false
set_option maxRecDepth 100000
set_option linter.unusedVariables false
namespace MineQ
open PySem PySem.W PySem.Calls PyProof.Rows
section
variable {prog : Program} {w : World} {A : Around} {ev : Env} {s₀ s : Shared} {m cm : Str → Option Value} {p : Addr} {n : Int} {cs : List Str}
theorem pt_tuple {h : Heap} {a : Addr} {vs : Array Value} (x : Heap.PT h a vs) : h.IsTuple a vs := let ⟨n, e⟩ := x; ⟨_, e, rfl, n, rfl⟩

theorem fm_inner {i : Nat} {ti : Tok} {tab : List (Int × Str)} {a : Addr} (V : FmEnv ev) (hh : A.handled = none) (hA : A.depth + 2 < recursionLimit) (B : Bs w s₀.heap) (Z : FS s₀ ev p n cs m cm s) (hsz : cs.length ≤ 1000) (hn : s₀.heap.get? p = none)
    (hi : m (Str.ofString "index") = some (.int i ti)) (ht : m (Str.ofString "table") = some (.ref a)) (hT : isT (isP2 isI isS) tab (.ref a) s₀.heap) :
    wpAny (model prog w) A (exec (fmInner w) ev) (fun f s' => f = .next ∧ ∃ m', FS s₀ ev p n (cs ++ [pickC i n tab]) m' cm s' ∧ StayP ev p s.heap s'.heap) (fun _ _ => False) s := by
  obtain ⟨a', vs, e, hT, hP⟩ := hT
  cases e
  have hlen := plist_size hP
  have aT : ∀ s' : Shared, Sub s₀.heap s'.heap → s'.heap.IsTuple a vs := fun s' k => pt_tuple (pt_q (Sub.q k) hT)
  refine wpAny_For (wpAny_Name ((Z.F.loc ht V.table).load Z.F.kind (wpAny_pyIter_tuple (aT s Z.F.keep) ?_)) (by decide)) (by intro _; rfl)
  have hIs : s.heap.get? s.heap.objs.size = none := fresh_size
  generalize hI : s.heap.objs.size = I at hIs ⊢
  have sub1 : Sub s.heap (s.heap.push { cls := .type "tuple_iterator", data := .fields #[.ref a, .int 0 0] }) := fun b o e => Heap.get?_push_of_some _ e
  have IL : I ≠ ev.locals := by intro e; obtain ⟨o, _, _, ho, _⟩ := Z.F.ns; rw [← e, hIs] at ho; cases ho
  have IC : ∀ nm, ev.cells.lookup nm ≠ some I := by intro nm hc; obtain ⟨o, ho, _⟩ := Z.F.cell nm I hc; rw [hIs] at ho; cases ho
  have I0 : s₀.heap.get? I = none := sub_none Z.F.keep hIs
  have aI : a ≠ I := by intro e; obtain ⟨n, hT⟩ := hT; rw [e, I0] at hT; cases hT
  have keepBut : ∀ {m' : Str → Option Value} {cs' : List Str} {s₁ : Shared} {h' : Heap} {tk : Nat}, FS s₀ ev p n cs' m' cm s₁ → p ≠ I → (∀ b o, b ≠ I → s₁.heap.get? b = some o → h'.get? b = some o) → FS s₀ ev p n cs' m' cm { s₁ with heap := h', toks := tk } := by
    intro m' cs' s₁ h' tk Z' hpI up
    obtain ⟨items, hl, hp⟩ := Z'.ls
    exact ⟨Z'.F.keepBut up IL IC I0, Z'.md, Z'.pm, items, hl.at fun o e => up _ o hpI e, hp⟩
  have hpI : p ≠ I := by intro e; obtain ⟨items, ⟨n, hl⟩, _⟩ := Z.ls; rw [e, hIs] at hl; cases hl
  refine codeAny_forLoop_any (fun k s' => ∃ j m', k = tab.length + 1 - j ∧ j ≤ tab.length ∧ pickC i n tab = pickC i n (tab.drop j) ∧ FS s₀ ev p n cs m' cm s' ∧ m' (Str.ofString "index") = some (.int i ti) ∧ s'.heap.IsTupleIter I a j ∧
    (∀ b o, s.heap.get? b = some o → b ≠ ev.locals → (∀ n, ev.cells.lookup n ≠ some b) → b ≠ p → s'.heap.get? b = some o)) ?_ (tab.length + 1)
    ⟨0, m, rfl, Nat.zero_le _, rfl, keepBut (s₁ := s) (tk := s.toks) Z hpI (fun b o _ e => sub1 b o e), hi, ⟨_, by rw [← hI]; exact Heap.get?_push_size _ rfl, rfl, rfl⟩, fun b o e _ _ _ => sub1 b o e⟩
  rintro k s' ⟨j, m', rfl, hj, hpick, Z', hi', hit, hk'⟩
  have aT' := aT s' Z'.F.keep
  by_cases hlt : j < tab.length
  · obtain ⟨q, hq⟩ : ∃ q, tab[j]? = some q := ⟨tab[j], by simp [hlt]⟩
    obtain ⟨v, hv, t, v1, v2, rfl, hPT, ⟨tb, rfl⟩, ⟨tc, rfl⟩⟩ := Paired.get hP hq
    have hdrop : tab.drop j = q :: tab.drop (j + 1) := by
      obtain ⟨hl, e⟩ := List.getElem?_eq_some_iff.mp hq
      rw [List.drop_eq_getElem_cons hl, e]
    refine wpAny_pyNext_tuple_item hit aT' (x := .ref t) (by simpa using hv) fun h₁ hit₁ hs₁ => ?_
    have Z₁ := keepBut (s₁ := s') (h' := h₁) (tk := s'.toks) Z' hpI (fun b o n1 e => hs₁.extBut b o n1 e)
    refine letgo_tuple (s := { s' with heap := h₁ }) hit₁ ?_
    have hPT₁ : Heap.PT h₁ t #[Value.int q.1 tb, Value.str q.2 tc] := pt_q (Sub.q Z₁.F.keep) hPT
    refine assign2 (s := { s' with heap := h₁ }) hh Z₁.F hPT₁ (stores_loc V.bit) (stores_loc V.char) fun s₂ F₂ q₂ z₂ => ?_
    dsimp only at F₂ z₂ q₂
    have Z₂ : FS s₀ ev p n cs _ cm s₂ := ⟨F₂, (let ⟨t, e⟩ := Z'.md; ⟨t, (upd_ne (by decide)).trans ((upd_ne (by decide)).trans e)⟩), (upd_ne (by decide)).trans ((upd_ne (by decide)).trans Z'.pm), let ⟨items, hl, hp⟩ := Z₁.ls; ⟨items, plain_q q₂ hl, hp⟩⟩
    refine wpAny_mono (wx_out (fm_test V Z₂ hA B hsz hn ((upd_ne (by decide)).trans ((upd_ne (by decide)).trans hi')) ((upd_ne (by decide)).trans upd_eq) upd_eq)) (fun f s₃ h₃ => ?_) fun _ _ e => e.elim
    have st2 : ∀ b o, s.heap.get? b = some o → b ≠ ev.locals → (∀ n, ev.cells.lookup n ≠ some b) → b ≠ p → s₂.heap.get? b = some o := fun b o e n1 n2 n3 => z₂ b o (hs₁.extBut b o (fun q => by rw [q, hIs] at e; cases e) (hk' b o e n1 n2 n3)) n1 n2
    by_cases hb : hitB i n q.1 = true
    · rw [if_pos hb] at h₃
      obtain ⟨rfl, Z₃, st₃⟩ := h₃
      have hpc : pickC i n tab = q.2 := by rw [hpick, hdrop]; unfold pickC; rw [if_pos hb]
      rw [hpc]
      exact ⟨rfl, _, Z₃, fun b o e n1 n2 n3 => st₃ b o (st2 b o e n1 n2 n3) n1 n2 n3⟩
    · rw [if_neg hb] at h₃
      obtain ⟨rfl, Z₃, st₃⟩ := h₃
      refine ⟨tab.length + 1 - (j + 1), by omega, j + 1, _, rfl, hlt, ?_, Z₃, (upd_ne (by decide)).trans ((upd_ne (by decide)).trans hi'), ?_, fun b o e n1 n2 n3 => st₃ b o (st2 b o e n1 n2 n3) n1 n2 n3⟩
      · rw [hpick, hdrop]
        conv => lhs; unfold pickC
        rw [if_neg hb]
      · exact hit₁.at fun o e => st₃ _ o (z₂ _ o e IL IC) IL IC (Ne.symm hpI)
  · have hin : j = tab.length := by omega
    subst hin
    refine wpAny_pyNext_tuple_end hh hit aT' (by simp [hlen]) fun h₁ he₁ => ?_
    have Z₁ := keepBut (s₁ := s') (h' := h₁) (tk := s'.toks) Z' hpI (fun b o n1 e => he₁ b o n1 e)
    refine wpAny_mono (wx_out (fm_else (w := w) (prog := prog) (A := A) V Z₁ hsz hn hi')) (fun f s₂ h₂ => ?_) fun _ _ e => e.elim
    obtain ⟨rfl, Z₂, st₂⟩ := h₂
    rw [hpick, List.drop_length]
    exact ⟨rfl, _, Z₂, fun b o e n1 n2 n3 => st₂ b o (he₁ b o (fun q => by rw [q, hIs] at e; cases e) (hk' b o e n1 n2 n3)) n1 n2 n3⟩
end
end MineQ
end

section
set_option Elab.async false
set_option maxRecDepth 100000
set_option linter.unusedVariables false
namespace MineQ
open PySem PySem.W PySem.Calls PyProof.Rows
open Builtin
section
variable {prog : Program} {w : World} {A : Around} {E : Value → Shared → Prop} {s : Shared}
theorem nextOf_tuple_item {it t : Addr} {i : Nat} {items : Array Value} {x : Value} {Q : Value → Shared → Prop} (hit : s.heap.IsTupleIter it t i)
    (ht : s.heap.IsTuple t items) (hx : items[i]? = some x)
    (hQ : ∀ h', h'.IsTupleIter it t (i + 1) → Heap.SameBut it s.heap h' → Q x { s with heap := h' }) :
    wpAny (model prog w) A (Builtin.SmallTypes.nextOf (.ref it)) Q E s := by
  obtain ⟨o, ho, hc, hd⟩ := id hit
  obtain ⟨ol, hol, _, nl, hdl⟩ := ht
  unfold Builtin.SmallTypes.nextOf
  refine wpAny_bind (wpAny_callSpecial?_slot (name := Str.ofString "__next__") hit.typeIs PySem.F.slot_tuple_iterator_next
    (wpAny_call_entry PySem.F.slot_tuple_iterator_next hit.typeIs PySem.F.entry_tuple_iterator_next ?_ (PySem.F.args_tuple_iterator_next_1 _)))
  show wpAny _ _ (field (.ref it) 0 >>= _) _ _ s
  refine wpAny_bind (wpAny_field ho hd (x := .ref t) rfl ?_)
  show wpAny _ _ (if (Value.ref t == Value.none) = true then _ else _) _ _ s
  rw [if_neg (show ¬ ((Value.ref t == Value.none) = true) from Bool.false_ne_true)]
  show wpAny _ _ (field (.ref it) 1 >>= _) _ _ s
  refine wpAny_bind (wpAny_field ho hd (x := .int i 0) rfl ?_)
  show wpAny _ _ (seqItems? (.ref t) >>= _) _ _ s
  refine wpAny_bind (wpAny_seqItems hol hdl ?_)
  simp only [Int.toNat_natCast, hx]
  refine wpAny_bind (wpAny_setField ho hd (by simp) (wpAny_pure ⟨x, rfl, wpAny_pure (hQ _ ?_ (Heap.SameBut.update ..))⟩))
  exact ⟨_, Heap.get?_update_self _ ho (Obj.isFreed_of_fields (Obj.data_mapFields hd _)), (Obj.cls_mapFields ..).trans hc, by
    rw [Obj.data_mapFields hd]; simp [rawInt]⟩

theorem nextOf_tuple_end {it t : Addr} {i : Nat} {items : Array Value} {Q : Value → Shared → Prop} (hh : A.handled = none)
    (hit : s.heap.IsTupleIter it t i) (ht : s.heap.IsTuple t items) (hx : items[i]? = none)
    (hE : ∀ h' e, Heap.ExtBut it s.heap h' → (∃ o, h'.get? e = some o ∧ o.cls = .type "StopIteration") → E (.ref e) { s with heap := h' }) :
    wpAny (model prog w) A (Builtin.SmallTypes.nextOf (.ref it)) Q E s := by
  obtain ⟨o, ho, hc, hd⟩ := id hit
  obtain ⟨ol, hol, _, nl, hdl⟩ := ht
  unfold Builtin.SmallTypes.nextOf
  refine wpAny_bind (wpAny_callSpecial?_slot (name := Str.ofString "__next__") hit.typeIs PySem.F.slot_tuple_iterator_next
    (wpAny_call_entry PySem.F.slot_tuple_iterator_next hit.typeIs PySem.F.entry_tuple_iterator_next ?_ (PySem.F.args_tuple_iterator_next_1 _)))
  show wpAny _ _ (field (.ref it) 0 >>= _) _ _ s
  refine wpAny_bind (wpAny_field ho hd (x := .ref t) rfl ?_)
  show wpAny _ _ (if (Value.ref t == Value.none) = true then _ else _) _ _ s
  rw [if_neg (show ¬ ((Value.ref t == Value.none) = true) from Bool.false_ne_true)]
  show wpAny _ _ (field (.ref it) 1 >>= _) _ _ s
  refine wpAny_bind (wpAny_field ho hd (x := .int i 0) rfl ?_)
  show wpAny _ _ (seqItems? (.ref t) >>= _) _ _ s
  refine wpAny_bind (wpAny_seqItems hol hdl ?_)
  simp only [Int.toNat_natCast, hx]
  refine wpAny_bind (wpAny_rule (wpAny_bind (wpAny_setField ho hd (by simp) ?_)))
  show wpAny _ _ (newExc (.type "StopIteration") [] >>= _) _ _ _
  refine wpAny_bind ?_
  simp only [newExc, newTuple]
  refine wpAny_bind (wpAny_newObj_type ?_ (by size_fits))
  refine wpAny_bind (m := firstArgMember _ _) (wpAny_of_eq (a := Value.none) (by first | rfl | (simp only [firstArgMember]; rfl)) ?_)
  refine wpAny_newObj_type ?_ (by size_fits)
  simp only [raiseNew]
  refine wpAny_bind (wpAny_handled ?_)
  first | rw [show A.in1.handled = none from hh] | rw [hh]
  refine wpAny_bind (wpAny_pure (wpAny_throw ?_))
  exact hE _ _ (((Heap.SameBut.update ..).extBut.push _).push _) ⟨_, Heap.get?_push_size _ rfl, rfl⟩

theorem titer_at {h h' : Heap} {it t : Addr} {i : Nat} (x : h.IsTupleIter it t i) (k : ∀ o, h.get? it = some o → h'.get? it = some o) : h'.IsTupleIter it t i :=
  let ⟨o, ho, r⟩ := x; ⟨o, k o ho, r⟩
theorem tup_at {h h' : Heap} {t : Addr} {items : Array Value} (x : h.IsTuple t items) (k : ∀ o, h.get? t = some o → h'.get? t = some o) : h'.IsTuple t items :=
  let ⟨o, ho, r⟩ := x; ⟨o, k o ho, r⟩

theorem drawsT (hh : A.handled = none) (it l : Addr) (hne : l ≠ it) (items : Array Value) :
    Draws prog w A it [it, l] items.size (fun i v => items[i]? = some v) (fun i h => h.IsTupleIter it l i ∧ h.IsTuple l items) where
  live := fun _ _ st => let ⟨o, ho, _⟩ := st.1; ⟨o, ho⟩
  frame := fun _ _ _ st hk => ⟨titer_at st.1 fun o e => hk it (by simp) o e, tup_at st.2 fun o e => hk l (by simp) o e⟩
  item := fun i s Q E hi st hQ => by
    refine nextOf_tuple_item st.1 st.2 (x := items[i]) (by simp [hi]) fun h' hit' hs' => ?_
    exact hQ _ h' s.toks (by simp [hi]) ⟨hit', st.2.extBut hs'.extBut hne⟩ hs'
  done := fun s Q E st hE => nextOf_tuple_end hh st.1 st.2 (by simp) hE

open AutoSeq1 (wpAny_loadPart') in
theorem meets_enumerate_newT (l : Addr) (items : Array Value) (n : Nat) :
    Meets (Builtin.«enumerate.__new__» ⟨[.type "enumerate", .ref l], []⟩) (fun _ R s => s.heap.get? l = some { cls := .type "tuple", data := .seq items n } ∧
      R (.ok (.ret (.ref (s.heap.push { cls := .type "tuple_iterator", data := .fields #[.ref l, .int 0 0] }).objs.size)))
        { s with heap := (s.heap.push { cls := .type "tuple_iterator", data := .fields #[.ref l, .int 0 0] }).push { cls := .type "enumerate", data := .fields #[.none, .bool false, .ref s.heap.objs.size, rawInt 0, .none, .none] } }) :=
  .of_wp fun prog w A R s h => by
    obtain ⟨hp, g, d, tk, os⟩ := s; obtain ⟨hl, h⟩ := h
    have hsub := sub_enumerate
    have hL : Heap.IsTuple (Shared.heap ⟨hp, g, d, tk, os⟩) l items := ⟨_, hl, rfl, n, rfl⟩
    wp_walk using wpAny_loadPart' hl
    refine wpAny_stack_any fun st => wpAny_pure ?_
    split
    · rename_i c _ _ _ _ _
      cases (c == Value.type "enumerate")
      · wp_walk using wpAny_loadPart' hl, wpAny_pyIter_tuple hL
        exact ⟨_, rfl, h⟩
      · wp_walk using wpAny_loadPart' hl, wpAny_pyIter_tuple hL
        exact ⟨_, rfl, h⟩
    · wp_walk using wpAny_loadPart' hl, wpAny_pyIter_tuple hL
      exact ⟨_, rfl, h⟩

theorem call_enumerate_tuple {l : Addr} {items : Array Value} {Q : Value → Shared → Prop} (hL : Heap.PT s.heap l items)
    (h : ∀ h', IsEnum h' (s.heap.objs.size + 1) s.heap.objs.size 0 .none → h'.IsTupleIter s.heap.objs.size l 0 → h'.objs.size = s.heap.objs.size + 2 →
      (∀ b o, s.heap.get? b = some o → h'.get? b = some o) → Q (.ref (s.heap.objs.size + 1)) { s with heap := h' }) :
    wpAny (model prog w) A (call (.type "enumerate") [.ref l]) Q E s := by
  obtain ⟨n, hl⟩ := hL
  refine callType_new PySem.F.called_enumerate (by decide) (PySem.F.typeCall_enumerate_1 _) (PySem.F.newCall_enumerate_1 _) (fun obj => PySem.F.args_object_init_2 obj _) PySem.F.entry_enumerate_new
    (meets_enumerate_newT l items n) ⟨hl, ?_⟩
  have hz : (s.heap.push { cls := .type "tuple_iterator", data := .fields #[.ref l, .int 0 0] }).objs.size = s.heap.objs.size + 1 := Heap.size_push ..
  show _ ∧ _
  rw [hz]
  have he : IsEnum ((s.heap.push { cls := .type "tuple_iterator", data := .fields #[.ref l, .int 0 0] }).push
      { cls := .type "enumerate", data := .fields #[.none, .bool false, .ref s.heap.objs.size, rawInt 0, .none, .none] }) (s.heap.objs.size + 1) s.heap.objs.size 0 .none := by
    have := Heap.get?_push_size (s.heap.push { cls := .type "tuple_iterator", data := .fields #[.ref l, .int 0 0] })
      (o := { cls := .type "enumerate", data := .fields #[.none, .bool false, .ref s.heap.objs.size, rawInt 0, .none, .none] }) rfl
    rw [hz] at this; exact this
  refine ⟨⟨_, he, rfl⟩, h _ he ⟨_, Heap.get?_push_of_some _ (Heap.get?_push_size _ rfl), rfl, rfl⟩ (by rw [Heap.size_push, hz]) fun b o x => Heap.get?_push_of_some _ (Heap.get?_push_of_some _ x)⟩
end
end MineQ
end

section
set_option Elab.async false
set_option maxRecDepth 100000
set_option linter.unusedVariables false
namespace MineQ
open PySem PySem.W PySem.Calls PyProof.Rows
def tab36 : List (Int × Str) := [(40960, Str.ofString "l"), (49152, Str.ofString "s"), (32768, Str.ofString "-"), (24576, Str.ofString "b"), (16384, Str.ofString "d"), (8192, Str.ofString "c"), (4096, Str.ofString "p")]
def tab38 : List (Int × Str) := [(256, Str.ofString "r")]
def tab40 : List (Int × Str) := [(128, Str.ofString "w")]
def tab44 : List (Int × Str) := [(2112, Str.ofString "s"), (2048, Str.ofString "S"), (64, Str.ofString "x")]
def tab46 : List (Int × Str) := [(32, Str.ofString "r")]
def tab48 : List (Int × Str) := [(16, Str.ofString "w")]
def tab52 : List (Int × Str) := [(1032, Str.ofString "s"), (1024, Str.ofString "S"), (8, Str.ofString "x")]
def tab54 : List (Int × Str) := [(4, Str.ofString "r")]
def tab56 : List (Int × Str) := [(2, Str.ofString "w")]
def tab60 : List (Int × Str) := [(513, Str.ofString "t"), (512, Str.ofString "T"), (1, Str.ofString "x")]
def fmTab : List (List (Int × Str)) := [tab36, tab38, tab40, tab44, tab46, tab48, tab52, tab54, tab56, tab60]
theorem pt_at {w : World} {h : Heap} {a : Addr} {vs : Array Value} {n : Nat} (B : Bs w h) (e : (KK w).lookup a = some { cls := .type "tuple", data := .seq vs n }) : Heap.PT h a vs := ⟨n, B.X _ _ e⟩
section
variable {w : World} {h : Heap}
theorem pair29 (B : Bs w h) : isP2 isI isS (40960, Str.ofString "l") (.ref 29) h := ⟨29, .int 40960 213, .str (Str.ofString "l") 241, rfl, pt_at B (n := 0) rfl, ⟨_, rfl⟩, ⟨_, rfl⟩⟩
theorem pair30 (B : Bs w h) : isP2 isI isS (49152, Str.ofString "s") (.ref 30) h := ⟨30, .int 49152 215, .str (Str.ofString "s") 242, rfl, pt_at B (n := 0) rfl, ⟨_, rfl⟩, ⟨_, rfl⟩⟩
theorem pair31 (B : Bs w h) : isP2 isI isS (32768, Str.ofString "-") (.ref 31) h := ⟨31, .int 32768 209, .str (Str.ofString "-") 243, rfl, pt_at B (n := 0) rfl, ⟨_, rfl⟩, ⟨_, rfl⟩⟩
theorem pair32 (B : Bs w h) : isP2 isI isS (24576, Str.ofString "b") (.ref 32) h := ⟨32, .int 24576 207, .str (Str.ofString "b") 244, rfl, pt_at B (n := 0) rfl, ⟨_, rfl⟩, ⟨_, rfl⟩⟩
theorem pair33 (B : Bs w h) : isP2 isI isS (16384, Str.ofString "d") (.ref 33) h := ⟨33, .int 16384 203, .str (Str.ofString "d") 245, rfl, pt_at B (n := 0) rfl, ⟨_, rfl⟩, ⟨_, rfl⟩⟩
theorem pair34 (B : Bs w h) : isP2 isI isS (8192, Str.ofString "c") (.ref 34) h := ⟨34, .int 8192 205, .str (Str.ofString "c") 246, rfl, pt_at B (n := 0) rfl, ⟨_, rfl⟩, ⟨_, rfl⟩⟩
theorem pair35 (B : Bs w h) : isP2 isI isS (4096, Str.ofString "p") (.ref 35) h := ⟨35, .int 4096 211, .str (Str.ofString "p") 247, rfl, pt_at B (n := 0) rfl, ⟨_, rfl⟩, ⟨_, rfl⟩⟩
theorem pair37 (B : Bs w h) : isP2 isI isS (256, Str.ofString "r") (.ref 37) h := ⟨37, .int 256 223, .str (Str.ofString "r") 248, rfl, pt_at B (n := 0) rfl, ⟨_, rfl⟩, ⟨_, rfl⟩⟩
theorem pair39 (B : Bs w h) : isP2 isI isS (128, Str.ofString "w") (.ref 39) h := ⟨39, .int 128 225, .str (Str.ofString "w") 249, rfl, pt_at B (n := 0) rfl, ⟨_, rfl⟩, ⟨_, rfl⟩⟩
theorem pair41 (B : Bs w h) : isP2 isI isS (2112, Str.ofString "s") (.ref 41) h := ⟨41, .int 2112 250, .str (Str.ofString "s") 251, rfl, pt_at B (n := 0) rfl, ⟨_, rfl⟩, ⟨_, rfl⟩⟩
theorem pair42 (B : Bs w h) : isP2 isI isS (2048, Str.ofString "S") (.ref 42) h := ⟨42, .int 2048 217, .str (Str.ofString "S") 252, rfl, pt_at B (n := 0) rfl, ⟨_, rfl⟩, ⟨_, rfl⟩⟩
theorem pair43 (B : Bs w h) : isP2 isI isS (64, Str.ofString "x") (.ref 43) h := ⟨43, .int 64 227, .str (Str.ofString "x") 253, rfl, pt_at B (n := 0) rfl, ⟨_, rfl⟩, ⟨_, rfl⟩⟩
theorem pair45 (B : Bs w h) : isP2 isI isS (32, Str.ofString "r") (.ref 45) h := ⟨45, .int 32 229, .str (Str.ofString "r") 254, rfl, pt_at B (n := 0) rfl, ⟨_, rfl⟩, ⟨_, rfl⟩⟩
theorem pair47 (B : Bs w h) : isP2 isI isS (16, Str.ofString "w") (.ref 47) h := ⟨47, .int 16 231, .str (Str.ofString "w") 255, rfl, pt_at B (n := 0) rfl, ⟨_, rfl⟩, ⟨_, rfl⟩⟩
theorem pair49 (B : Bs w h) : isP2 isI isS (1032, Str.ofString "s") (.ref 49) h := ⟨49, .int 1032 256, .str (Str.ofString "s") 257, rfl, pt_at B (n := 0) rfl, ⟨_, rfl⟩, ⟨_, rfl⟩⟩
theorem pair50 (B : Bs w h) : isP2 isI isS (1024, Str.ofString "S") (.ref 50) h := ⟨50, .int 1024 219, .str (Str.ofString "S") 258, rfl, pt_at B (n := 0) rfl, ⟨_, rfl⟩, ⟨_, rfl⟩⟩
theorem pair51 (B : Bs w h) : isP2 isI isS (8, Str.ofString "x") (.ref 51) h := ⟨51, .int 8 233, .str (Str.ofString "x") 259, rfl, pt_at B (n := 0) rfl, ⟨_, rfl⟩, ⟨_, rfl⟩⟩
theorem pair53 (B : Bs w h) : isP2 isI isS (4, Str.ofString "r") (.ref 53) h := ⟨53, .int 4 235, .str (Str.ofString "r") 260, rfl, pt_at B (n := 0) rfl, ⟨_, rfl⟩, ⟨_, rfl⟩⟩
theorem pair55 (B : Bs w h) : isP2 isI isS (2, Str.ofString "w") (.ref 55) h := ⟨55, .int 2 237, .str (Str.ofString "w") 261, rfl, pt_at B (n := 0) rfl, ⟨_, rfl⟩, ⟨_, rfl⟩⟩
theorem pair57 (B : Bs w h) : isP2 isI isS (513, Str.ofString "t") (.ref 57) h := ⟨57, .int 513 262, .str (Str.ofString "t") 263, rfl, pt_at B (n := 0) rfl, ⟨_, rfl⟩, ⟨_, rfl⟩⟩
theorem pair58 (B : Bs w h) : isP2 isI isS (512, Str.ofString "T") (.ref 58) h := ⟨58, .int 512 221, .str (Str.ofString "T") 264, rfl, pt_at B (n := 0) rfl, ⟨_, rfl⟩, ⟨_, rfl⟩⟩
theorem pair59 (B : Bs w h) : isP2 isI isS (1, Str.ofString "x") (.ref 59) h := ⟨59, .int 1 239, .str (Str.ofString "x") 265, rfl, pt_at B (n := 0) rfl, ⟨_, rfl⟩, ⟨_, rfl⟩⟩
theorem istab36 (B : Bs w h) : isT (isP2 isI isS) tab36 (.ref 36) h := ⟨36, #[.ref 29, .ref 30, .ref 31, .ref 32, .ref 33, .ref 34, .ref 35], rfl, pt_at B (n := 0) rfl, .cons (pair29 B) (.cons (pair30 B) (.cons (pair31 B) (.cons (pair32 B) (.cons (pair33 B) (.cons (pair34 B) (.cons (pair35 B) (.nil)))))))⟩
theorem istab38 (B : Bs w h) : isT (isP2 isI isS) tab38 (.ref 38) h := ⟨38, #[.ref 37], rfl, pt_at B (n := 0) rfl, .cons (pair37 B) (.nil)⟩
theorem istab40 (B : Bs w h) : isT (isP2 isI isS) tab40 (.ref 40) h := ⟨40, #[.ref 39], rfl, pt_at B (n := 0) rfl, .cons (pair39 B) (.nil)⟩
theorem istab44 (B : Bs w h) : isT (isP2 isI isS) tab44 (.ref 44) h := ⟨44, #[.ref 41, .ref 42, .ref 43], rfl, pt_at B (n := 0) rfl, .cons (pair41 B) (.cons (pair42 B) (.cons (pair43 B) (.nil)))⟩
theorem istab46 (B : Bs w h) : isT (isP2 isI isS) tab46 (.ref 46) h := ⟨46, #[.ref 45], rfl, pt_at B (n := 0) rfl, .cons (pair45 B) (.nil)⟩
theorem istab48 (B : Bs w h) : isT (isP2 isI isS) tab48 (.ref 48) h := ⟨48, #[.ref 47], rfl, pt_at B (n := 0) rfl, .cons (pair47 B) (.nil)⟩
theorem istab52 (B : Bs w h) : isT (isP2 isI isS) tab52 (.ref 52) h := ⟨52, #[.ref 49, .ref 50, .ref 51], rfl, pt_at B (n := 0) rfl, .cons (pair49 B) (.cons (pair50 B) (.cons (pair51 B) (.nil)))⟩
theorem istab54 (B : Bs w h) : isT (isP2 isI isS) tab54 (.ref 54) h := ⟨54, #[.ref 53], rfl, pt_at B (n := 0) rfl, .cons (pair53 B) (.nil)⟩
theorem istab56 (B : Bs w h) : isT (isP2 isI isS) tab56 (.ref 56) h := ⟨56, #[.ref 55], rfl, pt_at B (n := 0) rfl, .cons (pair55 B) (.nil)⟩
theorem istab60 (B : Bs w h) : isT (isP2 isI isS) tab60 (.ref 60) h := ⟨60, #[.ref 57, .ref 58, .ref 59], rfl, pt_at B (n := 0) rfl, .cons (pair57 B) (.cons (pair58 B) (.cons (pair59 B) (.nil)))⟩
theorem istab61 (B : Bs w h) : isT (isT (isP2 isI isS)) fmTab (.ref 61) h := ⟨61, #[.ref 36, .ref 38, .ref 40, .ref 44, .ref 46, .ref 48, .ref 52, .ref 54, .ref 56, .ref 60], rfl, pt_at B (n := 0) rfl, .cons (istab36 B) (.cons (istab38 B) (.cons (istab40 B) (.cons (istab44 B) (.cons (istab46 B) (.cons (istab48 B) (.cons (istab52 B) (.cons (istab54 B) (.cons (istab56 B) (.cons (istab60 B) (.nil))))))))))⟩
theorem glob61 (w : World) : nsIn (KK w) mainGlobals (Str.ofString "_filemode_table") = some (some (.ref 61)) := rfl
end
end MineQ
end

section
set_option Elab.async false
set_option maxRecDepth 100000
set_option linter.unusedVariables false
namespace MineQ
open PySem PySem.W PySem.Calls PyProof.Rows
section
variable {prog : Program} {w : World} {A : Around} {env ev : Env} {s₀ s : Shared} {m cm : Str → Option Value} {p : Addr} {n : Int} {cs : List Str}
theorem Fn.keepSet {X : Addr → Prop} {h' : Heap} {tk : Nat} (F : Fn s₀ env m cm s) (up : ∀ b o, ¬ X b → s.heap.get? b = some o → h'.get? b = some o) (hL : ¬ X env.locals) (hC : ∀ n c, env.cells.lookup n = some c → ¬ X c) (h0 : ∀ I, X I → s₀.heap.get? I = none) : Fn s₀ env m cm { s with heap := h', toks := tk } := by
  refine ⟨F.kind, ?_, F.ns.at' (fun o e => up _ o hL e), fun n c e => cell_at (F.cell n c e) (fun o e' => up _ o (hC n c e) e'), F.apart, fun b o e => up b o (fun q => by rw [h0 b q] at e; cases e) (F.keep b o e), F.newL, F.newC⟩
  obtain ⟨h₁, tk₁, rfl⟩ := F.same; exact ⟨h', tk, rfl⟩

def enumP (H : Heap) (l : Addr) : VP := fun v h => ∃ e it, v = .ref e ∧ IsEnum h e it 0 .none ∧ h.IsTupleIter it l 0 ∧ e ≠ it ∧ H.get? e = none ∧ H.get? it = none
theorem g_enum {H : Heap} {l : Addr} {items : Array Value} {v : Value} (hl : Heap.PT s.heap l items) (hH : Sub H s.heap) (hv : v = .ref l) : Gv prog w A (call (.type "enumerate") [v]) (enumP H l) s := fun E => by
  subst hv
  refine call_enumerate_tuple hl fun h' he hit hz k => ⟨⟨_, _, rfl, he, hit, (Nat.succ_ne_self _), sub_none hH (fresh_le (by omega)), sub_none hH fresh_size⟩, kmk (tk := s.toks) k⟩

def fmPref (n : Int) (j : Nat) : List Str := (List.range j).map fun i => pickC i n (fmTab.getD i [])
theorem fmPref_succ (n : Int) (j : Nat) : fmPref n (j + 1) = fmPref n j ++ [pickC j n (fmTab.getD j [])] := by simp [fmPref, List.range_succ]
theorem fmPref_len (n : Int) (j : Nat) : (fmPref n j).length = j := by simp [fmPref]

theorem fm_outer (V : FmEnv ev) (hh : A.handled = none) (hA : A.depth + 2 < recursionLimit) (B : Bs w s₀.heap) (Z : FS s₀ ev p n [] m cm s) (hn : s₀.heap.get? p = none) :
    wpAny (model prog w) A (exec (nth (bodyAt w 68) 1) ev) (fun f s' => f = .next ∧ ∃ m', FS s₀ ev p n (fmPref n 10) m' cm s') (fun _ _ => False) s := by
  obtain ⟨l, vs, el, hT, hP⟩ := istab61 B
  cases el
  have hlen : vs.size = 10 := plist_size hP
  have B1 : Bs w s.heap := B.up Z.F.keep
  have hlv : ∀ h, Sub s.heap h → Heap.PT h 61 vs := fun h k => pt_q (Sub.q (Sub.trans Z.F.keep k)) hT
  have hiter : ∀ p1 p2 p3, Ev prog w A ev s.heap (.Call (.Name (Str.ofString "enumerate") p1) [.Name (Str.ofString "_filemode_table") p2] [] p3) (enumP s.heap 61) := fun p1 p2 p3 => ev_call1 (ev_name Z.F.kind (sees_enumerate B1 V.enum V.g V.b) fun _ _ => rfl) (.type _) (P := isV (.ref 61)) (fun _ _ _ _ x => x) (ev_name Z.F.kind (B1.glob (glob61 w) V.tab V.g) fun _ _ => rfl) (fun v s' hs hv => g_enum (hlv _ hs) hs hv) rfl
  refine wpAny_For ((hiter _ _ _ s (fun _ _ e => e)).use fun v s₁ hv k₁ => ?_) (by intro _; rfl)
  obtain ⟨e, it, rfl, he, hit, hei, hne, hni⟩ := hv
  refine wpAny_pyIter_enum he ?_
  let X : Addr → Prop := fun b => b = e ∨ b = it
  have XL : ¬ X ev.locals := by
    obtain ⟨o, _, _, ho, _⟩ := Z.F.ns
    rintro (q | q) <;> rw [q] at ho
    · rw [hne] at ho; cases ho
    · rw [hni] at ho; cases ho
  have XC : ∀ nm c, ev.cells.lookup nm = some c → ¬ X c := by
    intro nm c hc
    obtain ⟨o, ho, _⟩ := Z.F.cell nm c hc
    rintro (q | q) <;> rw [q] at ho
    · rw [hne] at ho; cases ho
    · rw [hni] at ho; cases ho
  have X0 : ∀ I, X I → s₀.heap.get? I = none := by
    rintro I (rfl | rfl)
    · exact sub_none Z.F.keep hne
    · exact sub_none Z.F.keep hni
  have Xp : ¬ X p := by
    obtain ⟨items, ⟨nn, hl⟩, _⟩ := Z.ls
    rintro (q | q) <;> rw [q] at hl
    · rw [hne] at hl; cases hl
    · rw [hni] at hl; cases hl
  have h61e : (61 : Addr) ≠ e := by rintro rfl; obtain ⟨nn, hT⟩ := hT; rw [X0 _ (Or.inl rfl)] at hT; cases hT
  have h61i : (61 : Addr) ≠ it := by rintro rfl; obtain ⟨nn, hT⟩ := hT; rw [X0 _ (Or.inr rfl)] at hT; cases hT
  have keepSet : ∀ {m' : Str → Option Value} {cs' : List Str} {s₁ : Shared} {h' : Heap} {tk : Nat}, FS s₀ ev p n cs' m' cm s₁ → (∀ b o, ¬ X b → s₁.heap.get? b = some o → h'.get? b = some o) → FS s₀ ev p n cs' m' cm { s₁ with heap := h', toks := tk } := by
    intro m' cs' s₁ h' tk Z' up
    obtain ⟨items, hl, hp⟩ := Z'.ls
    exact ⟨Z'.F.keepSet up XL XC X0, Z'.md, Z'.pm, items, hl.at fun o e => up _ o Xp e, hp⟩
  have Z₁ : FS s₀ ev p n [] m cm s₁ := ⟨Z.F.keeps k₁, Z.md, Z.pm, let ⟨items, hl, hp⟩ := Z.ls; ⟨items, hl.at fun o e => ksub k₁ _ o e, hp⟩⟩
  have D : Draws prog w A.in1 it [it, 61] vs.size (fun i v => vs[i]? = some v) (fun i h => h.IsTupleIter it 61 i ∧ h.IsTuple 61 vs) := drawsT (show A.in1.handled = none from hh) it 61 h61i vs
  refine codeAny_forLoop_any (fun k s' => ∃ j m' old, k = 11 - j ∧ j ≤ 10 ∧ FS s₀ ev p n (fmPref n j) m' cm s' ∧ IsEnum s'.heap e it (j : Nat) old ∧ s'.heap.IsTupleIter it 61 j) ?_ 11
    ⟨0, m, .none, rfl, Nat.zero_le _, Z₁, he, hit⟩
  rintro k s' ⟨j, m', old, rfl, hj, Z', he', hit'⟩
  have aT' : s'.heap.IsTuple 61 vs := pt_tuple (pt_q (Sub.q Z'.F.keep) hT)
  by_cases hlt : j < 10
  · refine wpAny_pyNext_enum_itemD D he' ⟨hit', aT'⟩ (by omega) hei (by simp; exact ⟨hei, Ne.symm h61e⟩) fun x h₁ tk hx ho hst hTn hsz hk => ?_
    obtain ⟨q, hq⟩ : ∃ q, fmTab[j]? = some q := ⟨_, List.getElem?_eq_getElem (show j < fmTab.length from hlt)⟩
    obtain ⟨v, hv, hrow⟩ := Paired.get hP hq
    have hxv : x = v := by
      have h2 : vs[j]? = some v := by simpa using hv
      rw [hx] at h2; cases h2; rfl
    subst hxv
    obtain ⟨a, us, rfl, hPT, hPP⟩ := id hrow
    have Z₂ := keepSet (s₁ := s') (h' := h₁) (tk := tk + 1) Z' (fun b o nx e => hk b o (fun q => nx (Or.inl q)) (fun q => nx (Or.inr q)) e)
    refine wpAny_letOwnedTupleGo_enum (s := { s' with heap := h₁, toks := tk + 1 }) ho fun h₂ he₂ hs₂ => ?_
    have Z₃ := keepSet (s₁ := { s' with heap := h₁, toks := tk + 1 }) (h' := h₂) (tk := tk + 1) Z₂ (fun b o nx e => hs₂.extBut b o (fun q => nx (Or.inl q)) e)
    have hTe : s'.heap.objs.size ≠ e := Nat.ne_of_gt (Heap.lt_size he')
    have hPT₃ : Heap.PT h₂ s'.heap.objs.size #[Value.int j tk, Value.ref a] := ⟨0, hs₂.extBut _ _ hTe hTn⟩
    refine assign2 (s := { s' with heap := h₂, toks := tk + 1 }) hh Z₃.F hPT₃ (stores_loc V.index) (stores_loc V.table) fun s₃ F₃ q₃ z₃ => ?_
    dsimp only at F₃ z₃ q₃
    have Z₄ : FS s₀ ev p n (fmPref n j) _ cm s₃ := ⟨F₃, (let ⟨t, e⟩ := Z'.md; ⟨t, (upd_ne (by decide)).trans ((upd_ne (by decide)).trans e)⟩), (upd_ne (by decide)).trans ((upd_ne (by decide)).trans Z'.pm), let ⟨items, hl, hp⟩ := Z₃.ls; ⟨items, plain_q q₃ hl, hp⟩⟩
    have hgd : fmTab.getD j [] = q := by simp [List.getD, hq]
    refine wpAny_execs_cons ?_
    show wpAny (model prog w) A (exec (fmInner w) ev) _ _ s₃
    refine wpAny_mono (fm_inner V hh hA B Z₄ (by rw [fmPref_len]; omega) hn ((upd_ne (by decide)).trans upd_eq) upd_eq hrow) (fun f s₄ h₄ => ?_) fun _ _ e => e.elim
    obtain ⟨rfl, m₄, Z₅, st⟩ := h₄
    refine wpAny_execs_nil ⟨11 - (j + 1), by omega, j + 1, m₄, Value.ref a, rfl, by omega, ?_, ?_, ?_⟩
    · rw [fmPref_succ, hgd]; exact Z₅
    · have nx : ∀ b, X b → b ≠ ev.locals ∧ (∀ nm, ev.cells.lookup nm ≠ some b) ∧ b ≠ p := fun b hb => ⟨fun q => XL (q ▸ hb), fun nm hc => XC nm b hc hb, fun q => Xp (q ▸ hb)⟩
      obtain ⟨n1, n2, n3⟩ := nx e (Or.inl rfl)
      have := st e _ (z₃ e _ he₂ n1 n2) n1 n2 n3
      simpa using this
    · have nx : ∀ b, X b → b ≠ ev.locals ∧ (∀ nm, ev.cells.lookup nm ≠ some b) ∧ b ≠ p := fun b hb => ⟨fun q => XL (q ▸ hb), fun nm hc => XC nm b hc hb, fun q => Xp (q ▸ hb)⟩
      obtain ⟨n1, n2, n3⟩ := nx it (Or.inr rfl)
      exact titer_at hst.1 fun o e => st _ o (z₃ _ o (hs₂.extBut _ _ (Ne.symm hei) e) n1 n2) n1 n2 n3
  · have hin : j = 10 := by omega
    subst hin
    refine wpAny_pyNext_enum_endD D he' ⟨by rw [hlen]; exact hit', aT'⟩ fun h₁ he₁ => ?_
    have Z₂ := keepSet (s₁ := s') (h' := h₁) (tk := s'.toks) Z' (fun b o nx e => he₁ b o (fun q => nx (Or.inr q)) e)
    exact wpAny_execs_nil ⟨rfl, _, Z₂⟩
end
end MineQ
end

section
set_option Elab.async false
set_option maxRecDepth 100000
set_option linter.unusedVariables false
namespace MineQ
open PySem PySem.W PySem.Calls PyProof.Rows
section
variable {prog : Program} {w : World} {A : Around} {s : Shared} {env : Env} {H : Heap}
theorem EvF.new {e : Expr} {P : VP} (x : EvF prog w A env H e P) : Ev prog w A env H e (fun v h => P v h ∧ ∀ a, v = .ref a → H.get? a = none) := fun s hs => (x s hs).mono fun _ _ h => ⟨h.1, fun a e => sub_none hs (h.2 a e)⟩
theorem mono_new {P : VP} (hP : Mono P) : Mono (fun v h => P v h ∧ ∀ a, v = .ref a → H.get? a = none) := fun v h h' q x => ⟨hP v h h' q x.1, x.2⟩
def fm (n : Int) : Str := Txt.join (Str.ofString "") (fmPref n 10)
def chOf (k : Nat) (n : Int) : Nat := (pickC k n (fmTab.getD k [])).cps.getD 0 0
theorem pick_one {i : Nat} {n : Int} : ∀ tab : List (Int × Str), (∀ q ∈ tab, q.2.cps.size = 1) → (pickC i n tab).cps.size = 1
  | [], _ => by unfold pickC; split <;> decide
  | q :: r, h => by
    unfold pickC
    split
    · exact h q (List.mem_cons_self ..)
    · exact pick_one r fun q hq => h q (List.mem_cons_of_mem _ hq)
theorem one_char {x : Str} (h : x.cps.size = 1) : x = ⟨#[x.cps.getD 0 0]⟩ := by
  obtain ⟨⟨l⟩⟩ := x
  match l, h with
  | [c], _ => rfl
theorem fmTab_one : ∀ t ∈ fmTab, ∀ q ∈ t, q.2.cps.size = 1 := by decide +kernel
theorem pick_ch {k : Nat} (n : Int) : pickC k n (fmTab.getD k []) = ⟨#[chOf k n]⟩ := one_char (pick_one _ (by
  by_cases hk : k < fmTab.length
  · rw [show fmTab.getD k [] = fmTab[k] from by simp [List.getD, hk]]
    exact fmTab_one _ (List.getElem_mem hk)
  · rw [show fmTab.getD k [] = [] from by simp [List.getD, hk]]
    intro q hq; cases hq))
theorem fmPref_eq (n : Int) : fmPref n 10 = [⟨#[chOf 0 n]⟩, ⟨#[chOf 1 n]⟩, ⟨#[chOf 2 n]⟩, ⟨#[chOf 3 n]⟩, ⟨#[chOf 4 n]⟩, ⟨#[chOf 5 n]⟩, ⟨#[chOf 6 n]⟩, ⟨#[chOf 7 n]⟩, ⟨#[chOf 8 n]⟩, ⟨#[chOf 9 n]⟩] := by
  unfold fmPref
  rw [show (fun i => pickC i n (fmTab.getD i [])) = fun i => (⟨#[chOf i n]⟩ : Str) from funext fun i => pick_ch n]
  rfl
theorem fm_eq (n : Int) : fm n = ⟨#[chOf 0 n, chOf 1 n, chOf 2 n, chOf 3 n, chOf 4 n, chOf 5 n, chOf 6 n, chOf 7 n, chOf 8 n, chOf 9 n]⟩ := by
  unfold fm
  rw [fmPref_eq]
  rfl
theorem fm_joinOk (n : Int) : JoinOk (Str.ofString "") (fmPref n 10) = true := by
  rw [fmPref_eq]
  rfl
theorem c_filemode {n : Int} {v : Value} (hh : A.handled = none) (hA : A.depth + 3 < recursionLimit) (B : Bs w s.heap) (hv : isI n v s.heap) : Gv prog w A (call (.ref 68) [v]) (isS (fm n)) s := by
  obtain ⟨t, rfl⟩ := hv
  refine gv_fn (fd := fdAt w 68) (by omega) (B.X _ _ (look68 w)) (data68 w) B.lim (codeRec_of B.X (code68 w)) (body68 w) (bind68 w _) rfl (by intro x hx; simp at hx; subst hx; exact Or.inl rfl) (fun s₁ F => ?_)
  generalize hL : s.heap.objs.size = L at F ⊢
  have V : FmEnv (callEnvC (fdAt w 68) L 68) := ⟨rfl, rfl, rfl, rfl, rfl, rfl, rfl, rfl, rfl, rfl, rfl, rfl⟩
  have hA' : (A.deeper (callEnvC (fdAt w 68) L 68)).depth + 2 < recursionLimit := by show A.depth + 1 + 2 < _; omega
  refine x_assign F (P := fun v h => isL isS [] v h ∧ ∀ a, v = .ref a → s₁.heap.get? a = none) (evf_list (R := isS) (xs := []) (fun x => mono_S x) (es_nil fun _ _ => Paired.nil) (by decide)).new (mono_new (mono_L (fun x => mono_S x) [])) (fun v s₂ F₂ q₂ z₂ hv => ?_)
  obtain ⟨⟨p, items, rfl, hl, hp⟩, hnew⟩ := hv
  have Z : FS s (callEnvC (fdAt w 68) L 68) p n [] _ _ s₂ := ⟨F₂, ⟨t, rfl⟩, rfl, items, hl, hp⟩
  refine wx_of (wpAny_execs_cons ?_)
  refine wpAny_mono (fm_outer (w := w) V hh hA' B Z (sub_none F.keep (hnew p rfl))) (fun f s₃ h₃ => ?_) fun _ _ e => e.elim
  obtain ⟨rfl, m', Z₃⟩ := h₃
  refine wx_out (x_return (ev_smeth1 PySem.F.slot_str_join PySem.F.type_str_join ev_str (ev_name (P := isL isS (fmPref n 10)) rfl (Z₃.F.loc Z₃.pm) fun h hs => ?_) fun t v s' hs hv => g_join (fm_joinOk n) hv) fun v s' hv k => ⟨v, rfl, hv, ktr Z₃.F.done k⟩)
  obtain ⟨items, hl, hp⟩ := Z₃.ls
  exact ⟨p, items, rfl, plain_q (Sub.q hs) hl, hp⟩
end
end MineQ
end

section
set_option Elab.async false
set_option maxRecDepth 100000
set_option linter.unusedVariables false
namespace MineQ
open PySem PySem.W PySem.Calls PyProof.Rows

theorem plain_map {h : Heap} {l : Addr} {items : Array Value} (x : h.PlainList l items) (f : Array Value → Array Value) : (h.update l (Obj.mapSeq f)).PlainList l (f items) := by
  obtain ⟨n, ho⟩ := x
  have e : Obj.mapSeq f { cls := .type "list", data := .seq items n } = { cls := .type "list", data := .seq (f items) (if (f items).size == items.size then n else n + 1) } := by
    simp [Obj.mapSeq]
  exact ⟨_, by rw [Heap.get?_update_self _ ho (by rw [e]; rfl), e]⟩

theorem paired_split {α β : Type} {F : α → β → Prop} : ∀ {l₁ : List α} {l₂ : List β} {b : β}, Paired F l₁ (l₂ ++ [b]) → ∃ m a, l₁ = m ++ [a] ∧ Paired F m l₂ ∧ F a b
  | _, [], b, .cons h .nil => ⟨[], _, rfl, .nil, h⟩
  | _, _ :: l₂, b, .cons h t => by
    obtain ⟨m, a, e, p, f⟩ := paired_split (l₂ := l₂) t
    exact ⟨_ :: m, a, by rw [e]; rfl, .cons h p, f⟩

def diffF : List Str → List Str → List Str → List Str × List Str
  | [], as, ms => (ms, as)
  | x :: r, as, ms => if as.contains x then diffF r (as.erase x) ms else diffF r as (ms ++ [x])

/-- the first place of x -/
theorem paired_erase {h : Heap} {x : Str} : ∀ {vs : List Value} {xs : List Str}, Paired (fun u y => isS y u h) vs xs → xs.contains x = true →
    ∃ j, ∃ hj : j < vs.length, eqS x vs[j] = true ∧ (∀ i (hi : i < vs.length), i < j → eqS x vs[i] = false) ∧ Paired (fun u y => isS y u h) (vs.eraseIdx j) (xs.erase x)
  | _, _, .nil, hc => by simp at hc
  | _, _, .cons (a := v) (b := y) (l₁ := vs) (l₂ := xs) hy t, hc => by
    obtain ⟨tk, rfl⟩ := hy
    by_cases he : y = x
    · subst he
      refine ⟨0, by simp, ?_, fun i hi h0 => absurd h0 (Nat.not_lt_zero _), by simpa using t⟩
      simp [eqS]
    · have he' : (x == y) = false := by simpa using fun e : x = y => he e.symm
      have he'' : (y == x) = false := by simpa using he
      have hc' : xs.contains x = true := by
        rw [List.contains_cons, he', Bool.false_or] at hc; exact hc
      obtain ⟨j, hj, e1, e2, e3⟩ := paired_erase t hc'
      refine ⟨j + 1, by simpa using hj, by simpa using e1, ?_, ?_⟩
      · intro i hi hlt
        cases i with
        | zero => simp only [List.getElem_cons_zero, eqS]; rw [str_beq]; exact he''
        | succ i => simpa using e2 i (by simpa using hi) (by omega)
      · rw [List.erase_cons, if_neg (by rw [he'']; exact Bool.false_ne_true)]
        exact .cons ⟨tk, rfl⟩ e3
theorem paired_none {h : Heap} {x : Str} {vs : List Value} {xs : List Str} (hp : Paired (fun u y => isS y u h) vs xs) (hc : xs.contains x = false) : ∀ i (hi : i < vs.length), eqS x vs[i] = false := by
  intro i hi
  obtain ⟨y, ey, t, e⟩ := Paired.get' hp (i := i) (a := vs[i]) (by simp [hi])
  rw [e]
  show (y.cps.toList == x.cps.toList) = false
  rw [str_beq]
  have hm : y ∈ xs := List.mem_of_getElem? ey
  have : y ≠ x := fun q => by
    subst q
    rw [List.contains_iff_mem.mpr hm] at hc; cases hc
  simpa using this

section
variable {prog : Program} {w : World} {A : Around} {s : Shared}
/-- a call of an own def, any post -/
theorem wp_fn {a : Addr} {o : Obj} {fd : FuncData} {body : List Stmt} {vals : List Value} {binds : List (Str × Value)} {Q : Value → Shared → Prop} {E : Value → Shared → Prop}
    (hroom : A.depth < recursionLimit) (ho : s.heap.get? a = some o) (hdata : o.data = .func fd) (hlim : s.heap.NoLimit) (hcd : s.heap.CodeRec fd.code fd.qualname)
    (hbody : fd.body = .stmts body) (hbind : bindArgs fd ⟨vals, []⟩ = pure binds) (hclo : fd.closure = [])
    (hkind : ∀ x ∈ binds, fd.scope.names.lookup x.1 = some .local ∨ (fd.scope.names.lookup x.1 = some .cell ∧ ((cellsFrom (s.heap.objs.size + 1) fd.scope.names []).lookup x.1).isSome = true))
    (h : ∀ s₁, Fn s (callEnvC fd s.heap.objs.size a) (bindL (callEnvC fd s.heap.objs.size a).kindOf binds fun _ => none) (bindC (callEnvC fd s.heap.objs.size a).kindOf binds fun _ => none) s₁ →
      Wx prog w (A.deeper (callEnvC fd s.heap.objs.size a)) (execs body (callEnvC fd s.heap.objs.size a)) (fun f s' => ∃ v, f = .ret v ∧ Q v s') (fun _ _ => False) s₁)
    (hco : fd.scope.isCoroutine = false := by rfl) (hgen : fd.scope.isGenerator = false := by rfl) (hk : fd.scope.kind = .function := by rfl) :
    wpAny (model prog w) A (call (.ref a) vals) Q E s := by
  refine wpAny_call (codeAny_call_cells hroom ho hdata hlim hcd hbody hbind hclo hkind (fun s₁ X => wpAny_mono (wx_out (h s₁ ⟨hk, X.toInCall.same, X.toInCall.ns, X.cell, X.apart, X.toInCall.keep, ?_, ?_⟩)) (fun f s' hf => ?_) (fun _ _ x => x.elim)) hco hgen hk)
  · exact fresh_size
  · intro n c e
    exact fresh_le (Nat.le_of_lt (X.above n c (mem_of_lookup e)))
  · obtain ⟨v, rfl, hp⟩ := hf
    exact hp
end

section
variable {prog : Program} {w : World} {A : Around} {env : Env} {s₀ s : Shared} {m cm : Str → Option Value}
/-- y = x.pop() -/
theorem x_pop {x y : Str} {px py ap cp pos : Pos} {p : Addr} {items : Array Value} {v : Value} {rest : List Stmt} {Q : Flow → Shared → Prop} {E : Value → Shared → Prop} (F : Fn s₀ env m cm s) (hx : Sees env s.heap x (.ref p)) (hl : s.heap.PlainList p (items.push v)) (hsz : items.size ≤ 1000) (hn : s₀.heap.get? p = none)
    (k : ∀ s', Fn s₀ env (upd m y v) cm s' → s'.heap.PlainList p items → StayP env p s.heap s'.heap → Wx prog w A (execs rest env) Q E s')
    (hk : env.kindOf y = some .local := by rfl) (hsw : swapsWith (.Call (.Attribute (.Name x px) (Str.ofString "pop") ap) [] [] cp) (some (.Name y py)) pos.line env = pure false := by rfl) (hd : (x == ("__debug__" : Str)) = false := by decide)
    (hbase : attributeBase (.Name x px) (Str.ofString "pop") env (eval (.Name x px) env) = eval (.Name x px) env := by rfl) (hline : (ap.endLine == cp.line) = true := by rfl) (hst : starEach [] env = [] := by rfl) :
    Wx prog w A (execs (.Assign [.Name y py] (.Call (.Attribute (.Name x px) (Str.ofString "pop") ap) [] [] cp) pos :: rest) env) Q E s := by
  refine wx_of (wpAny_execs_cons (wpAny_Assign_Name ?_ hsw))
  refine wpAny_Call_method hbase (by rw [hst]; rfl) hline PySem.F.plainAttrs_list PySem.F.slot_list_pop PySem.F.type_list_pop (wpAny_Name (hx.load F.kind ?_) hd)
  obtain ⟨n, hl'⟩ := id hl
  refine ⟨⟨_, hl', rfl⟩, (by rintro a e; cases e; exact ⟨_, hl', rfl⟩), callWith_method0 ?_⟩
  have hsz' : (items.push v).size ≤ sizeLine := by rw [Array.size_push]; exact Nat.le_trans (Nat.succ_le_succ hsz) (by decide)
  refine call_meets PySem.F.slot_list_pop ⟨_, hl', rfl⟩ PySem.F.entry_list_pop (PySem.F.args_list_pop_1 _) (MeetsSeq.list_pop_last p (items.push v) n v (by simp) hsz') ⟨hl', ?_⟩
  have F₁ := F.mutate (tk := s.toks) hl' rfl hn (Heap.SameBut.update s.heap p (Obj.mapSeq fun xs => xs.eraseIdxIfInBounds ((items.push v).size - 1)))
  have hl₁ := plain_map hl (fun xs => xs.eraseIdxIfInBounds ((items.push v).size - 1))
  have e : (items.push v).eraseIdxIfInBounds ((items.push v).size - 1) = items := by
    apply Array.toList_inj.mp
    simp only [Array.toList_eraseIdxIfInBounds, Array.toList_push, Array.size_push, Nat.add_sub_cancel]
    rw [List.eraseIdx_append_of_length_le (by simp)]
    simp
  rw [e] at hl₁
  exact F₁.store hk fun s' F' q z => wx_out (k s' F' (plain_q q hl₁) fun b o e1 n1 n2 n3 => z b o ((Heap.SameBut.update s.heap p _).extBut b o n3 e1) n1 n2)
end
end MineQ
end

section
set_option Elab.async false
set_option maxRecDepth 100000
set_option linter.unusedVariables false
namespace MineQ
open PySem PySem.W PySem.Calls PyProof.Rows

/-- the frame of unorderable_list_difference; LL, oL: its caller's frame object -/
structure DS (s₀ : Shared) (ev : Env) (LL : Addr) (oL : Obj) (p q r : Addr) (rs as ms : List Str) (m cm : Str → Option Value) (s : Shared) : Prop where
  F : Fn s₀ ev m cm s
  me : m (Str.ofString "expected") = some (.ref p)
  ma : m (Str.ofString "actual") = some (.ref q)
  mm : m (Str.ofString "missing") = some (.ref r)
  le : ∃ items, s.heap.PlainList p items ∧ Paired (fun u x => isS x u s.heap) items.toList rs.reverse
  la : ∃ items, s.heap.PlainList q items ∧ Paired (fun u x => isS x u s.heap) items.toList as
  lm : ∃ items, s.heap.PlainList r items ∧ Paired (fun u x => isS x u s.heap) items.toList ms
  fr : ∃ sl, s.heap.get? LL = some { oL with slots := sl }

/-- what does not change -/
structure DC (w : World) (A : Around) (s₀ : Shared) (ev el : Env) (LL : Addr) (oL : Obj) (p q r : Addr) : Prop where
  B : Bs w s₀.heap
  hh : A.handled = none
  frs : A.frames = some [ev, el]
  evf : ev.frame = some ev.locals
  elf : el.frame = some LL
  evk : ev.scope.kind ≠ .module
  elk : el.scope.kind ≠ .module
  cs : ev.cells = []
  dd : ∃ es ep, oL.data = .dict es ep
  ne : ev.locals ≠ LL
  pq : p ≠ q
  rp : r ≠ p
  rq : r ≠ q
  np : s₀.heap.get? p = none
  nq : s₀.heap.get? q = none
  nr : s₀.heap.get? r = none
  nL : s₀.heap.get? LL = none
  ke : ev.kindOf (Str.ofString "expected") = some .local
  ka : ev.kindOf (Str.ofString "actual") = some .local
  km : ev.kindOf (Str.ofString "missing") = some .local
  ki : ev.kindOf (Str.ofString "item") = some .local
  kv : ev.kindOf (Str.ofString "ValueError") = some .globalImplicit
  g : ev.globals = mainGlobals
  b : ev.builtins = builtinsNs
  ia : interactive ev = false

section
variable {prog : Program} {w : World} {A : Around} {ev el : Env} {s₀ s : Shared} {m cm : Str → Option Value} {p q r LL : Addr} {oL : Obj} {rs as ms : List Str}
theorem isS_any {l : List Value} {xs : List Str} {h h' : Heap} (x : Paired (fun u x => isS x u h) l xs) : Paired (fun u x => isS x u h') l xs := x
theorem DS.notSeq (Z : DS s₀ ev LL oL p q r rs as ms m cm s) (C : DC w A s₀ ev el LL oL p q r) {l : Addr} {items : Array Value} (hl : s.heap.PlainList l items) : l ≠ LL ∧ l ≠ ev.locals := by
  obtain ⟨n, hl⟩ := hl
  constructor
  · rintro rfl
    obtain ⟨sl, e⟩ := Z.fr
    obtain ⟨es, ep, hd⟩ := C.dd
    have e2 := congrArg Obj.data (Option.some.inj (hl.symm.trans e))
    change _ = oL.data at e2
    rw [hd] at e2; cases e2
  · rintro rfl
    obtain ⟨o, es, ep, ho, hd, _⟩ := Z.F.ns
    rw [hl] at ho; cases ho; cases hd
/-- the frame lies on, the lists too -/
theorem DS.stay {s' : Shared} {m' : Str → Option Value} (Z : DS s₀ ev LL oL p q r rs as ms m cm s) (C : DC w A s₀ ev el LL oL p q r) (F' : Fn s₀ ev m' cm s') (z : Stay ev s.heap s'.heap)
    (e1 : m' (Str.ofString "expected") = m (Str.ofString "expected")) (e2 : m' (Str.ofString "actual") = m (Str.ofString "actual")) (e3 : m' (Str.ofString "missing") = m (Str.ofString "missing")) : DS s₀ ev LL oL p q r rs as ms m' cm s' := by
  have nc : ∀ b n, ev.cells.lookup n ≠ some b := fun b n e => by rw [C.cs] at e; cases e
  refine ⟨F', e1.trans Z.me, e2.trans Z.ma, e3.trans Z.mm, ?_, ?_, ?_, ?_⟩
  · obtain ⟨i, h1, h2⟩ := Z.le; exact ⟨i, h1.at fun o e => z _ o e (Z.notSeq C h1).2 (nc _), h2⟩
  · obtain ⟨i, h1, h2⟩ := Z.la; exact ⟨i, h1.at fun o e => z _ o e (Z.notSeq C h1).2 (nc _), h2⟩
  · obtain ⟨i, h1, h2⟩ := Z.lm; exact ⟨i, h1.at fun o e => z _ o e (Z.notSeq C h1).2 (nc _), h2⟩
  · obtain ⟨sl, e⟩ := Z.fr; exact ⟨sl, z _ _ e (Ne.symm C.ne) (nc _)⟩
theorem DS.keeps {s' : Shared} (Z : DS s₀ ev LL oL p q r rs as ms m cm s) (C : DC w A s₀ ev el LL oL p q r) (k : Keeps s s') : DS s₀ ev LL oL p q r rs as ms m cm s' := Z.stay C (Z.F.keeps k) (Sub.stay (ksub k)) rfl rfl rfl

theorem note_first {M : Model} {E : Value → Shared → Prop} {base : Heap} {env : Env} {outer : List Env} {L e : Addr} {oe : Obj} {vs : Array Value} {a0 : Value} {Q : Unit → Shared → Prop}
    (hfr : A.frames = some (env :: outer)) (hl : s.heap.FunFrames base (env :: outer)) (hf : env.frame = some L)
    (he : s.heap.get? e = some oe) (hkb : base.StaysIn s.heap) (hen : base.get? e = none) (hd : oe.data = .fields vs) (h1 : vs[1]? = some .none) (h0 : vs[0]? = some a0)
    (h : ∀ h', Heap.NotedW base (env :: outer) e oe.cls a0 (rawInt L) s.heap h' → Q () { s with heap := h' }) : wpAny M A (noteFrame (.ref e) env) Q E s := by
  unfold noteFrame
  simp only [hf]
  refine wpAny_bind (wpAny_field he hd h1 ?_)
  rw [if_neg (by decide)]
  exact wpAny_entryW hfr hl hf he hkb hen hd (Array.getElem?_eq_some_iff.mp h1).1 h0 h

theorem sub_VB : isSubtype (.type "ValueError") (.type "BaseException") = pure true := isSubtype_of_subB (by decide +kernel)
theorem sub_VT : isSubtype (.type ((Manifest.find? "ValueError").elim "type" fun x => x.metatype)) (.type "tuple") = pure false := isSubtype_of_subB (by decide +kernel)
theorem sub_VV : isSubtype (.type "ValueError") (.type "ValueError") = pure true := isSubtype_of_subB (by decide +kernel)

/-- a ValueError is raised and caught here -/
theorem d_caught {h : Heap} {e : Addr} {tk : Nat} {b₀ : Stmt} {suite : List Stmt} {pos np : Pos} {rest : List ExceptHandler} {Q : Flow → Shared → Prop} (C : DC w A s₀ ev el LL oL p q r) (Z : DS s₀ ev LL oL p q r rs as ms m cm s)
    (hx : Heap.NewExc s.heap h e "ValueError")
    (k : ∀ s', DS s₀ ev LL oL p q r rs as ms m cm s' → Wx prog w (A.mark (some (.ref e))) (execs (b₀ :: suite) ev) Q (fun _ _ => False) s') :
    wpAny (model prog w) A (noteFrame (.ref e) ev) (fun _ s₂ => wpAny (model prog w) A (setFlight (.ref e) none) (fun _ s₃ =>
      wpAny (model prog w) A (handleBy (.ref e) ev (.ExceptHandler (some (.Name (Str.ofString "ValueError") np)) none (b₀ :: suite) pos :: rest)) Q (fun _ _ => False) s₃) (fun _ _ => False) s₂) (fun _ _ => False) { s with heap := h, toks := tk } := by
  obtain ⟨ob, t, he, hcls, hd⟩ := hx.there
  obtain ⟨sl, hLL⟩ := Z.fr
  obtain ⟨es, ep, hLd⟩ := C.dd
  let base := hideAll s.heap [ev.locals, LL]
  have hbL : base.get? ev.locals = none := hideAll_none _ (.head _)
  have hbLL : base.get? LL = none := hideAll_none _ (.tail _ (.head _))
  have hbk : ∀ b o, s.heap.get? b = some o → b ≠ ev.locals → b ≠ LL → base.get? b = some o := fun b o hb n1 n2 => hideAll_get _ hb (by simp; exact ⟨n1, n2⟩)
  have hkb : base.StaysIn h := fun b o hb => hx.keeps b o (of_hideAll _ hb)
  have hen : base.get? e = none := by
    cases hq : base.get? e with
    | none => rfl
    | some o => have := of_hideAll _ hq; rw [hx.new] at this; cases this
  obtain ⟨oo, es', ep', hoo, hod, hor⟩ := Z.F.ns
  have hff : h.FunFrames base [ev, el] := by
    refine ⟨C.evk, ⟨_, oo, C.evf, hbL, hx.keeps _ _ hoo, fun vs e => by rw [hod] at e; cases e⟩, C.elk, ⟨_, _, C.elf, hbLL, hx.keeps _ _ hLL, fun vs e => ?_⟩, trivial⟩
    have e' : oL.data = .fields vs := e
    rw [hLd] at e'; cases e'
  refine note_first (s := { s with heap := h, toks := tk }) (a0 := t) C.frs hff C.evf he hkb hen hd rfl rfl fun h₁ hN => ?_
  rw [hcls] at hN
  obtain ⟨k1, k2, k3, k4⟩ := hN
  refine wpAny_landsW (s := { s with heap := h₁, toks := tk }) (base := base) (l := [ev, el]) ⟨k1, hen, k2, k3⟩ fun h₂ fl₂ up₂ => ?_
  have zmk : ∀ h' , base.StaysIn h' → s.heap.UpToSlots h' → DS s₀ ev LL oL p q r rs as ms m cm { s with heap := h', toks := tk } := by
    intro h' st up
    obtain ⟨ie, e1, e2⟩ := Z.le
    obtain ⟨ia, a1, a2⟩ := Z.la
    obtain ⟨im, m1, m2⟩ := Z.lm
    have ne := Z.notSeq C e1
    have na := Z.notSeq C a1
    have nm := Z.notSeq C m1
    refine ⟨⟨Z.F.kind, ?_, up.ns Z.F.ns, (fun n c e => by rw [C.cs] at e; cases e), Z.F.apart, fun b o e => st b o (hbk b o (Z.F.keep b o e) (fun q => by rw [q, Z.F.newL] at e; cases e) (fun q => by rw [q, C.nL] at e; cases e)), Z.F.newL, Z.F.newC⟩, Z.me, Z.ma, Z.mm, ⟨ie, e1.at fun o e => st _ o (hbk _ o e ne.2 ne.1), e2⟩, ⟨ia, a1.at fun o e => st _ o (hbk _ o e na.2 na.1), a2⟩, ⟨im, m1.at fun o e => st _ o (hbk _ o e nm.2 nm.1), m2⟩, ?_⟩
    · obtain ⟨h₁, tk₁, rfl⟩ := Z.F.same; exact ⟨h', tk, rfl⟩
    · obtain ⟨sl', e⟩ := up _ _ hLL (fun vs e => by
        have e' : oL.data = .fields vs := e
        rw [hLd] at e'; cases e')
      exact ⟨sl', e⟩
  have up1 : s.heap.UpToSlots h₁ := (Heap.UpToSlots.of_keeps hx.keeps).trans k4
  have Z₂ := zmk h₂ fl₂.1 (up1.trans up₂)
  obtain ⟨o₂, ho₂, hc₂⟩ := fl₂.there
  refine wpAny_handleBy_builtin (X := "ValueError") (T := "ValueError") (b := true) sub_VB sub_VT sub_VV (wpAny_Name ((sees_ValueError (C.B.up Z₂.F.keep) C.kv C.g C.b).load Z₂.F.kind ⟨rfl, ⟨o₂, ho₂, hc₂⟩, ?_⟩) (by decide))
  rw [if_pos rfl]
  refine lands_againW (s := { s with heap := h₂, toks := tk }) fl₂ fun h₃ fl₃ up₃ => ?_
  exact wpAny_mono (wx_out (k _ (zmk h₃ fl₃.1 ((up1.trans up₂).trans up₃)))) (fun _ _ x => x) fun _ _ x => x.elim
end
end MineQ
end

section
set_option Elab.async false
set_option maxRecDepth 100000
set_option linter.unusedVariables false
namespace MineQ
open PySem PySem.W PySem.Calls PyProof.Rows

def wBody : Stmt → List Stmt
  | .While _ b _ _ => b
  | _ => []
noncomputable def dWhile (w : World) : Stmt := nth (bodyAt w 75) 1
noncomputable def dTry (w : World) : Stmt := nth (wBody (dWhile w)) 1

section
variable {prog : Program} {w : World} {A : Around} {ev el : Env} {s₀ s : Shared} {m cm : Str → Option Value} {p q r LL : Addr} {oL : Obj} {rs as ms : List Str}

theorem DS.mutate_q {items : Array Value} {as' : List Str} {tk : Nat} {h' : Heap} (Z : DS s₀ ev LL oL p q r rs as ms m cm s) (C : DC w A s₀ ev el LL oL p q r) (hs : Heap.SameBut q s.heap h') (hl : h'.PlainList q items) (hp : Paired (fun u x => isS x u h') items.toList as') :
    DS s₀ ev LL oL p q r rs as' ms m cm { s with heap := h', toks := tk } := by
  obtain ⟨ia, ⟨na, a1⟩, a2⟩ := Z.la
  obtain ⟨ie, e1, e2⟩ := Z.le
  obtain ⟨im, m1, m2⟩ := Z.lm
  have nq := Z.notSeq C ⟨na, a1⟩
  refine ⟨Z.F.mutate a1 rfl C.nq hs, Z.me, Z.ma, Z.mm, ⟨ie, e1.extBut hs.extBut C.pq, e2⟩, ⟨_, hl, hp⟩, ⟨im, m1.extBut hs.extBut C.rq, m2⟩, ?_⟩
  obtain ⟨sl, e⟩ := Z.fr
  exact ⟨sl, hs.extBut _ _ (Ne.symm nq.1) e⟩
theorem DS.mutate_r {items : Array Value} {ms' : List Str} {s' : Shared} (Z : DS s₀ ev LL oL p q r rs as ms m cm s) (C : DC w A s₀ ev el LL oL p q r) (F' : Fn s₀ ev m cm s') (hs : Heap.SameBut r s.heap s'.heap) (hl : s'.heap.PlainList r items) (hp : Paired (fun u x => isS x u s'.heap) items.toList ms') :
    DS s₀ ev LL oL p q r rs as ms' m cm s' := by
  obtain ⟨ia, a1, a2⟩ := Z.la
  obtain ⟨ie, e1, e2⟩ := Z.le
  obtain ⟨im, m1, m2⟩ := Z.lm
  have nr := Z.notSeq C m1
  refine ⟨F', Z.me, Z.ma, Z.mm, ⟨ie, e1.extBut hs.extBut (Ne.symm C.rp), e2⟩, ⟨ia, a1.extBut hs.extBut (Ne.symm C.rq), a2⟩, ⟨_, hl, hp⟩, ?_⟩
  obtain ⟨sl, e⟩ := Z.fr
  exact ⟨sl, hs.extBut _ _ (Ne.symm nr.1) e⟩

theorem d_try {x : Str} {tx : Tok} (C : DC w A s₀ ev el LL oL p q r) (Z : DS s₀ ev LL oL p q r rs as ms m cm s) (hm : m (Str.ofString "item") = some (.str x tx)) (h1 : as.length ≤ 1000) (h2 : ms.length ≤ 1000) :
    wpAny (model prog w) A (exec (dTry w) ev) (fun f s' => f = .next ∧ DS s₀ ev LL oL p q r rs (if as.contains x then as.erase x else as) (if as.contains x then ms else ms ++ [x]) m cm s') (fun _ _ => False) s := by
  refine wpAny_Try_except (wpAny_execs_cons (wpAny_Expr ?_ C.ia rfl))
  obtain ⟨ia, ⟨na, a1⟩, a2⟩ := id Z.la
  have hsz : ia.size ≤ sizeLine := by rw [plist_size a2]; exact Nat.le_trans h1 (by decide)
  refine wpAny_Call_method rfl rfl rfl PySem.F.plainAttrs_list PySem.F.slot_list_remove PySem.F.type_list_remove (wpAny_Name ((Z.F.loc Z.ma C.ka).load Z.F.kind ?_) (by decide))
  refine ⟨⟨_, a1, rfl⟩, (by rintro a e; cases e; exact ⟨_, a1, rfl⟩), callWith_method1 ?_ rfl rfl⟩
  refine spliced_cons (wpAny_Name ((Z.F.loc hm C.ki).load Z.F.kind (spliced_nil ?_)) (by decide))
  have heq : ∀ y, y ∈ ia → MeetsSeq.EqGives y (.str x tx) (eqS x y) := fun y hy => by
    obtain ⟨i, hi, rfl⟩ := Array.mem_iff_getElem.mp hy
    obtain ⟨z, _, t', e⟩ := Paired.get' a2 (i := i) (a := ia[i]) (by simp [hi])
    rw [e]; exact SeqRoads2.EqGives.str z x t' tx
  cases hc : as.contains x with
  | true =>
    obtain ⟨j, hj, e1, e2, e3⟩ := paired_erase a2 hc
    refine call_meets PySem.F.slot_list_remove ⟨_, a1, rfl⟩ PySem.F.entry_list_remove (PySem.F.args_list_remove_2 _ _) (MeetsSeq.list_remove q ia na (.str x tx) (eqS x) heq j (by simpa using hj) (by simpa using e1) (fun i hi hlt => e2 i (by simpa using hi) hlt) hsz) ⟨a1, ?_⟩
    refine wpAny_execs_nil (wpAny_execs_nil ⟨rfl, ?_⟩)
    refine Z.mutate_q C (Heap.SameBut.update ..) (plain_map ⟨na, a1⟩ fun xs => xs.eraseIdxIfInBounds j) ?_
    rw [Array.toList_eraseIdxIfInBounds]
    exact e3
  | false =>
    have e0 := paired_none a2 hc
    refine call_meets PySem.F.slot_list_remove ⟨_, a1, rfl⟩ PySem.F.entry_list_remove (PySem.F.args_list_remove_2 _ _) (MeetsSeq.list_remove_none q ia na (.str x tx) (eqS x) heq (fun i hi => e0 i (by simpa using hi))) ⟨a1, C.hh, fun h' tk e hx => ?_⟩
    refine d_caught C Z hx fun s₁ Z₁ => ?_
    obtain ⟨im, m1, m2⟩ := id Z₁.lm
    refine x_append Z₁.F (Z₁.F.loc Z₁.mm C.km) m1 (by rw [plist_size m2]; omega) C.nr (P := isS x) (ev_name Z₁.F.kind (Z₁.F.loc hm C.ki) fun _ _ => ⟨tx, rfl⟩) (fun v h₁ s' k₁ hv hs F' hl' => x_nil ⟨rfl, ?_⟩) C.ia
    have Z₂ : DS s₀ ev LL oL p q r rs as ms m cm { s₁ with heap := h₁, toks := s₁.toks } := Z₁.keeps C (kmk k₁)
    refine Z₂.mutate_r C F' hs hl' ?_
    rw [Array.toList_push]
    exact Paired.snoc m2 hv
end
end MineQ
end

section
set_option Elab.async false
set_option maxRecDepth 100000
set_option linter.unusedVariables false
namespace MineQ
open PySem PySem.W PySem.Calls PyProof.Rows

section
variable {prog : Program} {w : World} {A : Around} {ev el : Env} {s₀ s : Shared} {m cm : Str → Option Value} {p q r LL : Addr} {oL : Obj} {rs as ms : List Str}

theorem d_while (C : DC w A s₀ ev el LL oL p q r) (Z : DS s₀ ev LL oL p q r rs as ms m cm s) (h1 : as.length ≤ 500) (h2 : rs.length + ms.length ≤ 500) :
    wpAny (model prog w) A (exec (dWhile w) ev) (fun f s' => f = .next ∧ ∃ m', DS s₀ ev LL oL p q r [] (diffF rs as ms).2 (diffF rs as ms).1 m' cm s') (fun _ _ => False) s := by
  refine wpAny_While (codeAny_whileLoop (fun n s' => ∃ rs' as' ms' m', n = rs'.length ∧ DS s₀ ev LL oL p q r rs' as' ms' m' cm s' ∧ diffF rs' as' ms' = diffF rs as ms ∧ as'.length ≤ 500 ∧ rs'.length + ms'.length ≤ 500) ?_ rs.length ⟨rs, as, ms, m, rfl, Z, rfl, h1, h2⟩)
  rintro n s' ⟨rs', as', ms', m', rfl, Z', he, b1, b2⟩
  obtain ⟨ie, e1, e2⟩ := id Z'.le
  have hsz := plist_size e2
  rw [List.length_reverse] at hsz
  refine wpAny_isTrue_value (wpAny_Name ((Z'.F.loc Z'.me C.ke).load Z'.F.kind (wpAny_truthy_list e1.isList (by omega) ?_)) (by decide))
  have Zt : DS s₀ ev LL oL p q r rs' as' ms' m' cm { s' with toks := s'.toks + 1 + 1 } := Z'.keeps C (kmk fun _ _ e => e)
  cases rs' with
  | nil =>
    have : ie.isEmpty = true := by
      have : ie.size = 0 := hsz
      simpa using this
    rw [this]
    simp only [Bool.not_true, Bool.false_eq_true, if_false]
    refine wpAny_execs_nil ⟨rfl, m', ?_⟩
    rw [← he]
    exact Zt
  | cons x rr =>
    have hne : ie.isEmpty = false := by
      have : ie.size ≠ 0 := by rw [hsz]; simp
      simpa using this
    rw [hne]
    simp only [Bool.not_false, if_true]
    rw [List.reverse_cons] at e2
    obtain ⟨pre, v, ep, hp, t, rfl⟩ := paired_split e2
    have hie : ie = pre.toArray.push (.str x t) := by
      apply Array.toList_inj.mp; rw [ep]; simp
    subst hie
    refine wx_out (x_pop Zt.F (Zt.F.loc Zt.me C.ke) e1 ?_ C.np (fun s₂ F₂ hl₂ z₂ => wx_of (wpAny_execs_cons ?_)) C.ki)
    · have := Paired.length hp; simp at this hsz; simp at b2; simp; omega
    have nc : ∀ b n, ev.cells.lookup n ≠ some b := fun b n e => by rw [C.cs] at e; cases e
    have Z₂ : DS s₀ ev LL oL p q r rr as' ms' (upd m' (Str.ofString "item") (.str x t)) cm s₂ := by
      obtain ⟨ia, a1, a2⟩ := Zt.la
      obtain ⟨im, m1, m2⟩ := Zt.lm
      have na := Zt.notSeq C a1
      have nm := Zt.notSeq C m1
      have np := Zt.notSeq C e1
      obtain ⟨sl, e⟩ := Zt.fr
      refine ⟨F₂, (upd_ne (by decide)).trans Zt.me, (upd_ne (by decide)).trans Zt.ma, (upd_ne (by decide)).trans Zt.mm, ⟨_, hl₂, hp⟩, ⟨ia, a1.at fun o e => z₂ _ o e na.2 (nc _) (Ne.symm C.pq), a2⟩, ⟨im, m1.at fun o e => z₂ _ o e nm.2 (nc _) C.rp, m2⟩, ⟨sl, z₂ _ _ e (Ne.symm C.ne) (nc _) (Ne.symm np.1)⟩⟩
    have hl1 : as'.length ≤ 500 := b1
    have hl2 : ms'.length ≤ 500 := by simp at b2; omega
    refine wpAny_mono (d_try (prog := prog) C Z₂ upd_eq (by omega) (by omega)) (fun f s₃ h₃ => ?_) fun _ _ e => e.elim
    obtain ⟨rfl, Z₃⟩ := h₃
    refine wpAny_execs_nil ⟨rr.length, by simp, rr, _, _, _, rfl, Z₃, ?_, ?_, ?_⟩
    · rw [← he]
      show _ = if as'.contains x then diffF rr (as'.erase x) ms' else diffF rr as' (ms' ++ [x])
      cases as'.contains x <;> rfl
    · split
      · exact Nat.le_trans (List.length_erase_le) b1
      · exact b1
    · simp at b2
      split
      · omega
      · simp; omega

/-- what a call of unorderable_list_difference leaves -/
structure DR (s : Shared) (LL : Addr) (oL : Obj) (p q : Addr) (ms as : List Str) (v : Value) (s' : Shared) : Prop where
  same : ∃ h tk, s' = { s with heap := h, toks := tk }
  val : ∃ t r, v = .ref t ∧ Heap.PT s'.heap t #[.ref r, .ref q] ∧ s.heap.get? r = none ∧ isL isS ms (.ref r) s'.heap ∧ isL isS as (.ref q) s'.heap
  keep : ∀ b o, s.heap.get? b = some o → b ≠ p → b ≠ q → b ≠ LL → s'.heap.get? b = some o
  fr : ∃ sl, s'.heap.get? LL = some { oL with slots := sl }

theorem c_diff {Hb : Heap} {es : List Str} (hh : A.handled = none) (hA : A.depth + 2 < recursionLimit) (hfr : A.frames = some [el]) (B : Bs w Hb) (hb : Sub Hb s.heap) (elf : el.frame = some LL) (elk : el.scope.kind ≠ .module)
    (hL : s.heap.get? LL = some oL) (dd : ∃ es ep, oL.data = .dict es ep) (hLn : Hb.get? LL = none) (hp : isL isS es (.ref p) s.heap) (hq : isL isS as (.ref q) s.heap) (pq : p ≠ q) (pn : Hb.get? p = none) (qn : Hb.get? q = none)
    (h1 : as.length ≤ 400) (h2 : es.length ≤ 400) {E : Value → Shared → Prop} :
    wpAny (model prog w) A (call (.ref 75) [.ref p, .ref q]) (DR s LL oL p q (diffF es.reverse as []).1 (diffF es.reverse as []).2) E s := by
  have B0 : Bs w s.heap := B.up hb
  refine wp_fn (fd := fdAt w 75) (by omega) (B0.X _ _ (look75 w)) (data75 w) B0.lim (codeRec_of B0.X (code75 w)) (body75 w) (bind75 w _ _) rfl (by intro x hx; simp at hx; rcases hx with rfl | rfl <;> exact Or.inl rfl) (fun s₁ F => ?_)
  generalize hLs : s.heap.objs.size = L at F ⊢
  let s₀ : Shared := { s with heap := hideAll s.heap [p, q, LL] }
  have h0 : ∀ b, s.heap.get? b = none → s₀.heap.get? b = none := fun b e => by
    cases hq : s₀.heap.get? b with
    | none => rfl
    | some o => have := of_hideAll _ hq; rw [this] at e; cases e
  have hbs : Sub Hb s₀.heap := fun b o e => hideAll_get _ (hb b o e) (by
    simp only [List.mem_cons, List.not_mem_nil, or_false, not_or]
    refine ⟨?_, ?_, ?_⟩ <;> rintro rfl
    · rw [pn] at e; cases e
    · rw [qn] at e; cases e
    · rw [hLn] at e; cases e)
  have F0 : ∀ {m cm s₁}, Fn s (callEnvC (fdAt w 75) L 75) m cm s₁ → Fn s₀ (callEnvC (fdAt w 75) L 75) m cm s₁ := fun F => ⟨F.kind, F.same, F.ns, F.cell, F.apart, fun b o e => F.keep b o (of_hideAll _ e), h0 _ F.newL, fun n c e => h0 _ (F.newC n c e)⟩
  refine x_assign F (P := fun v h => isL isS [] v h ∧ ∀ a, v = .ref a → s₁.heap.get? a = none) (evf_list (R := isS) (xs := []) (fun x => mono_S x) (es_nil fun _ _ => Paired.nil) (by decide)).new (mono_new (mono_L (fun x => mono_S x) [])) (fun v s₂ F₂ q₂ z₂ hv => ?_)
  obtain ⟨⟨r, ir, rfl, hr, hpr⟩, hnew⟩ := hv
  have rn : s.heap.get? r = none := sub_none F.keep (hnew r rfl)
  obtain ⟨_, ip, e, hp1, hp2⟩ := hp; cases e
  obtain ⟨_, iq, e, hq1, hq2⟩ := hq; cases e
  have pl : ∃ o, s.heap.get? p = some o := let ⟨n, e⟩ := hp1; ⟨_, e⟩
  have ql : ∃ o, s.heap.get? q = some o := let ⟨n, e⟩ := hq1; ⟨_, e⟩
  have C : DC w (A.deeper (callEnvC (fdAt w 75) L 75)) s₀ (callEnvC (fdAt w 75) L 75) el LL oL p q r := by
    refine ⟨B.up hbs, hh, Around.frames_deeper hfr, rfl, elf, (fun e => by have : ScopeKind.function = ScopeKind.module := e; cases this), elk, rfl, dd, ?_, pq, ?_, ?_, hideAll_none _ (.head _), hideAll_none _ (.tail _ (.head _)), h0 _ rn, hideAll_none _ (.tail _ (.tail _ (.head _))), rfl, rfl, rfl, rfl, rfl, rfl, rfl, rfl⟩
    · intro e
      have : s.heap.get? L = none := F.newL
      rw [show (callEnvC (fdAt w 75) L 75).locals = L from rfl] at e
      rw [e, hL] at this; cases this
    · rintro rfl; obtain ⟨o, e⟩ := pl; rw [rn] at e; cases e
    · rintro rfl; obtain ⟨o, e⟩ := ql; rw [rn] at e; cases e
  have Z : DS s₀ (callEnvC (fdAt w 75) L 75) LL oL p q r es.reverse as [] _ _ s₂ := ⟨F0 F₂, rfl, rfl, rfl, ⟨ip, hp1.at fun o e => F₂.keep _ o e, by rw [List.reverse_reverse]; exact hp2⟩, ⟨iq, hq1.at fun o e => F₂.keep _ o e, hq2⟩, ⟨ir, hr, hpr⟩, ⟨oL.slots, F₂.keep _ _ hL⟩⟩
  refine wx_of (wpAny_execs_cons ?_)
  refine wpAny_mono (d_while (prog := prog) C Z (by omega) (by simp; omega)) (fun f s₃ h₃ => ?_) fun _ _ e => e.elim
  obtain ⟨rfl, m', Z₃⟩ := h₃
  refine wx_out (x_return (P := isP2 isV isV (.ref r, .ref q)) (evf_pair mono_V mono_V (ev_name rfl (Z₃.F.loc Z₃.mm) fun _ _ => rfl) (ev_name rfl (Z₃.F.loc Z₃.ma) fun _ _ => rfl)).ev fun v s' hv k => ⟨v, rfl, ?_⟩)
  obtain ⟨t, v1, v2, rfl, hT, e1, e2⟩ := hv
  have e1' : v1 = .ref r := e1
  have e2' : v2 = .ref q := e2
  subst e1' e2'
  have Z₄ := Z₃.keeps C k
  refine ⟨?_, ⟨t, r, rfl, hT, rn, ?_, ?_⟩, fun b o e n1 n2 n3 => Z₄.F.keep b o (hideAll_get _ e (by simp; exact ⟨n1, n2, n3⟩)), Z₄.fr⟩
  · obtain ⟨h, tk, e⟩ := Z₄.F.same; exact ⟨h, tk, e⟩
  · obtain ⟨i, a1, a2⟩ := Z₄.lm; exact ⟨r, i, rfl, a1, a2⟩
  · obtain ⟨i, a1, a2⟩ := Z₄.la; exact ⟨q, i, rfl, a1, a2⟩
end
end MineQ
end

section
set_option Elab.async false
set_option maxRecDepth 100000
set_option linter.unusedVariables false
namespace MineQ
open PySem PySem.W PySem.Calls PyProof.Rows

theorem range_all_eq {xs ys : List Str} (h : xs.length = ys.length) : (List.range xs.length).all (fun j => xs[j]? == ys[j]?) = (xs == ys) := by
  by_cases e : xs = ys
  · subst e; simp
  · have : (xs == ys) = false := by simpa using e
    rw [this]
    rw [List.all_eq_false]
    apply Classical.byContradiction
    intro hn
    apply e
    apply List.ext_getElem? fun j => ?_
    by_cases hj : j < xs.length
    · apply Classical.byContradiction
      intro hne
      exact hn ⟨j, by simpa using hj, by simpa using hne⟩
    · rw [List.getElem?_eq_none (by omega), List.getElem?_eq_none (by omega)]

section
variable {prog : Program} {w : World} {A : Around} {env : Env} {H : Heap} {s : Shared}
theorem g_neS {xs ys : List Str} {va vb : Value} (hu : A.units < cLine) (ha : isL isS xs va s.heap) (hb : isL isS ys vb s.heap) : Gv prog w A (compareOp .NotEq va vb) (isB (xs != ys)) s := fun E => by
  obtain ⟨a, ia, rfl, hla, hpa⟩ := ha
  obtain ⟨b, ib, rfl, hlb, hpb⟩ := hb
  have sa := plist_size hpa
  have sb := plist_size hpb
  by_cases hl : xs.length = ys.length
  · refine PySem.SeqAt.RcNeAt.lists (e := fun j => xs[j]? == ys[j]?) hla.isList hlb.isList (by omega) hu (fun j h1 h2 => ?_) prog w E _ ⟨?_, krefl⟩
    · obtain ⟨x, ex, t, e1⟩ := Paired.get' hpa (i := j) (a := ia[j]) (by simp [h1])
      obtain ⟨y, ey, u, e2⟩ := Paired.get' hpb (i := j) (a := ib[j]) (by simp [h2])
      rw [e1, e2, ex, ey]
      intro prog w E Q hQ
      refine SeqRoads2.EqGives.str x y t u prog w _ E s Q ?_
      rw [str_beq]
      simpa using hQ
    · show Value.bool _ = Value.bool _
      rw [sa, range_all_eq hl]; rfl
  · refine PySem.SeqAt.RcNeAt.lists_lengths hla.isList hlb.isList (by rw [sa, sb]; simpa using hl) hu prog w E _ ⟨?_, krefl⟩
    show Value.bool _ = Value.bool _
    have : xs ≠ ys := fun e => hl (by rw [e])
    simpa using this
end
end MineQ
end

section
set_option Elab.async false
set_option maxRecDepth 100000
set_option linter.unusedVariables false
namespace MineQ
open PySem PySem.W PySem.Calls PyProof.Rows

theorem strsAre_of {h : Heap} : ∀ {vs : List Value} {xs : List Str}, Paired (fun u x => isS x u h) vs xs → StrsAre vs xs
  | _, _, .nil => .nil
  | _, _, .cons hx t => by obtain ⟨tk, rfl⟩ := hx; exact .cons _ tk (strsAre_of t)
theorem of_strsAre {h : Heap} : ∀ {vs : List Value} {xs : List Str}, StrsAre vs xs → Paired (fun u x => isS x u h) vs xs
  | _, _, .nil => .nil
  | _, _, .cons x t r => .cons ⟨t, rfl⟩ (of_strsAre r)
def isSorted (xs : List Str) : VP := fun v h => ∃ ss, isL isS ss v h ∧ ss.Perm xs ∧ sortedS ss = true
theorem mono_sorted (xs : List Str) : Mono (isSorted xs) := fun v h h' q ⟨ss, a, b⟩ => ⟨ss, mono_L (fun x => mono_S x) ss v h h' q a, b⟩

section
variable {prog : Program} {w : World} {A : Around} {env : Env} {H : Heap} {s : Shared}
theorem g_sorted {xs : List Str} {v : Value} (hx : xs.length < 64) (hv : isL isS xs v s.heap) : Gv prog w A (call (.builtin "sorted") [v]) (isSorted xs) s := fun E => by
  obtain ⟨a, ia, rfl, hla, hpa⟩ := hv
  have sa := plist_size hpa
  refine sorted_strs (vs := ia.toList) (by simpa using hla.isList) (strsAre_of hpa) (by simpa [sa] using hx) fun out ss' h1 h2 h3 => ?_
  obtain ⟨e, he⟩ := sortedAll_at s.heap ia.toList out
  exact ⟨⟨ss', ⟨_, out, rfl, ⟨_, he⟩, of_strsAre h1⟩, h2, h3⟩, kmk (tk := s.toks) fun b o e => sortedAll_old e⟩

theorem pt_tup {h : Heap} {a : Addr} {items : Array Value} (x : Heap.PT h a items) : h.IsTuple a items := let ⟨n, e⟩ := x; ⟨_, e, rfl, n, rfl⟩
theorem pair_all (p q : Int × Int) : ((List.range (min 2 2)).all (fun j => if j = 0 then p.1 == q.1 else p.2 == q.2) && (2 == 2)) = (p == q) := by
  obtain ⟨a, b⟩ := p
  obtain ⟨c, d⟩ := q
  show (([0, 1] : List Nat).all (fun j => if j = 0 then a == c else b == d) && true) = (a == c && b == d)
  simp
theorem pair_eqAt {p q : Int × Int} {t1 t2 u1 u2 : Tok} : ∀ j (h1 : j < (#[Value.int p.1 t1, Value.int p.2 t2]).size) (h2 : j < (#[Value.int q.1 u1, Value.int q.2 u2]).size),
    PySem.SeqAt.EqAt A.in1 s (#[Value.int p.1 t1, Value.int p.2 t2])[j] (#[Value.int q.1 u1, Value.int q.2 u2])[j] (if j = 0 then p.1 == q.1 else p.2 == q.2) := by
  intro j h1 h2 prog w E Q hQ
  match j, h1 with
  | 0, _ => exact MeetsSeq.EqGives.int _ _ _ _ prog w _ E s Q hQ
  | 1, _ => exact MeetsSeq.EqGives.int _ _ _ _ prog w _ E s Q hQ
theorem g_eqP {p q : Int × Int} {va vb : Value} (hu : A.units < cLine) (ha : isP2 isI isI p va s.heap) (hb : isP2 isI isI q vb s.heap) : Gv prog w A (compareOp .Eq va vb) (isB (p == q)) s := fun E => by
  obtain ⟨a, v1, v2, rfl, hT, ⟨t1, rfl⟩, ⟨t2, rfl⟩⟩ := ha
  obtain ⟨b, w1, w2, rfl, hU, ⟨u1, rfl⟩, ⟨u2, rfl⟩⟩ := hb
  refine PySem.SeqAt.RcAt.tuples (e := fun j => if j = 0 then p.1 == q.1 else p.2 == q.2) (pt_tup hT) (pt_tup hU) hu pair_eqAt prog w E _ ⟨?_, krefl⟩
  show Value.bool _ = Value.bool _
  rw [← pair_all]; rfl
theorem g_neP {p q : Int × Int} {va vb : Value} (hu : A.units < cLine) (ha : isP2 isI isI p va s.heap) (hb : isP2 isI isI q vb s.heap) : Gv prog w A (compareOp .NotEq va vb) (isB (p != q)) s := fun E => by
  obtain ⟨a, v1, v2, rfl, hT, ⟨t1, rfl⟩, ⟨t2, rfl⟩⟩ := ha
  obtain ⟨b, w1, w2, rfl, hU, ⟨u1, rfl⟩, ⟨u2, rfl⟩⟩ := hb
  refine PySem.SeqAt.RcNeAt.tuples (e := fun j => if j = 0 then p.1 == q.1 else p.2 == q.2) (pt_tup hT) (pt_tup hU) hu pair_eqAt prog w E _ ⟨?_, krefl⟩
  show Value.bool _ = Value.bool _
  rw [show (p != q) = !(p == q) from rfl, ← pair_all]; rfl

def ltP (p q : Int × Int) : Bool := if p.1 == q.1 then decide (p.2 < q.2) else decide (p.1 < q.1)
theorem lt_ints {a b : Int} {t u : Tok} {Q : Value → Shared → Prop} {E : Value → Shared → Prop} (h : Q (.bool (decide (a < b))) s) : wpAny (model prog w) A (richCompare .Lt (.int a t) (.int b u)) Q E s :=
  richCompare_gives (op := .Lt) (typeIs_int s _ t) (typeIs_int s _ u) F.slot_int_lt F.entry_int_lt (F.args_int_lt_2 _ _) (gives_int_lt _ _ t u) (fun x => nomatch x) h
theorem meets_ltP (l b : Addr) (p q : Int × Int) (t1 t2 u1 u2 : Tok) (n n2 : Nat) :
    Meets (Builtin.«tuple.__lt__» ⟨[.ref l, .ref b], []⟩)
      (fun A R s => s.heap.get? l = some { cls := .type "tuple", data := .seq #[.int p.1 t1, .int p.2 t2] n } ∧ s.heap.get? b = some { cls := .type "tuple", data := .seq #[.int q.1 u1, .int q.2 u2] n2 } ∧
        R (.ok (.ret (.bool (ltP p q)))) s) := by
  refine .of_wp fun prog w A R s h => ?_
  obtain ⟨hl, hb, h⟩ := h
  show wpAny _ _ (isInstance (.ref b) (.type "tuple") >>= _) _ _ s
  refine wpAny_bind (wpAny_isInstance ⟨_, hb, rfl⟩ isSubtype_tuple_tuple ?_)
  simp only [Bool.not_true, Bool.false_eq_true, if_false]
  refine wpAny_bind (wpAny_tupleItemsOf hl rfl ?_)
  refine wpAny_bind (wpAny_tupleItemsOf hb rfl ?_)
  refine wpAny_bind ?_
  show wpAny _ _ (forIn [(Value.int p.1 t1, Value.int q.1 u1), (Value.int p.2 t2, Value.int q.2 u2)] _ _) _ _ s
  rw [List.forIn_cons]
  refine wpAny_bind (wpAny_bind (MeetsSeq.EqGives.int _ _ _ _ prog w _ _ s _ ?_))
  unfold ltP at h
  cases h1 : p.1 == q.1 with
  | true =>
    rw [h1] at h
    simp only [Bool.not_true, Bool.false_eq_true, if_false, if_true] at h ⊢
    refine wpAny_pure ?_
    dsimp only
    rw [List.forIn_cons]
    refine wpAny_bind (wpAny_bind (MeetsSeq.EqGives.int _ _ _ _ prog w _ _ s _ ?_))
    cases h2 : p.2 == q.2 with
    | true =>
      simp only [Bool.not_true, Bool.false_eq_true, if_false, if_true]
      refine wpAny_pure ?_
      dsimp only
      rw [List.forIn_nil]
      have e2 : decide (p.2 < q.2) = false := by
        have : p.2 = q.2 := by simpa using h2
        rw [this]; simp
      rw [e2] at h
      exact wpAny_pure (wpAny_pure ⟨_, rfl, h⟩)
    | false =>
      simp only [Bool.not_false, Bool.false_eq_true, if_false, if_true]
      exact wpAny_bind (wpAny_rule (wpAny_bind (lt_ints (wpAny_bind (wpAny_pure (wpAny_pure (wpAny_pure (wpAny_pure ⟨_, rfl, h⟩))))))))
  | false =>
    rw [h1] at h
    simp only [Bool.not_false, Bool.false_eq_true, if_false, if_true] at h ⊢
    exact wpAny_bind (wpAny_rule (wpAny_bind (lt_ints (wpAny_bind (wpAny_pure (wpAny_pure (wpAny_pure (wpAny_pure ⟨_, rfl, h⟩))))))))
theorem g_ltP {p q : Int × Int} {va vb : Value} {Q : Value → Shared → Prop} {E : Value → Shared → Prop} (hu : A.units < cLine) (ha : isP2 isI isI p va s.heap) (hb : isP2 isI isI q vb s.heap) (hQ : Q (.bool (ltP p q)) s) : wpAny (model prog w) A (richCompare .Lt va vb) Q E s := by
  obtain ⟨a, v1, v2, rfl, ⟨n, hT⟩, ⟨t1, rfl⟩, ⟨t2, rfl⟩⟩ := ha
  obtain ⟨b, w1, w2, rfl, ⟨n2, hU⟩, ⟨u1, rfl⟩, ⟨u2, rfl⟩⟩ := hb
  exact richCompare_meets_room (op := .Lt) ⟨_, hT, rfl⟩ ⟨_, hU, rfl⟩ F.slot_tuple_lt F.entry_tuple_lt (F.args_tuple_lt_2 _ _) (meets_ltP a b p q t1 t2 u1 u2 n n2)
    ⟨hT, hU, show Value.bool (ltP p q) ≠ Value.notImplemented ∧ Q (.bool (ltP p q)) s from ⟨(fun x => nomatch x), hQ⟩⟩ hu
end
end MineQ
end

section
set_option Elab.async false
set_option maxRecDepth 100000
set_option linter.unusedVariables false
namespace MineQ
open PySem PySem.W PySem.Calls PyProof.Rows

def bestOf {α : Type} (lt : α → α → Bool) (x : α) (r : List α) : α := r.foldl (fun m y => if lt y m then y else m) x
theorem bestOf_snoc {α : Type} (lt : α → α → Bool) (x : α) (r : List α) (y : α) : bestOf lt x (r ++ [y]) = if lt y (bestOf lt x r) then y else bestOf lt x r := by unfold bestOf; rw [List.foldl_append]; rfl

section
variable {prog : Program} {w : World} {A : Around} {α : Type} {x0 : α} {xs : List α} {R : α → VP} {lt : α → α → Bool} {I S : Addr} {fp wr : List Addr} {P : Nat → Value → Prop} {St : Nat → Heap → Prop} {G : Heap} {RR : Result → Shared → Prop}
theorem q_min_loop (W : Walks prog w A.in1 I fp wr (x0 :: xs).length P St) (hR : ∀ x, Mono (R x)) (hcmp : ∀ s a b va vb Q E, R a va s.heap → R b vb s.heap → Q (.bool (lt a b)) s → wpAny (model prog w) A.in1 (richCompare .Lt va vb) Q E s)
    (hwr : ∀ b ∈ wr, ∃ o, G.get? b = some o ∧ ∀ xs n, o.data ≠ .seq xs n) (hit : ∀ i v, i < (x0 :: xs).length → P i v → ∃ x, (x0 :: xs)[i]? = some x ∧ R x v G) (hSf : S ∉ fp) (hSG : G.get? S = none) :
    ∀ (k j : Nat) (s : Shared) (vb : Value) (c : Nat), xs.length - j = k → j ≤ xs.length → St (j + 1) s.heap → R (bestOf lt x0 (xs.take j)) vb G →
    s.heap.get? S = some { cls := .type "list", dict := none, data := .seq #[vb, vb] c, slots := #[] } → (∀ b o, G.get? b = some o → b ∉ wr → s.heap.get? b = some o) →
    (∀ v h' tk, R (bestOf lt x0 xs) v G → (∀ b o, G.get? b = some o → b ∉ wr → h'.get? b = some o) → RR (.ok (.ret v)) { s with heap := h', toks := tk }) →
    codeAny (model prog w) A (.builtin "min.loop" ⟨[.ref I, .none, .ref S], []⟩) RR s := by
  have hSw : S ∉ wr := fun h => hSf (W.sub _ h)
  have hname : (toString "min" ++ toString ".loop" : String) = "min.loop" := by decide
  have toQ : ∀ h', (∀ b o, G.get? b = some o → b ∉ wr → h'.get? b = some o) → SubQ G h' := fun h' kk b o ys n e d => kk b o e fun hb => by
    obtain ⟨o', e', hn⟩ := hwr b hb
    rw [e'] at e; cases e; exact hn _ _ d
  intro k
  induction k with
  | zero =>
    intro j s vb c hk hj hst hPb hS hkeep hRR
    have hin : j = xs.length := by omega
    subst hin
    rw [List.take_length] at hPb
    refine codeAny_builtin F.entry_min_loop ?_
    rw [Around.under_plainId F.plain_min_loop _]
    show wpAny _ A.in1 (seqItems? (.ref S) >>= _) _ _ s
    refine wpAny_bind (wpAny_seqItems hS rfl ?_)
    show wpAny _ A.in1 (tryCatch (pyNext (.ref I)) _ >>= _) _ _ s
    refine wpAny_bind (wpAny_tryCatch (W.done s _ _ (by simpa using hst) fun h' tk hk' => ?_))
    have hS' := hk' S _ hSw hS
    show wpAny _ A.in1 (updateSeq S (fun _ => #[]) >>= _) _ _ _
    refine wpAny_bind (wpAny_updateSeq hS' rfl (wpAny_bind (wpAny_letGo (wpAny_pure ?_))))
    exact hRR vb _ tk hPb fun b o e hb => (Heap.get?_update_other _ _ (fun q : S = b => by rw [← q, hSG] at e; cases e)).trans (hk' b o hb (hkeep b o e hb))
  | succ k ih =>
    intro j s vb c hk hj hst hPb hS hkeep hRR
    have hlt : j < xs.length := by omega
    refine codeAny_builtin F.entry_min_loop ?_
    rw [Around.under_plainId F.plain_min_loop _]
    show wpAny _ A.in1 (seqItems? (.ref S) >>= _) _ _ s
    refine wpAny_bind (wpAny_seqItems hS rfl ?_)
    show wpAny _ A.in1 (tryCatch (pyNext (.ref I)) _ >>= _) _ _ s
    refine wpAny_bind (wpAny_tryCatch (W.item (j + 1) s _ _ (by simpa using hlt) hst fun v h' tk hP hst' hk' => ?_))
    obtain ⟨x, ex, hx⟩ := hit (j + 1) v (by simpa using hlt) hP
    have ex' : xs[j]? = some x := by simpa using ex
    have hS' := hk' S _ hSw hS
    have kk' : ∀ b o, G.get? b = some o → b ∉ wr → h'.get? b = some o := fun b o e hb => hk' b o hb (hkeep b o e hb)
    have Q' := toQ _ kk'
    have htake : xs.take (j + 1) = xs.take j ++ [x] := by rw [List.take_add_one, ex']; rfl
    show wpAny _ A.in1 (tryCatch (holding [v, v] (richCompare .Lt v vb >>= _)) _ >>= _) _ _ _
    refine wpAny_bind (wpAny_tryCatch (wpAny_holding (wpAny_bind (hcmp _ x (bestOf lt x0 (xs.take j)) v vb _ _ (hR _ _ _ _ Q' hx) (hR _ _ _ _ Q' hPb) ?_))))
    refine wpAny_bind (wpAny_holding (wpAny_truthy_bool ?_))
    refine wpAny_bind (wpAny_letGo (wpAny_pure ?_))
    have hbest := bestOf_snoc lt x0 (xs.take j) x
    rw [← htake] at hbest
    cases hb : lt x (bestOf lt x0 (xs.take j)) with
    | true =>
      rw [hb] at hbest
      simp only [if_true] at hbest ⊢
      refine wpAny_bind ?_
      refine wpAny_updateSeq hS' rfl (wpAny_bind (wpAny_letGo ?_))
      rw [hname]
      refine wpAny_pure ⟨plainId_quiet F.plain_min_loop _, ih (j + 1) _ v _ (by omega) hlt (W.frame _ _ _ hst' fun b hbf o e => ?_) (by rw [hbest]; exact hx) (Heap.get?_update_self _ hS' rfl) (fun b o e hb => (Heap.get?_update_other _ _ (fun q : S = b => by rw [← q, hSG] at e; cases e)).trans (kk' b o e hb)) fun v' h'' tk'' hP' hk'' => hRR v' h'' tk'' hP' hk''⟩
      exact (Heap.get?_update_other _ _ (fun h : S = b => hSf (by rw [h]; exact hbf))).trans e
    | false =>
      rw [hb] at hbest
      simp only [Bool.false_eq_true, if_false] at hbest ⊢
      refine wpAny_bind (wpAny_letGo ?_)
      rw [hname]
      exact wpAny_pure ⟨plainId_quiet F.plain_min_loop _, ih (j + 1) _ vb c (by omega) hlt hst' (by rw [hbest]; exact hPb) hS' kk' fun v' h'' tk'' hP' hk'' => hRR v' h'' tk'' hP' hk''⟩
end

section
variable {prog : Program} {w : World} {A : Around} {s : Shared} {α : Type} {x0 : α} {xs : List α} {R : α → VP} {lt : α → α → Bool}
theorem g_min {v : Value} (hh : A.handled = none) (hR : ∀ x, Mono (R x)) (hcmp : ∀ s a b va vb Q E, R a va s.heap → R b vb s.heap → Q (.bool (lt a b)) s → wpAny (model prog w) A.in1 (richCompare .Lt va vb) Q E s)
    (hv : isL R (x0 :: xs) v s.heap) : Gv prog w A (call (.builtin "min") [v]) (R (bestOf lt x0 xs)) s := fun E => by
  have hname : (toString "min" ++ toString ".loop" : String) = "min.loop" := by decide
  refine call_function_tree F.kind_min F.plain_min F.entry_min (F.args_min1 _) ?_
  show wpAny _ A.in1 (Builtin.Builtins.bindParams "min" ["key", "default"] 0 ⟨[], []⟩ >>= _) _ _ s
  refine wpAny_bind (wpAny_of_eq (show Builtin.Builtins.bindParams "min" ["key", "default"] 0 ⟨[], []⟩ = pure [none, none] from rfl) ?_)
  refine wpAny_bind (wpAny_pure ?_)
  refine wpAny_bind (wpAny_mono (it_list (A := A.in1) hh hR hv _) (fun it s₂ h₂ => ?_) fun _ _ e => e)
  obtain ⟨k, I, fp, wr, P, St, rfl, W, hst, hfp, hwr, hlive, hit⟩ := h₂
  refine wpAny_bind (wpAny_newObj_type ?_)
  have hSf : s₂.heap.objs.size ∉ fp := fun hm => Nat.lt_irrefl _ (hfp _ hm).1
  have hSw : s₂.heap.objs.size ∉ wr := fun h => hSf (W.sub _ h)
  rw [hname]
  refine wpAny_pure ⟨plainId_quiet F.plain_min_loop _, ?_⟩
  refine codeAny_builtin F.entry_min_loop ?_
  rw [Around.under_plainId F.plain_min_loop _]
  have hS0 := Heap.get?_push_size s₂.heap (o := { cls := .type "list", dict := none, data := .seq ([] : List Value).toArray }) rfl
  show wpAny _ A.in1 (seqItems? (.ref s₂.heap.objs.size) >>= _) _ _ _
  refine wpAny_bind (wpAny_seqItems hS0 rfl ?_)
  show wpAny _ A.in1 (tryCatch (pyNext (.ref I)) _ >>= _) _ _ _
  refine wpAny_bind (wpAny_tryCatch (W.item 0 _ _ _ (by simp) (W.frame _ _ _ hst fun b _ o e => Heap.get?_push_of_some _ e) fun v h' tk hP hst' hk' => ?_))
  obtain ⟨x, ex, hx⟩ := hit 0 v (by simp) hP
  simp at ex
  subst ex
  have hS' := hk' _ _ hSw hS0
  show wpAny _ A.in1 (updateSeq s₂.heap.objs.size (fun _ => #[v, v]) >>= _) _ _ _
  refine wpAny_bind (wpAny_updateSeq hS' rfl ?_)
  rw [hname]
  refine wpAny_pure ⟨plainId_quiet F.plain_min_loop _, q_min_loop (G := s₂.heap) W hR hcmp (fun b hb => (hwr b hb).2) hit hSf fresh_size _ 0 _ v _ rfl (Nat.zero_le _) (W.frame _ _ _ hst' fun b hbf o e => ?_) hx (Heap.get?_update_self _ hS' rfl) (fun b o e hb => ?_) fun v' h'' tk'' hP' hk'' => ⟨?_, ?_⟩⟩
  · exact (Heap.get?_update_other _ _ (fun h => hSf (by rw [h]; exact hbf))).trans e
  · exact (Heap.get?_update_other _ _ (Nat.ne_of_gt (Heap.lt_size e))).trans (hk' b o hb (Heap.get?_push_of_some _ e))
  · refine hR _ _ _ _ (fun b o ys n e d => hk'' b o e fun hb => ?_) hP'
    obtain ⟨o', e', hn⟩ := (hwr b hb).2
    rw [e'] at e; cases e; exact hn _ _ d
  · obtain ⟨g, tg, rfl, kg⟩ := k
    exact kmk fun b o e => hk'' b o (kg b o e) fun hb => by rw [(hwr b hb).1] at e; cases e
theorem g_minI {v : Value} {x0 : Int} {xs : List Int} (hh : A.handled = none) (hv : isL isI (x0 :: xs) v s.heap) : Gv prog w A (call (.builtin "min") [v]) (isI (bestOf (fun a b => decide (a < b)) x0 xs)) s :=
  g_min hh (fun x => mono_I x) (by rintro s a b va vb Q E ⟨t, rfl⟩ ⟨u, rfl⟩ hQ; exact lt_ints hQ) hv
theorem g_minP {v : Value} {x0 : Int × Int} {xs : List (Int × Int)} (hh : A.handled = none) (hu : A.units + 1 < cLine) (hv : isL (isP2 isI isI) (x0 :: xs) v s.heap) : Gv prog w A (call (.builtin "min") [v]) (isP2 isI isI (bestOf ltP x0 xs)) s :=
  g_min hh (mono_P2 (fun x => mono_I x) (fun x => mono_I x)) (fun s a b va vb Q E ha hb hQ => g_ltP hu ha hb hQ) hv
end
end MineQ
end

section
set_option Elab.async false
set_option maxRecDepth 100000
set_option linter.unusedVariables false
namespace MineQ
open PySem PySem.W PySem.Calls PyProof.Rows

section
variable {prog : Program} {w : World} {A : Around} {s : Shared}
theorem compP_loop {β : Type} {xs : List (Int × Int)} {Q : β → VP} {f : Int × Int → β} {elt iter : Expr} {x1 x2 : Str} {p1 p2 tp : Pos} {tkk : Nat} {scope : Scope} {pos : Pos} {I D l : Addr} {cenv : Env} {vs : Array Value} {m₀ : Str → Option Value} {B G : Heap} {RR : Result → Shared → Prop}
    (hh : A.handled = none) (hlI : l ≠ I) (hl : G.PlainList l vs) (hp : Paired (fun u x => isP2 isI isI x u G) vs.toList xs) (hf : cenv.scope.kind = .function) (hQ : ∀ b, Own (Q b))
    (hk1 : cenv.kindOf x1 = some .local) (hk2 : cenv.kindOf x2 = some .local) (hne : x1 ≠ x2)
    (hC : s.heap.Ns cenv.locals m₀) (hit : s.heap.IsListIter I l 0) (hacc : s.heap.PlainList D #[])
    (hG : ∀ b o, b ≠ I → G.get? b = some o → s.heap.get? b = some o) (hGC : G.get? cenv.locals = none) (hGD : G.get? D = none) (hGI : ∃ o, G.get? I = some o ∧ ∀ xs n, o.data ≠ .seq xs n) (hB : Sub B G) (hBI : B.get? I = none) 
    (helt : ∀ p v1 v2 s₂, p ∈ xs → Sub B s₂.heap → isI p.1 v1 s₂.heap → isI p.2 v2 s₂.heap → Sees cenv s₂.heap x1 v1 → Sees cenv s₂.heap x2 v2 → Gv prog w A (eval elt cenv) (fun y h => Q (f p) y h ∧ ∀ a, y = .ref a → s₂.heap.get? a = none) s₂)
    (hRR : ∀ h' tk ys, (∃ m, h'.Ns cenv.locals m) → h'.PlainList D ys → Paired (fun y b => Q b y h') ys.toList (xs.map f) → (∀ y ∈ ys.toList, ∀ c, y = .ref c → c ≠ cenv.locals) → (∀ b o, b ≠ I → G.get? b = some o → h'.get? b = some o) → RR (.ok .next) { s with heap := h', toks := tk })
    (hsz : xs.length ≤ 10000) :
    codeAny (model prog w) A (.compLoop (.ListComp elt [⟨.Tuple [.Name x1 p1, .Name x2 p2] tkk tp, iter, [], 0⟩] scope pos) 0 (.ref I) (.ref D) cenv) RR s := by
  have W := Walks.list (prog := prog) (w := w) hh I l hlI vs
  have hlen := plist_size hp
  have hDC : D ≠ cenv.locals := by
    intro e
    obtain ⟨n, e1⟩ := hacc
    obtain ⟨o, es, ep, ho, hd, _⟩ := hC
    rw [e, ho] at e1; cases e1; cases hd
  have hDI : D ≠ I := by rintro rfl; obtain ⟨o, e, _⟩ := hGI; rw [hGD] at e; cases e
  have hCI : cenv.locals ≠ I := by intro q; obtain ⟨o, e, _⟩ := hGI; rw [← q, hGC] at e; cases e
  have hlD : l ≠ D := by rintro rfl; obtain ⟨n, e⟩ := hl; rw [hGD] at e; cases e
  have hlC : l ≠ cenv.locals := by intro q; obtain ⟨n, e⟩ := hl; rw [q, hGC] at e; cases e
  refine LCp.codeAny_compLoop_pair
    (fun k s' => ∃ h' tk ys i m', s' = { s with heap := h', toks := tk } ∧ h'.IsListIter I l i ∧ h'.PlainList D ys ∧ h'.Ns cenv.locals m' ∧
      Paired (fun y b => Q b y h') ys.toList ((xs.take i).map f) ∧ i ≤ xs.length ∧ k = xs.length + 1 - i ∧ (∀ b o, b ≠ I → G.get? b = some o → h'.get? b = some o) ∧
      (∀ y ∈ ys.toList, ∀ c, y = .ref c → c ≠ I ∧ c ≠ D ∧ c ≠ cenv.locals)) ?_ (xs.length + 1)
    ⟨s.heap, s.toks, #[], 0, m₀, rfl, hit, hacc, hC, by simpa using Paired.nil, Nat.zero_le _, rfl, hG, by simp⟩
  rintro k s' ⟨h, tk, ys, i, m', rfl, hit', hacc', hC', hF, hi, rfl, hk, hnew⟩
  have hlh : h.PlainList l vs := hl.at fun o e => hk _ o hlI e
  have pmono : ∀ {h h' : Heap} {lb : List β}, (∀ b o, b ≠ I → b ≠ D → b ≠ cenv.locals → h.get? b = some o → h'.get? b = some o) → Paired (fun y b => Q b y h) ys.toList lb → Paired (fun y b => Q b y h') ys.toList lb := by
    intro h h' lb up hF
    have key : ∀ (l₁ : List Value) (l₂ : List β), (∀ y ∈ l₁, y ∈ ys.toList) → Paired (fun y b => Q b y h) l₁ l₂ → Paired (fun y b => Q b y h') l₁ l₂ := by
      intro l₁ l₂ hm hp
      induction hp with
      | nil => exact .nil
      | cons q t ih =>
        rename_i y b l₁ l₂
        refine .cons (hQ b y _ _ (fun c hc o e => ?_) q) (ih fun z hz => hm z (List.mem_cons_of_mem _ hz))
        obtain ⟨n1, n2, n3⟩ := hnew y (hm y List.mem_cons_self) c hc
        exact up c o n1 n2 n3 e
    exact key _ _ (fun _ h => h) hF
  by_cases hlt : i < xs.length
  · refine W.item i _ _ _ (by omega) ⟨hit', hlh.isList⟩ fun v h₁ tk₁ hPv hst₁ hk₁ => ?_
    obtain ⟨pv, hpv, t, v1, v2, rfl, hT, hv1, hv2⟩ := Paired.get' hp (show vs.toList[i]? = some v by simpa using hPv)
    have up₁ : ∀ b o, b ≠ I → h.get? b = some o → h₁.get? b = some o := fun b o hb e => hk₁ b o (by simpa using hb) e
    refine wpAny_letOwnedTupleGo_listiter (s := { s with heap := h₁, toks := tk₁ }) hst₁.1 ?_
    have hTI : t ≠ I := by
      rintro rfl
      obtain ⟨n, e⟩ := hT
      obtain ⟨o, e', hn⟩ := hGI
      rw [e] at e'; cases e'; exact hn _ _ rfl
    obtain ⟨nT, hT'⟩ := hT
    have hT₁ : h₁.get? t = some { cls := .type "tuple", data := .seq #[v1, v2] nT } := up₁ _ _ hTI (hk _ _ hTI hT')
    refine wpAny_assign_Tuple hh (items := #[v1, v2]) ⟨_, hT₁, rfl, nT, rfl⟩ rfl rfl fun h₂ hx => ?_
    have k₂ : Sub h₁ h₂ := fun b o e => hx b o (Nat.ne_of_lt (Heap.lt_size e)) e
    have hC₂ : h₂.Ns cenv.locals m' := (hC'.at' fun o e => up₁ _ o hCI e).keeps k₂
    show wpAny _ A (do holding [v2] (assign (.Name x1 p1) cenv v1); do holding [] (assign (.Name x2 p2) cenv v2); pure ()) _ _ _
    refine wpAny_bind (wpAny_holding (wpAny_assign_Name (wpAny_storeName_local hk1 hC₂ (fun h₃ hn₃ hs₃ => ?_) (by rw [hf]; rfl))))
    refine wpAny_bind (wpAny_holding (wpAny_assign_Name (wpAny_storeName_local hk2 hn₃ (fun h₄ hn₄ hs₄ => wpAny_pure ?_) (by rw [hf]; rfl))))
    have up₄ : ∀ b o, b ≠ I → b ≠ cenv.locals → h.get? b = some o → h₄.get? b = some o := fun b o n1 n2 e => hs₄.extBut b o n2 (hs₃.extBut b o n2 (k₂ b o (up₁ b o n1 e)))
    have hkG₄ : ∀ b o, b ≠ I → G.get? b = some o → h₄.get? b = some o := fun b o n1 e => up₄ b o n1 (fun q => by rw [q, hGC] at e; cases e) (hk b o n1 e)
    have subB : Sub B h₄ := fun b o e => hkG₄ b o (fun q => by rw [q, hBI] at e; cases e) (hB b o e)
    have hit₄ : h₄.IsListIter I l (i + 1) := by
      obtain ⟨o, e, r⟩ := hst₁.1
      exact ⟨o, hs₄.extBut _ _ (Ne.symm hCI) (hs₃.extBut _ _ (Ne.symm hCI) (k₂ _ _ e)), r⟩
    refine (helt pv v1 v2 { s with heap := h₄, toks := _ } (List.mem_of_getElem? hpv) subB hv1 hv2 (.loc _ hk1 hn₄ (by simp [hne])) (.loc _ hk2 hn₄ (by simp))).use fun y s₅ hy hk₅ => ?_
    obtain ⟨h₅, tk₅, rfl, hk₅⟩ := hk₅
    obtain ⟨hQy, hfr⟩ := hy
    have hacc₄ : h₄.PlainList D ys := hacc'.at fun o e => up₄ _ o hDI hDC e
    have hys : ys.size ≤ sizeLine := by
      have e1 := plist_size hF
      have e2 : ((xs.take i).map f).length ≤ xs.length := by simp; omega
      have e5 : (10000 : Nat) ≤ sizeLine := by decide
      omega
    refine wpAny_list_append_plain (hsz := hys) (hacc₄.at fun o e => hk₅ _ o e) fun h₆ hl₆ hs₆ => ?_
    have yn : ∀ c, y = .ref c → c ≠ I ∧ c ≠ D ∧ c ≠ cenv.locals := by
      intro c hc
      have hn := hfr c hc
      refine ⟨?_, ?_, ?_⟩
      · rintro rfl; obtain ⟨o, e, _⟩ := hit₄; rw [hn] at e; cases e
      · rintro rfl; obtain ⟨n, e⟩ := hacc₄; rw [hn] at e; cases e
      · rintro rfl; obtain ⟨o, es, ep, e, _⟩ := hn₄; rw [hn] at e; cases e
    refine ⟨xs.length + 1 - (i + 1), by omega, h₆, tk₅, ys.push y, i + 1, _, rfl, ?_, hl₆, (hn₄.keeps hk₅).sameBut hs₆ (Ne.symm hDC), ?_, hlt, rfl, fun b o n1 e => hs₆.extBut b o (fun q => by rw [q, hGD] at e; cases e) (hk₅ b o (hkG₄ b o n1 e)), ?_⟩
    · obtain ⟨o, e, r⟩ := hit₄
      exact ⟨o, hs₆.extBut _ _ (Ne.symm hDI) (hk₅ _ _ e), r⟩
    · have htake : (xs.take (i + 1)).map f = (xs.take i).map f ++ [f pv] := by rw [List.take_add_one, hpv]; simp
      rw [htake, Array.toList_push]
      refine Paired.snoc (pmono (fun b o n1 n2 n3 e => hs₆.extBut b o n2 (hk₅ b o (up₄ b o n1 n3 e))) hF) (hQ _ _ _ _ (fun c hc o e => hs₆.extBut c o (yn c hc).2.1 e) hQy)
    · intro z hz c hc
      simp at hz
      rcases hz with hz | rfl
      · exact hnew z (by simpa using hz) c hc
      · exact yn c hc
  · have hin : i = xs.length := by omega
    subst hin
    refine W.done _ _ _ ⟨by rw [hlen]; exact hit', hlh.isList⟩ fun h₁ tk₁ hk₁ => ?_
    have up₁ : ∀ b o, b ≠ I → h.get? b = some o → h₁.get? b = some o := fun b o hb e => hk₁ b o (by simpa using hb) e
    rw [List.take_length] at hF
    exact hRR h₁ tk₁ ys ⟨m', hC'.at' fun o e => up₁ _ o hCI e⟩ (hacc'.at fun o e => up₁ _ o hDI e) (pmono (fun b o n1 _ _ e => up₁ b o n1 e) hF) (fun y hy c hc => (hnew y hy c hc).2.2) fun b o n1 e => up₁ b o n1 (hk b o n1 e)
end

section
variable {prog : Program} {w : World} {A : Around} {env : Env} {H : Heap} {s : Shared}
theorem evf_compP {β : Type} {xs : List (Int × Int)} {Q : β → VP} {f : Int × Int → β} {elt iter : Expr} {x1 x2 : Str} {p1 p2 tp : Pos} {tkk : Nat} {scope : Scope} {cl : List (Str × Addr)} {pos : Pos}
    (hh : A.handled = none) (hclos : closureFor scope env = pure cl) (hkind : scope.kind = .function) (hnames : ∀ y ∈ scope.names, y.2 = .local → scope.names.lookup y.1 = some .local)
    (hx1 : scope.names.lookup x1 = some .local) (hx2 : scope.names.lookup x2 = some .local) (hne : x1 ≠ x2) (hcs : ∀ n, cellsFrom n scope.names cl = cl) (hpc : ∀ h, pushCells h scope.names = h)
    (hsrc : Ev prog w A env H iter (isL (isP2 isI isI) xs)) (hsz : xs.length ≤ 10000) (hQ : ∀ b, Own (Q b))
    (helt : ∀ L p v1 v2 s₂, p ∈ xs → Sub H s₂.heap → isI p.1 v1 s₂.heap → isI p.2 v2 s₂.heap → Sees (cEnv scope cl L env) s₂.heap x1 v1 → Sees (cEnv scope cl L env) s₂.heap x2 v2 → Gv prog w A (eval elt (cEnv scope cl L env)) (fun y h => Q (f p) y h ∧ ∀ a, y = .ref a → s₂.heap.get? a = none) s₂)
    (hset : ∀ x, foldedSetIterable iter env x = pure x := by intro _; rfl) :
    EvF prog w A env H (.ListComp elt [⟨.Tuple [.Name x1 p1, .Name x2 p2] tkk tp, iter, [], 0⟩] scope pos) (isL Q (xs.map f)) := by
  intro s hs E
  rw [eval_ListComp]
  refine wpAny_comprehension_free rfl hset hclos hkind hnames ((hsrc s hs).use fun v s₁ hv k₁ => ?_)
  obtain ⟨l, vs, rfl, hl, hp⟩ := hv
  refine wpAny_pyIter_list hl.isList ?_
  obtain ⟨H1, tk1, rfl, k₁⟩ := k₁
  refine wpAny_newObj_type (wpAny_compNewEnv ?_)
  dsimp only at hl hp ⊢
  generalize hG : H1.push { cls := .type "list_iterator", data := .fields #[.ref l, .int 0 0] } = G
  have kG1 : Sub H1 G := fun b o e => hG ▸ Heap.get?_push_of_some _ e
  have hII : G.get? H1.objs.size = some { cls := .type "list_iterator", data := .fields #[.ref l, .int 0 0] } := hG ▸ Heap.get?_push_size _ rfl
  have kG : Sub s.heap G := Sub.trans k₁ kG1
  generalize hH2 : G.push { cls := .type "list", dict := none, data := .seq ([] : List Value).toArray } = H2
  have hC : H2.objs.size = G.objs.size + 1 := by rw [← hH2, Heap.size_push]
  generalize hH3 : H2.push { cls := .type "dict", data := .dict #[] } = H3
  rw [hpc]
  have sub3 : Sub G H3 := fun b o e => hH3 ▸ Heap.get?_push_of_some _ (hH2 ▸ Heap.get?_push_of_some _ e)
  have hns : H3.Ns H2.objs.size (fun _ => none) := hH3 ▸ Heap.Ns.new H2 (.type "dict")
  have hacc : H3.PlainList G.objs.size #[] := ⟨_, hH3 ▸ Heap.get?_push_of_some _ (hH2 ▸ Heap.get?_push_size _ rfl)⟩
  have hDC : G.objs.size ≠ H2.objs.size := by rw [hC]; exact Nat.ne_of_lt (Nat.lt_succ_self _)
  have hlI : l ≠ H1.objs.size := by obtain ⟨n, e⟩ := hl; exact Nat.ne_of_lt (Heap.lt_size e)
  have hIb : s.heap.get? H1.objs.size = none := sub_none k₁ fresh_size
  have loop : ∀ (s₃ : Shared), s₃ = { s with heap := H3, toks := tk1 } →
      codeAny (model prog w) A (.compLoop (.ListComp elt [⟨.Tuple [.Name x1 p1, .Name x2 p2] tkk tp, iter, [], 0⟩] scope pos) 0 (.ref H1.objs.size) (.ref G.objs.size) (cEnv scope cl H2.objs.size env))
        (compPost (model prog w) A E none (fun v s' => (isL Q (xs.map f) v s'.heap ∧ ∀ a, v = .ref a → s.heap.get? a = none) ∧ Keeps s s') (.ref G.objs.size) H2.objs.size) s₃ := by
    rintro s₃ rfl
    refine compP_loop (B := H) (G := G) hh hlI (hl.at fun o e => kG1 _ o e) (hp.mono fun u x r => mono_P2 (fun x => mono_I x) (fun x => mono_I x) _ _ _ _ (Sub.q kG1) r) hkind hQ (lookup_relabel_local hx1) (lookup_relabel_local hx2) hne hns
      ⟨_, sub3 _ _ hII, rfl, rfl⟩ hacc (fun b o _ e => sub3 b o e) (fresh_le (by show G.objs.size ≤ H2.objs.size; rw [hC]; exact Nat.le_succ _)) fresh_size ⟨_, hII, by intro _ _ e; cases e⟩ (Sub.trans hs kG) (sub_none hs hIb)
      (fun p v1 v2 s₂ => helt _ p v1 v2 s₂) (fun h' tk ys hn hl hp hnc hk => ?_) hsz
    obtain ⟨m, hn⟩ := hn
    refine ⟨m, hn, fun h'' hs'' => ⟨⟨lc_same hQ hDC hs'' ⟨ys, hl, hp, hnc⟩, ?_⟩, ?_⟩⟩
    · rintro a e; cases e; exact sub_none kG fresh_size
    · have hCs : s.heap.get? H2.objs.size = none := sub_none kG (fresh_le (by rw [hC]; exact Nat.le_succ _))
      exact kmk fun b o e => hs''.extBut b o (fun q => by rw [q, hCs] at e; cases e) (hk b o (fun q => by rw [q, hIb] at e; cases e) (kG b o e))
  have W := Walks.list (prog := prog) (w := w) (A := A) hh H1.objs.size l hlI vs
  exact codeAny_compStart_list (loop _ rfl) (W.self 0 _ _ _ ⟨⟨_, sub3 _ _ hII, rfl, rfl⟩, (hl.at fun o e => sub3 _ o (kG1 _ o e)).isList⟩ (loop _ rfl))
end
end MineQ
end

section
set_option Elab.async false
set_option maxRecDepth 100000
set_option linter.unusedVariables false
namespace MineQ
open PySem PySem.W PySem.Calls PyProof.Rows

theorem look104 (w : World) : (KK w).lookup 104 = some (objAt w 104) := rfl
theorem data104 (w : World) : (objAt w 104).data = .func (fdAt w 104) := rfl
theorem code104 (w : World) : codeIn (KK w) (fdAt w 104).code (fdAt w 104).qualname = true := by rfl
theorem body104 (w : World) : (fdAt w 104).body = .stmts (bodyAt w 104) := rfl
theorem bind104 (w : World) (v0 : Value) : bindArgs (fdAt w 104) ⟨[v0], []⟩ = pure [(Str.ofString "script", v0)] := rfl
noncomputable def lev (w : World) (L : Addr) : Env := callEnvC (fdAt w 104) L 104

/-- where the law runs -/
structure LA (A : Around) (ev : Env) : Prop where
  hh : A.handled = none
  dep : A.depth + 20 < recursionLimit
  un : A.units + 100 < cLine
  fr : A.frames = some [ev]

/-- a list of ints, as the script is -/
def isLs (xs : List Int) : VP := fun v h => ∃ a vs, v = .ref a ∧ h.IsList a vs ∧ Paired (fun u x => isI x u h) vs.toList xs
theorem mono_Ls (xs : List Int) : Mono (isLs xs) := by
  rintro v h h' q ⟨a, vs, rfl, ⟨o, e, c, n, d⟩, hp⟩
  exact ⟨a, vs, rfl, ⟨o, q a o _ _ e d, c, n, d⟩, hp⟩

section
variable {prog : Program} {w : World} {A : Around} {env : Env} {H : Heap} {s : Shared}
theorem evf_sliceS {value : Expr} {lower upper step : Option Expr} {p pos : Pos} {xs : List Int} {lo hi st : Option Int} (hv : Ev prog w A env H value (isLs xs)) (hlo : IsOpt lower env H prog w A lo) (hhi : IsOpt upper env H prog w A hi) (hst : IsOpt step env H prog w A st)
    (h0 : st ≠ some 0) (hsz : xs.length ≤ 10000) (hop : ∃ ops : Value → Value → List Value, ∀ o i, subscripted (.Slice lower upper step p) false o i = operate (ops o i) (getItem o i)) : EvF prog w A env H (.Subscript value (.Slice lower upper step p) pos) (isL isI (pickL xs lo hi st)) := fun s hs E => by
  obtain ⟨ops, hop⟩ := hop
  refine Subscript_ ((hv s hs).use fun o s₁ ho k₁ => wpAny_Slice ((part_use hlo (Sub.trans hs (ksub k₁))).use fun l s₂ hl k₂ => (part_use hhi (Sub.trans hs (ksub (ktr k₁ k₂)))).use fun u s₃ hu k₃ => (part_use hst (Sub.trans hs (ksub (ktr (ktr k₁ k₂) k₃)))).use fun t s₄ ht k₄ => ?_))
  have kk := ktr (ktr k₂ k₃) k₄
  obtain ⟨a, vs, rfl, hL, hp⟩ := mono_Ls xs _ _ _ (ksub kk).q ho
  have k5 : Keeps s₄ { s₄ with heap := s₄.heap.push { cls := .type "slice", data := .fields #[l, u, t] } } := kpush (tk := s₄.toks) _
  refine tail_any (hL.push _).typeIs slot_list_getitem.lookup (wpAny_getItem_list_slice (hL.push _) (Heap.IsSliceOf.new ..) hl hu ht h0 ⟨⟨⟨_, _, rfl, ⟨_, Heap.get?_push_size _ rfl⟩, pick_paired hp lo hi st⟩, ?_⟩, ktr k₁ (ktr kk (ktr k5 (kpush (tk := s₄.toks) _)))⟩ (by rw [plist_size hp]; exact Nat.le_trans hsz (by decide))) (hop _ _)
  rintro b e
  cases e
  exact sub_none (ksub (ktr k₁ (ktr kk k5))) fresh_size
end

def evens (xs : List Int) : List Int := pickL xs (some 0) none (some 2)
def odds (xs : List Int) : List Int := pickL xs (some 1) none (some 2)
def lastOf (xs : List Int) : List Int := pickL xs (some (((xs.length : Int).fdiv 2) * 2)) none none
def firstOf (xs : List Int) : List Int := ([24] ++ evens (xs.take 6)).map lmode
def secondOf (xs : List Int) : List Int := ([40] ++ odds (xs.take 6) ++ lastOf (xs.take 6)).map lmode

/-- what is known behind the first five statements -/
structure L1 (m cm : Str → Option Value) (h : Heap) (fl sl : List Int) (rl ol : List Str) : Prop where
  fi : ∃ v, m (Str.ofString "first") = some v ∧ isL isI fl v h
  se : ∃ v, cm (Str.ofString "second") = some v ∧ isL isI sl v h
  ro : ∃ v, m (Str.ofString "rows") = some v ∧ isL isS rl v h
  ot : ∃ v, m (Str.ofString "other") = some v ∧ isL isS ol v h

section
variable {prog : Program} {w : World} {A : Around} {s₀ s : Shared} {m cm : Str → Option Value} {L : Addr}
set_option maxHeartbeats 4000000 in
theorem law_1 {xs : List Int} {v : Value} {Q : Flow → Shared → Prop} {E : Value → Shared → Prop} (V : LA A (lev w L)) (B : Bs w s₀.heap) (F : Fn s₀ (lev w L) m cm s) (hv : m (Str.ofString "script") = some v) (hs : isLs xs v s.heap) (hlen : xs.length ≤ 63)
    (l1 : (evens (xs.take 6)).length ≤ 10) (l2 : (odds (xs.take 6)).length ≤ 10) (l3 : (lastOf (xs.take 6)).length ≤ 10)
    (k : ∀ m' cm' s', Fn s₀ (lev w L) m' cm' s' → L1 m' cm' s'.heap (firstOf xs) (secondOf xs) ((firstOf xs).map fm) ((secondOf xs).map fm) → Wx prog w A (execs ((bodyAt w 104).drop 5) (lev w L)) Q E s') :
    Wx prog w A (execs (bodyAt w 104) (lev w L)) Q E s := by
  have B1 : Bs w s.heap := B.up F.keep
  -- numbers
  refine x_assign F (P := isL isI (xs.take 6)) (ev_call1 (ev_name rfl (sees_list B1 rfl rfl rfl) fun _ _ => rfl) (.type _) (mono_L (fun x => mono_I x) (xs.take 6))
    (EvF.imp (evf_sliceS (lo := none) (hi := some 6) (st := none) (ev_name rfl (F.loc hv) fun h hs' => mono_Ls xs _ _ _ hs'.q hs) opt_none (opt_some ev_int) opt_none (by decide) (by omega) ⟨_, fun _ _ => rfl⟩) (fun v h hv => by
      have e : pickL xs none (some 6) none = xs.take 6 := pickL_upto xs 6
      rw [e] at hv; exact hv)).ev
    (fun v s hs hv => (g_list (fun x => mono_I x) hv (by simp; omega)).mono fun _ _ y => y.1)) (mono_L (fun x => mono_I x) _) (fun vn s₂ F₂ q₂ z₂ hn₂ => ?_)
  have B2 : Bs w s₂.heap := B.up F₂.keep
  have lt6 : (xs.take 6).length ≤ 6 := by simp; omega
  have hnum : ∀ p h, Sub s₂.heap h → Ev prog w A (lev w L) h (.Name (Str.ofString "numbers") p) (isL isI (xs.take 6)) := fun p h hs' =>
    ev_name rfl ((F₂.loc upd_eq).up hs') fun h' hs'' => mono_L (fun x => mono_I x) _ _ _ _ (Sub.trans hs' hs'').q hn₂
  -- first
  refine x_assignComp F₂ rfl rfl (cl := []) rfl rfl (by decide) (Or.inl ⟨rfl, fun _ => rfl, fun _ => rfl⟩) (xs := [24] ++ evens (xs.take 6)) (R := isI) (Q := isI) (p := fun _ => true) (f := lmode)
    (src_list V.hh (fun x => mono_I x) (evf_addL (fun x => mono_I x) (evf_list (R := isI) (xs := [24]) (fun x => mono_I x) (es_cons (mono_I _) ev_int (es_nil (P := fun vs h => Paired (fun u x => isI x u h) vs []) fun _ _ => Paired.nil) fun v vs h _ a b => Paired.cons a b) (by decide)).ev
      (evf_slice (lo := some 0) (hi := none) (st := some 2) (fun x => mono_I x) (hnum _ _ fun _ _ e => e) (opt_some ev_int) opt_none (opt_some ev_int) (by decide) (by omega) ⟨_, fun _ _ => rfl⟩).ev (by simp only [List.length_cons, List.length_nil]; exact Nat.le_trans (Nat.add_le_add_left l1 _) (by decide))).ev)
    (by simp; omega) own_I mono_I (fun x => mono_I x) (fun _ _ _ _ _ _ _ _ => t_nil) (fun Lc xv v s₃ _ _ hs₃ hv hsee => ?_) (fun v1 s₃ F₃ q₃ z₃ hk₃ => ?_)
  · have B₃ := B2.up hs₃
    exact ev_fI (ev_call1 (ev_name rfl (B₃.glob (glob82 w) rfl rfl) fun _ _ => rfl) (kp_fn B₃ (look82 w) (data82 w)) (mono_I xv) (ev_name rfl hsee fun _ _ => hv) (fun v s hs hv => c_mode (Nat.lt_of_le_of_lt (Nat.le_add_right _ _) V.dep) (B₃.up hs) hv)) s₃ (fun _ _ e => e)
  rw [filter_true] at hk₃
  have B3 : Bs w s₃.heap := B.up F₃.keep
  have hn₃ := mono_L (fun x => mono_I x) _ _ _ _ q₃ hn₂
  have hnum3 : ∀ p, Ev prog w A (lev w L) s₃.heap (.Name (Str.ofString "numbers") p) (isL isI (xs.take 6)) := fun p =>
    ev_name rfl (F₃.loc ((upd_ne (by decide)).trans upd_eq)) fun h' hs'' => mono_L (fun x => mono_I x) _ _ _ _ hs''.q hn₃
  -- second
  refine x_assignC F₃ (P := isL isI (secondOf xs)) (EvF.imp (evf_comp (cl := []) rfl rfl (by decide) (Or.inl ⟨rfl, fun _ => rfl, fun _ => rfl⟩) (xs := [40] ++ odds (xs.take 6) ++ lastOf (xs.take 6)) (R := isI) (Q := isI) (p := fun _ => true) (f := lmode)
      (src_list V.hh (fun x => mono_I x) (evf_addL (fun x => mono_I x) (evf_addL (fun x => mono_I x) (evf_list (R := isI) (xs := [40]) (fun x => mono_I x) (es_cons (mono_I _) ev_int (es_nil (P := fun vs h => Paired (fun u x => isI x u h) vs []) fun _ _ => Paired.nil) fun v vs h _ a b => Paired.cons a b) (by decide)).ev
        (evf_slice (lo := some 1) (hi := none) (st := some 2) (fun x => mono_I x) (hnum3 _) (opt_some ev_int) opt_none (opt_some ev_int) (by decide) (by omega) ⟨_, fun _ _ => rfl⟩).ev (by simp only [List.length_cons, List.length_nil]; exact Nat.le_trans (Nat.add_le_add_left l2 _) (by decide))).ev
        (evf_slice (lo := some ((((xs.take 6).length : Nat) : Int).fdiv 2 * 2)) (hi := none) (st := none) (fun x => mono_I x) (hnum3 _)
          (opt_some (ev_mul (.of_right (by decide)) (ev_div (by decide) (by decide) (ev_call1 (ev_name rfl (sees_len B3 rfl rfl rfl) fun _ _ => rfl) (.built _) (mono_L (fun x => mono_I x) (xs.take 6)) (hnum3 _) (fun v s hs hv => g_len hv (by omega))) ev_int) ev_int)) opt_none opt_none (by decide) (by omega) ⟨_, fun _ _ => rfl⟩).ev
          (by rw [List.length_append]; simp only [List.length_cons, List.length_nil]; exact Nat.le_trans (Nat.add_le_add (Nat.add_le_add_left l2 _) l3) (by decide))).ev)
      (by simp; omega) own_I (fun x => mono_I x) (fun _ _ _ _ _ _ _ _ => t_nil) (fun Lc xv v s₄ _ _ hs₄ hv hsee => ?_)) (fun v h hv => by rw [filter_true] at hv; exact hv)).ev (mono_L (fun x => mono_I x) _) (fun vr s₄ F₄ q₄ z₄ hr₄ => ?_) (hc := rfl)
  · have B₄ := B3.up hs₄
    exact ev_fI (ev_call1 (ev_name rfl (B₄.glob (glob82 w) rfl rfl) fun _ _ => rfl) (kp_fn B₄ (look82 w) (data82 w)) (mono_I xv) (ev_name rfl hsee fun _ _ => hv) (fun v s hs hv => c_mode (Nat.lt_of_le_of_lt (Nat.le_add_right _ _) V.dep) (B₄.up hs) hv)) s₄ (fun _ _ e => e)
  have B4 : Bs w s₄.heap := B.up F₄.keep
  have hf₄ := mono_L (fun x => mono_I x) _ _ _ _ q₄ hk₃
  have lf : (firstOf xs).length ≤ 100 := by simp [firstOf]; omega
  have ls : (secondOf xs).length ≤ 100 := by simp [secondOf]; omega
  have dep3 : A.depth + 3 < recursionLimit := by have := V.dep; omega
  -- rows
  refine x_assignComp F₄ rfl rfl (cl := []) rfl rfl (by decide) (Or.inl ⟨rfl, fun _ => rfl, fun _ => rfl⟩) (xs := firstOf xs) (R := isI) (Q := isS) (p := fun _ => true) (f := fm)
    (src_list V.hh (fun x => mono_I x) (ev_name rfl (F₄.loc upd_eq) fun h hs => mono_L (fun x => mono_I x) _ _ _ _ hs.q hf₄))
    (by omega) own_S mono_S (fun x => mono_I x) (fun _ _ _ _ _ _ _ _ => t_nil) (fun Lc xv v s₅ _ _ hs₅ hv hsee => ?_) (fun v2 s₅ F₅ q₅ z₅ hk₅ => ?_)
  · have B₅ := B4.up hs₅
    exact ev_fS (ev_call1 (ev_name rfl (B₅.glob (glob68 w) rfl rfl) fun _ _ => rfl) (kp_fn B₅ (look68 w) (data68 w)) (mono_I xv) (ev_name rfl hsee fun _ _ => hv) (fun v s hs hv => c_filemode V.hh dep3 (B₅.up hs) hv)) s₅ (fun _ _ e => e)
  rw [filter_true] at hk₅
  have B5 : Bs w s₅.heap := B.up F₅.keep
  have hs₅ := mono_L (fun x => mono_I x) _ _ _ _ q₅ hr₄
  -- other
  refine x_assignComp F₅ rfl rfl (cl := []) rfl rfl (by decide) (Or.inl ⟨rfl, fun _ => rfl, fun _ => rfl⟩) (xs := secondOf xs) (R := isI) (Q := isS) (p := fun _ => true) (f := fm)
    (src_list V.hh (fun x => mono_I x) (ev_name rfl (F₅.cel (c := L + 1) rfl upd_eq) fun h hs => mono_L (fun x => mono_I x) _ _ _ _ hs.q hs₅))
    (by omega) own_S mono_S (fun x => mono_I x) (fun _ _ _ _ _ _ _ _ => t_nil) (fun Lc xv v s₆ _ _ hs₆ hv hsee => ?_) (fun v3 s₆ F₆ q₆ z₆ hk₆ => ?_)
  · have B₆ := B5.up hs₆
    exact ev_fS (ev_call1 (ev_name rfl (B₆.glob (glob68 w) rfl rfl) fun _ _ => rfl) (kp_fn B₆ (look68 w) (data68 w)) (mono_I xv) (ev_name rfl hsee fun _ _ => hv) (fun v s hs hv => c_filemode V.hh dep3 (B₆.up hs) hv)) s₆ (fun _ _ e => e)
  rw [filter_true] at hk₆
  refine k _ _ s₆ F₆ ⟨⟨v1, ?_, mono_L (fun x => mono_I x) _ _ _ _ (q₅.trans q₆) hf₄⟩, ⟨vr, upd_eq, mono_L (fun x => mono_I x) _ _ _ _ q₆ hs₅⟩, ⟨v2, ?_, mono_L (fun x => mono_S x) _ _ _ _ q₆ hk₅⟩, ⟨v3, upd_eq, hk₆⟩⟩
  · exact (upd_ne (by decide)).trans ((upd_ne (by decide)).trans upd_eq)
  · exact (upd_ne (by decide)).trans upd_eq
end
end MineQ
end

section
set_option Elab.async false
set_option maxRecDepth 100000
set_option linter.unusedVariables false
namespace MineQ
open PySem PySem.W PySem.Calls PyProof.Rows

structure L2 (m cm : Str → Option Value) (h : Heap) (fl sl : List Int) (rl ol ms os : List Str) : Prop extends L1 m cm h fl sl rl ol where
  mi : ∃ v, m (Str.ofString "missing") = some v ∧ isL isS ms v h
  ov : ∃ v, cm (Str.ofString "over") = some v ∧ isL isS os v h

section
variable {prog : Program} {w : World} {A : Around} {s₀ s : Shared} {m cm : Str → Option Value} {L : Addr} {fl sl : List Int} {rl ol ms os : List Str}
theorem L1.q {h h' : Heap} (x : L1 m cm h fl sl rl ol) (q : SubQ h h') : L1 m cm h' fl sl rl ol :=
  ⟨let ⟨v, a, b⟩ := x.fi; ⟨v, a, mono_L (fun x => mono_I x) _ _ _ _ q b⟩, let ⟨v, a, b⟩ := x.se; ⟨v, a, mono_L (fun x => mono_I x) _ _ _ _ q b⟩, let ⟨v, a, b⟩ := x.ro; ⟨v, a, mono_L (fun x => mono_S x) _ _ _ _ q b⟩, let ⟨v, a, b⟩ := x.ot; ⟨v, a, mono_L (fun x => mono_S x) _ _ _ _ q b⟩⟩
theorem L2.q {h h' : Heap} (x : L2 m cm h fl sl rl ol ms os) (q : SubQ h h') : L2 m cm h' fl sl rl ol ms os :=
  ⟨x.toL1.q q, let ⟨v, a, b⟩ := x.mi; ⟨v, a, mono_L (fun x => mono_S x) _ _ _ _ q b⟩, let ⟨v, a, b⟩ := x.ov; ⟨v, a, mono_L (fun x => mono_S x) _ _ _ _ q b⟩⟩

set_option maxHeartbeats 4000000 in
theorem law_2 {Q : Flow → Shared → Prop} {E : Value → Shared → Prop} (V : LA A (lev w L)) (B : Bs w s₀.heap) (F : Fn s₀ (lev w L) m cm s) (K : L1 m cm s.heap fl sl rl ol) (h1 : rl.length ≤ 100) (h2 : ol.length ≤ 100)
    (k : ∀ m' cm' s', Fn s₀ (lev w L) m' cm' s' → L2 m' cm' s'.heap fl sl rl ol (diffF rl.reverse ol []).1 (diffF rl.reverse ol []).2 → Wx prog w A (execs ((bodyAt w 104).drop 6) (lev w L)) Q E s') :
    Wx prog w A (execs ((bodyAt w 104).drop 5) (lev w L)) Q E s := by
  have B1 : Bs w s.heap := B.up F.keep
  obtain ⟨vr, r1, r2⟩ := K.ro
  obtain ⟨vo, o1, o2⟩ := K.ot
  refine wx_of (wpAny_execs_cons (Assign_Tuple ?_))
  have hlist : ∀ (h : Heap) (hs : Sub s.heap h) (x : Str) (v : Value) (xs : List Str) (p1 p2 p3 : Pos), (lev w L).kindOf x = some .local → (x == ("__debug__" : Str)) = false → m x = some v → isL isS xs v s.heap → xs.length ≤ 100 →
      EvF prog w A (lev w L) h (.Call (.Name (Str.ofString "list") p1) [.Name x p2] [] p3) (isL isS xs) := fun h hs x v xs p1 p2 p3 e1 e2 e3 e4 e5 =>
    evf_call1 (ev_name rfl (sees_list (B1.up hs) rfl rfl rfl) fun _ _ => rfl) (.type _) (mono_L (fun x => mono_S x) xs) (ev_name rfl ((F.loc e3 e1).up hs) (fun h' hs' => mono_L (fun x => mono_S x) _ _ _ _ (Sub.trans hs hs').q e4) e2) (fun v s hs hv => g_list (fun x => mono_S x) hv (by omega))
  have hfun : ∀ p, Ev prog w A (lev w L) s.heap (.Name (Str.ofString "unorderable_list_difference") p) (isV (.ref 75)) := fun p => ev_name rfl (B1.glob (glob75 w) rfl rfl) (fun _ _ => rfl)
  refine Call_ ((hfun _ s (fun _ _ e => e)).use fun f s₁ hf k₁ => ?_)
  cases hf
  refine callWith_def (o := objAt w 75) (fd := fdAt w 75) (data75 w) ?_ rfl
  refine spliced_cons ((hlist s₁.heap (ksub k₁) (Str.ofString "rows") vr rl _ _ _ rfl (by decide) r1 r2 h1 s₁ (fun _ _ e => e)).use fun vp s₂ hp k₂ => ?_)
  refine spliced_cons ((hlist s₂.heap (ksub (ktr k₁ k₂)) (Str.ofString "other") vo ol _ _ _ rfl (by decide) o1 o2 h2 s₂ (fun _ _ e => e)).use fun vq s₃ hq k₃ => spliced_nil ?_)
  obtain ⟨hp, fp⟩ := hp
  obtain ⟨hq, fq⟩ := hq
  have hp3 := mono_L (fun x => mono_S x) _ _ _ _ (ksub k₃).q hp
  obtain ⟨p, ip, rfl, hp1, hp2⟩ := id hp
  obtain ⟨q, iq, rfl, hq1, hq2⟩ := id hq
  have kk : Keeps s s₃ := ktr (ktr k₁ k₂) k₃
  have F₃ := F.keeps kk
  have np : s.heap.get? p = none := sub_none (ksub k₁) (fp p rfl)
  have nq : s.heap.get? q = none := sub_none (ksub (ktr k₁ k₂)) (fq q rfl)
  have pq : p ≠ q := by
    rintro rfl
    obtain ⟨n, e⟩ := hp1
    rw [fq p rfl] at e; cases e
  obtain ⟨oL, es, ep, hL, hLd, hLr⟩ := id F₃.ns
  refine ⟨(B.up F₃.keep).X _ _ (look75 w), ?_⟩
  refine wpAny_mono (c_diff (el := lev w L) (LL := (lev w L).locals) (oL := oL) (Hb := s₀.heap) V.hh (by have := V.dep; omega) V.fr B F₃.keep rfl (fun e => by have : ScopeKind.function = ScopeKind.module := e; cases this) hL ⟨_, _, hLd⟩ F.newL hp3 hq pq (sub_none F.keep np) (sub_none F.keep nq) (by omega) (by omega) (E := E)) (fun v s₄ D => ?_) fun _ _ e => e
  obtain ⟨t, r, rfl, hT, rn, hm, ho⟩ := D.val
  obtain ⟨sl', hfr⟩ := D.fr
  have notL : ∀ b o xs n, s₃.heap.get? b = some o → o.data = .seq xs n → b ≠ (lev w L).locals := fun b o xs n e d q => by
    rw [q, hL] at e; cases e; rw [hLd] at d; cases d
  have Q4 : SubQ s.heap s₄.heap := fun b o xs n e d =>
    D.keep b o (ksub kk b o e) (fun q => by rw [q, np] at e; cases e) (fun q' => by rw [q', nq] at e; cases e) (notL b o xs n (ksub kk b o e) d)
  have F₄ : Fn s₀ (lev w L) m cm s₄ := by
    refine ⟨F.kind, ?_, ⟨_, es, ep, hfr, hLd, hLr⟩, fun n c e => ?_, F.apart, fun b o e => ?_, F.newL, F.newC⟩
    · obtain ⟨h, tk, e1⟩ := F₃.same
      obtain ⟨h', tk', e2⟩ := D.same
      exact ⟨h', tk', by rw [e2, e1]⟩
    · have hc := F.cell n c e
      obtain ⟨oc, hoc, hdc⟩ := id hc
      refine cell_at (F₃.cell n c e) fun o e' => D.keep c o e' (fun q => by rw [q, np] at hoc; cases hoc) (fun q' => by rw [q', nq] at hoc; cases hoc) (fun q' => ?_)
      rw [ksub kk _ _ hoc] at e'
      rw [q'] at hoc
      have := ksub kk _ _ hoc
      rw [hL] at this
      cases this
      rw [hLd] at hdc; cases hdc
    · exact D.keep b o (F₃.keep b o e) (fun q => by have := F.keep b o e; rw [q, np] at this; cases this) (fun q' => by have := F.keep b o e; rw [q', nq] at this; cases this) (fun q' => by rw [q', F.newL] at e; cases e)
  refine assign2 V.hh F₄ hT (stores_loc (x := Str.ofString "missing") rfl) (stores_cell (x := Str.ofString "over") (c := L + 1 + 1) rfl rfl) fun s₅ F₅ q₅ z₅ => ?_
  dsimp only at F₅
  have K5 := (K.q Q4).q q₅
  refine wx_out (k _ _ s₅ F₅ ⟨⟨?_, ?_, ?_, ?_⟩, ⟨_, upd_eq, mono_L (fun x => mono_S x) _ _ _ _ q₅ hm⟩, ⟨_, upd_eq, mono_L (fun x => mono_S x) _ _ _ _ q₅ ho⟩⟩)
  · obtain ⟨v, a, b⟩ := K5.fi; exact ⟨v, (upd_ne (by decide)).trans a, b⟩
  · obtain ⟨v, a, b⟩ := K5.se; exact ⟨v, (upd_ne (by decide)).trans a, b⟩
  · obtain ⟨v, a, b⟩ := K5.ro; exact ⟨v, (upd_ne (by decide)).trans a, b⟩
  · obtain ⟨v, a, b⟩ := K5.ot; exact ⟨v, (upd_ne (by decide)).trans a, b⟩
end
end MineQ
end

section
set_option Elab.async false
set_option maxRecDepth 100000
set_option linter.unusedVariables false
namespace MineQ
open PySem PySem.W PySem.Calls PyProof.Rows

theorem rising_pair : ∀ (p : Str) (l : List Str), risingS p l = true → (p :: l).Pairwise (fun a b => a.cps.toList ≤ b.cps.toList)
  | p, [], _ => by simp
  | p, x :: r, h => by
    have h' : (!PySem.Spec.ltCps x.cps.toList p.cps.toList && risingS x r) = true := h
    rw [Bool.and_eq_true] at h'
    obtain ⟨h1, h2⟩ := h'
    have ih := rising_pair x r h2
    have hpx : p.cps.toList ≤ x.cps.toList := by
      rw [ltCps_eq] at h1
      have : ¬ x.cps.toList < p.cps.toList := by simpa using h1
      exact this
    refine List.pairwise_cons.mpr ⟨fun y hy => ?_, ih⟩
    rcases List.mem_cons.mp hy with rfl | hy
    · exact hpx
    · exact List.le_trans hpx (List.rel_of_pairwise_cons ih hy)
theorem sorted_pair {l : List Str} (h : sortedS l = true) : l.Pairwise (fun a b => a.cps.toList ≤ b.cps.toList) := by
  cases l with
  | nil => simp
  | cons x r => exact rising_pair x r h
theorem sorted_unique {a b : List Str} (ha : sortedS a = true) (hb : sortedS b = true) (h : a.Perm b) : a = b :=
  List.Perm.eq_of_pairwise (fun x y _ _ h1 h2 => by
    have := List.le_antisymm h1 h2
    cases x; cases y; simp at this; congr) (sorted_pair ha) (sorted_pair hb) h

section
variable {prog : Program} {w : World} {A : Around} {env : Env} {H : Heap} {s : Shared}
theorem et_or2 {a b : Expr} {pos : Pos} {x y : Bool} (ha : Et prog w A env H a x) (hb : Et prog w A env H b y) : Et prog w A env H (.BoolOp .Or [a, b] pos) (x || y) := fun s hs E => by
  refine wpAny_isTrue_BoolOp (wpAny_allTrue_Or_cons ((ha s hs).use fun c s₁ hc k₁ => ?_))
  subst hc
  cases c with
  | true => exact ⟨rfl, k₁⟩
  | false =>
    refine wpAny_allTrue_Or_cons ((hb s₁ (Sub.trans hs (ksub k₁))).use fun d s₂ hd k₂ => ?_)
    subst hd
    cases d with
    | true => exact ⟨rfl, ktr k₁ k₂⟩
    | false => exact wpAny_allTrue_Or_nil ⟨rfl, ktr k₁ k₂⟩
end

section
variable {prog : Program} {w : World} {A : Around} {s₀ s : Shared} {m cm : Str → Option Value} {L : Addr} {fl sl : List Int} {rl ol ms os : List Str}
theorem seesC {x : Str} {v : Value} {c : Addr} {env : Env} {h : Heap} (F : Fn s₀ env m cm s) (hc : env.cells.lookup x = some c) (hv : cm x = some v) (hs : Sub s.heap h) : h.IsCell c (some v) := (hv ▸ F.cell x c hc : s.heap.IsCell c (some v)).keeps hs

set_option maxHeartbeats 4000000 in
theorem law_3 {Q : Flow → Shared → Prop} {E : Value → Shared → Prop} (V : LA A (lev w L)) (B : Bs w s₀.heap) (F : Fn s₀ (lev w L) m cm s) (K : L2 m cm s.heap fl sl rl ol ms os) (h1 : ms.length ≤ 100) (h2 : os.length ≤ 100)
    (e1 : ms.length = os.length) (e2 : ms.filter (fun x => os.contains x) = [])
    (k : ∀ s', Fn s₀ (lev w L) m cm s' → L2 m cm s'.heap fl sl rl ol ms os → Wx prog w A (execs ((bodyAt w 104).drop 7) (lev w L)) Q E s') :
    Wx prog w A (execs ((bodyAt w 104).drop 6) (lev w L)) Q E s := by
  have B1 : Bs w s.heap := B.up F.keep
  obtain ⟨vm, m1, m2⟩ := K.mi
  obtain ⟨vo, o1, o2⟩ := K.ov
  have hmis : ∀ p, Ev prog w A (lev w L) s.heap (.Name (Str.ofString "missing") p) (isL isS ms) := fun p => ev_name rfl (F.loc m1) fun h' hs' => mono_L (fun x => mono_S x) _ _ _ _ hs'.q m2
  have hov : ∀ p, Ev prog w A (lev w L) s.heap (.Name (Str.ofString "over") p) (isL isS os) := fun p => ev_name rfl (F.cel (c := L + 1 + 1) rfl o1) fun h' hs' => mono_L (fun x => mono_S x) _ _ _ _ hs'.q o2
  have ov : A.units < cLine := Nat.lt_of_le_of_lt (Nat.le_add_right _ _) V.un
  refine x_if (c := (((ms.length : Nat) : Int) != ((os.length : Nat) : Int)) || (ms.filter (fun x => os.contains x) != [])) (et_or2
    (et_ne (ev_call1 (ev_name rfl (sees_len B1 rfl rfl rfl) fun _ _ => rfl) (.built _) (mono_L (fun x => mono_S x) ms) (hmis _) (fun v s hs hv => g_len hv (by omega)))
      (ev_call1 (ev_name rfl (sees_len B1 rfl rfl rfl) fun _ _ => rfl) (.built _) (mono_L (fun x => mono_S x) os) (hov _) (fun v s hs hv => g_len hv (by omega))))
    (et_cmp (mono_L (fun x => mono_S x) (ms.filter (fun x => os.contains x)))
      (EvF.imp (evf_comp (cl := [(Str.ofString "over", L + 1 + 1)]) rfl rfl (by decide) (Or.inl ⟨rfl, fun _ => rfl, fun _ => rfl⟩) (xs := ms) (R := isS) (Q := isS) (p := fun x => os.contains x) (f := fun x => x)
        (src_list V.hh (fun x => mono_S x) (hmis _)) (by omega) own_S (fun x => mono_S x)
        (fun Lc xv v s₅ hm hs₅ hv hsee => t_one (et_cmp (mono_S xv) (ev_name rfl hsee fun _ _ => hv) (P' := isL isS os) (ev_name rfl (.cell (L + 1 + 1) rfl rfl (seesC F rfl o1 hs₅)) fun h' hs' => mono_L (fun x => mono_S x) _ _ _ _ (Sub.trans hs₅ hs').q o2) (by rintro _ y s hs ⟨t, rfl⟩ hy; exact g_inS hy)))
        (fun Lc xv v s₅ _ _ hs₅ hv hsee => ev_fS (ev_name rfl hsee fun _ _ => hv) s₅ (fun _ _ e => e))) (fun v h hv => by rw [List.map_id'] at hv; exact hv)).ev
      (evf_list (R := isS) (xs := []) (fun x => mono_S x) (es_nil fun _ _ => Paired.nil) (by decide)).ev (fun a b s hs ha hb => g_neS ov ha hb))) fun s₁ k₁ => ?_
  have hc : ((((ms.length : Nat) : Int) != ((os.length : Nat) : Int)) || (ms.filter (fun x => os.contains x) != [])) = false := by
    rw [e2, e1]; simp
  rw [hc]
  simp only [Bool.false_eq_true, if_false]
  exact x_nil (k s₁ (F.keeps k₁) (K.q (ksub k₁).q))

set_option maxHeartbeats 4000000 in
theorem law_4 {Q : Flow → Shared → Prop} {E : Value → Shared → Prop} (V : LA A (lev w L)) (B : Bs w s₀.heap) (F : Fn s₀ (lev w L) m cm s) (K : L2 m cm s.heap fl sl rl ol ms os) (h1 : ms.length ≤ 20) (h2 : os.length ≤ 20) (h3 : rl.length ≤ 20) (h4 : ol.length ≤ 20)
    (e1 : (rl ++ os).Perm (ol ++ ms))
    (k : ∀ s', Fn s₀ (lev w L) m cm s' → L2 m cm s'.heap fl sl rl ol ms os → Wx prog w A (execs ((bodyAt w 104).drop 8) (lev w L)) Q E s') :
    Wx prog w A (execs ((bodyAt w 104).drop 7) (lev w L)) Q E s := by
  have B1 : Bs w s.heap := B.up F.keep
  obtain ⟨vm, m1, m2⟩ := K.mi
  obtain ⟨vo, o1, o2⟩ := K.ov
  obtain ⟨vr, r1, r2⟩ := K.ro
  obtain ⟨vt, t1, t2⟩ := K.ot
  have hmis : ∀ p, Ev prog w A (lev w L) s.heap (.Name (Str.ofString "missing") p) (isL isS ms) := fun p => ev_name rfl (F.loc m1) fun h' hs' => mono_L (fun x => mono_S x) _ _ _ _ hs'.q m2
  have hov : ∀ p, Ev prog w A (lev w L) s.heap (.Name (Str.ofString "over") p) (isL isS os) := fun p => ev_name rfl (F.cel (c := L + 1 + 1) rfl o1) fun h' hs' => mono_L (fun x => mono_S x) _ _ _ _ hs'.q o2
  have hrow : ∀ p, Ev prog w A (lev w L) s.heap (.Name (Str.ofString "rows") p) (isL isS rl) := fun p => ev_name rfl (F.loc r1) fun h' hs' => mono_L (fun x => mono_S x) _ _ _ _ hs'.q r2
  have hoth : ∀ p, Ev prog w A (lev w L) s.heap (.Name (Str.ofString "other") p) (isL isS ol) := fun p => ev_name rfl (F.loc t1) fun h' hs' => mono_L (fun x => mono_S x) _ _ _ _ hs'.q t2
  have ov : A.units < cLine := Nat.lt_of_le_of_lt (Nat.le_add_right _ _) V.un
  refine x_if (c := false) (et_cmp (mono_sorted (rl ++ os))
    (ev_call1 (ev_name rfl (sees_sorted B1 rfl rfl rfl) fun _ _ => rfl) (.built _) (mono_L (fun x => mono_S x) (rl ++ os)) (evf_addL (fun x => mono_S x) (hrow _) (hov _) (by omega)).ev (fun v s hs hv => g_sorted (by simp; omega) hv))
    (ev_call1 (ev_name rfl (sees_sorted B1 rfl rfl rfl) fun _ _ => rfl) (.built _) (mono_L (fun x => mono_S x) (ol ++ ms)) (evf_addL (fun x => mono_S x) (hoth _) (hmis _) (by omega)).ev (fun v s hs hv => g_sorted (by simp; omega) hv))
    (fun a b s hs ha hb => ?_)) fun s₁ k₁ => ?_
  · obtain ⟨sa, a1, a2, a3⟩ := ha
    obtain ⟨sb, b1, b2, b3⟩ := hb
    have e : sa = sb := sorted_unique a3 b3 ((a2.trans e1).trans b2.symm)
    have := g_neS (prog := prog) (w := w) ov a1 b1
    rw [e, bne_self_eq_false] at this
    exact this
  · simp only [Bool.false_eq_true, if_false]
    exact x_nil (k s₁ (F.keeps k₁) (K.q (ksub k₁).q))
end
end MineQ
end

section
set_option Elab.async false
set_option maxRecDepth 100000
set_option linter.unusedVariables false
namespace MineQ
open PySem PySem.W PySem.Calls PyProof.Rows

theorem Sees.isCell {env : Env} {h : Heap} {x : Str} {v : Value} {c : Addr} (y : Sees env h x v) (hk : env.kindOf x = some .cell) (hc : env.cells.lookup x = some c) : h.IsCell c (some v) := by
  cases y with
  | loc m hk' _ _ => rw [hk] at hk'; cases hk'
  | cell c' _ hc' hv => rw [hc] at hc'; cases hc'; exact hv
  | free c' hk' _ _ _ => rw [hk] at hk'; cases hk'
  | glob m hk' _ _ => rw [hk] at hk'; cases hk'
  | built m m' hk' _ _ _ _ => rw [hk] at hk'; cases hk'

structure L3 (m cm : Str → Option Value) (h : Heap) (fl sl : List Int) (rl ol ms os : List Str) : Prop extends L2 m cm h fl sl rl ol ms os where
  pr : ∃ v, cm (Str.ofString "prices") = some v ∧ isL isLI (fl.map fun a => sl.map fun b => price a b) v h

section
variable {prog : Program} {w : World} {A : Around} {s₀ s : Shared} {m cm : Str → Option Value} {L : Addr} {fl sl : List Int} {rl ol ms os : List Str}
theorem L3.q {h h' : Heap} (x : L3 m cm h fl sl rl ol ms os) (q : SubQ h h') : L3 m cm h' fl sl rl ol ms os :=
  ⟨x.toL2.q q, let ⟨v, a, b⟩ := x.pr; ⟨v, a, mono_L mono_LI _ _ _ _ q b⟩⟩
theorem L2.upC {h : Heap} {x : Str} {v : Value} (K : L2 m cm h fl sl rl ol ms os) (h1 : Str.ofString "second" ≠ x) (h2 : Str.ofString "over" ≠ x) : L2 m (upd cm x v) h fl sl rl ol ms os :=
  ⟨⟨K.fi, let ⟨v, a, b⟩ := K.se; ⟨v, (upd_ne h1).trans a, b⟩, K.ro, K.ot⟩, K.mi, let ⟨v, a, b⟩ := K.ov; ⟨v, (upd_ne h2).trans a, b⟩⟩

set_option maxHeartbeats 4000000 in
theorem law_5 {Q : Flow → Shared → Prop} {E : Value → Shared → Prop} (V : LA A (lev w L)) (B : Bs w s₀.heap) (F : Fn s₀ (lev w L) m cm s) (K : L2 m cm s.heap fl sl rl ol ms os) (h1 : fl.length ≤ 100) (h2 : sl.length ≤ 100)
    (k : ∀ cm' s', Fn s₀ (lev w L) m cm' s' → L3 m cm' s'.heap fl sl rl ol ms os → Wx prog w A (execs ((bodyAt w 104).drop 9) (lev w L)) Q E s') :
    Wx prog w A (execs ((bodyAt w 104).drop 8) (lev w L)) Q E s := by
  have B1 : Bs w s.heap := B.up F.keep
  obtain ⟨vf, f1, f2⟩ := K.fi
  obtain ⟨vs, c1, c2⟩ := K.se
  have dep5 : A.depth + 5 < recursionLimit := by have := V.dep; omega
  refine x_assignC F (P := isL isLI (fl.map fun a => sl.map fun b => price a b)) (EvF.imp (evf_comp (cl := [(Str.ofString "second", L + 1)]) rfl rfl (by decide) (Or.inr ⟨rfl, fun _ => rfl, fun _ => rfl⟩) (xs := fl) (R := isI) (Q := isLI) (p := fun _ => true) (f := fun a => sl.map fun b => price a b)
      (src_list V.hh (fun x => mono_I x) (ev_name rfl (F.loc f1) fun h' hs' => mono_L (fun x => mono_I x) _ _ _ _ hs'.q f2)) (by omega) own_LI (fun x => mono_I x) (fun _ _ _ _ _ _ _ _ => t_nil) (fun Lc xv v s₄ _ _ hs₄ hv hsee => ?_))
      (fun v h hv => by rw [filter_true] at hv; exact hv)).ev (mono_L mono_LI _) (fun vr s₄ F₄ q₄ z₄ hr₄ => ?_) (hc := rfl)
  · have hone : s₄.heap.IsCell (Lc + 1) (some v) := hsee.isCell rfl rfl
    have hsec : s₄.heap.IsCell (L + 1) (some vs) := seesC F rfl c1 hs₄
    have B4 := B1.up hs₄
    refine EvF.imp (evf_comp (cl := [(Str.ofString "one", Lc + 1)]) rfl rfl (by decide) (Or.inl ⟨rfl, fun _ => rfl, fun _ => rfl⟩) (xs := sl) (R := isI) (Q := isI) (p := fun _ => true) (f := fun b => price xv b)
      (src_list V.hh (fun x => mono_I x) (ev_name rfl (.cell (L + 1) rfl rfl hsec) fun h' hs' => mono_L (fun x => mono_I x) _ _ _ _ (Sub.trans hs₄ hs').q c2)) (by omega) own_I (fun x => mono_I x) (fun _ _ _ _ _ _ _ _ => t_nil) (fun Ld yv u s₅ _ _ hs₅ hu hsee2 => ?_))
      (fun v h hv => by rw [filter_true] at hv; exact hv) s₄ (fun _ _ e => e)
    have B5 := B4.up hs₅
    exact ev_fI (ev_call2 (ev_name rfl (B5.glob (glob92 w) rfl rfl) fun _ _ => rfl) (kp_fn B5 (look92 w) (data92 w)) (mono_I xv) (mono_I yv) (ev_name rfl (.cell (Lc + 1) rfl rfl (hone.keeps hs₅)) fun _ _ => hv) (ev_name rfl hsee2 fun _ _ => hu)
      (fun v v2 s hs hv hv2 => c_price V.hh dep5 (B5.up hs) hv hv2)) s₅ (fun _ _ e => e)
  · exact k _ s₄ F₄ ⟨(K.q q₄).upC (by decide) (by decide), ⟨vr, upd_eq, hr₄⟩⟩
end
end MineQ
end

section
set_option Elab.async false
set_option maxRecDepth 100000
set_option linter.unusedVariables false
namespace MineQ
open PySem PySem.W PySem.Calls PyProof.Rows

section
variable {prog : Program} {w : World} {A : Around} {env : Env} {s₀ s : Shared} {m cm : Str → Option Value} {p : Addr}
/-- a loop over a new list of lists that changes names of the frame and the list at p -/
theorem x_forP {xs : List (List Int)} {x : Str} {px pos : Pos} {iter : Expr} {body rest : List Stmt} {Q : Flow → Shared → Prop} {E : Value → Shared → Prop} {st : (Str → Option Value) → (Str → Option Value) → Value → (Str → Option Value) × (Str → Option Value)}
    (hh : A.handled = none) (hne : xs ≠ []) (hel : ∀ wl ∈ xs, wl ≠ []) (F : Fn s₀ env m cm s) (hx : StoresBy prog w A s₀ env x st) (hsrc : Ev prog w A env s.heap iter (isL isLI xs)) (hp : s.heap.PlainList p #[]) (hpn : s₀.heap.get? p = none)
    (J : Nat → (Str → Option Value) → (Str → Option Value) → Heap → Prop) (hJ : ∀ i m cm h h', SubQ h h' → J i m cm h → J i m cm h') (h0 : J 0 m cm s.heap)
    (step : ∀ i xv v m₁ cm₁ s₁, xs[i]? = some xv → (∃ h, SubQ h s₁.heap ∧ J i m₁ cm₁ h) → isLI xv v s₁.heap → v ≠ .ref p → Fn s₀ env (st m₁ cm₁ v).1 (st m₁ cm₁ v).2 s₁ →
      Wx prog w A (execs body env) (fun f s₂ => f = .next ∧ ∃ m₂ cm₂, Fn s₀ env m₂ cm₂ s₂ ∧ StayP env p s₁.heap s₂.heap ∧ J (i + 1) m₂ cm₂ s₂.heap) (fun _ _ => False) s₁)
    (k : ∀ m' cm' s', Fn s₀ env m' cm' s' → J xs.length m' cm' s'.heap → Wx prog w A (execs rest env) Q E s')
    (hset : ∀ x, foldedSetIterable iter env x = pure x := by intro _; rfl) :
    Wx prog w A (execs (.For (.Name x px) iter body [] pos :: rest) env) Q E s := by
  refine wx_of (wpAny_execs_cons (wpAny_For ((hsrc s (fun _ _ e => e)).use fun v s₁ hv k₁ => ?_) hset))
  obtain ⟨a, vs, rfl, hl, hpr⟩ := hv
  have hlen := plist_size hpr
  refine wpAny_pyIter_list hl.isList ?_
  obtain ⟨H1, tk1, rfl, k₁⟩ := k₁
  dsimp only at hl hpr ⊢
  have F₁ := F.keeps (s' := { s with heap := H1, toks := tk1 }) (kmk k₁)
  have hp1 : H1.PlainList p #[] := hp.at fun o e => k₁ _ o e
  have hap : a ≠ p := by
    rintro rfl
    obtain ⟨n, e⟩ := hl
    obtain ⟨n', e'⟩ := hp1
    rw [e] at e'
    injection e' with e'
    injection e' with _ _ e'
    injection e' with e'
    rw [e'] at hlen
    exact hne (List.length_eq_zero_iff.mp hlen.symm)
  generalize hG : H1.push { cls := .type "list_iterator", data := .fields #[.ref a, .int 0 0] } = G
  have kG : Sub H1 G := fun b o e => hG ▸ Heap.get?_push_of_some _ e
  have hII : G.get? H1.objs.size = some { cls := .type "list_iterator", data := .fields #[.ref a, .int 0 0] } := hG ▸ Heap.get?_push_size _ rfl
  generalize hI : H1.objs.size = I at hII ⊢
  have nI : H1.get? I = none := hI ▸ fresh_size
  have haI : a ≠ I := by rintro rfl; obtain ⟨n, e⟩ := hl; rw [nI] at e; cases e
  have hpI : p ≠ I := by rintro rfl; obtain ⟨n, e⟩ := hp1; rw [nI] at e; cases e
  have F₂ : Fn s₀ env m cm { s with heap := G, toks := tk1 } := F₁.keeps (s' := { s with heap := G, toks := tk1 }) ⟨G, tk1, rfl, kG⟩
  have hIL : I ≠ env.locals := by rintro rfl; obtain ⟨o, _, _, ho, _⟩ := F₁.ns; rw [nI] at ho; cases ho
  have hIC : ∀ n, env.cells.lookup n ≠ some I := by intro n hc; obtain ⟨o, ho, _⟩ := F₁.cell n I hc; rw [nI] at ho; cases ho
  have hI0 : s₀.heap.get? I = none := sub_none F₁.keep nI
  have seqN : ∀ b o ys n, G.get? b = some o → o.data = .seq ys n → b ≠ I ∧ b ≠ env.locals ∧ ∀ n, env.cells.lookup n ≠ some b := by
    intro b o ys n e d
    refine ⟨?_, ?_, ?_⟩
    · rintro rfl; rw [hII] at e; cases e; cases d
    · rintro rfl
      obtain ⟨o', es, ep, ho, hd, _⟩ := F₂.ns
      rw [e] at ho; cases ho; rw [d] at hd; cases hd
    · intro n hc
      obtain ⟨o', ho, hd⟩ := F₂.cell n b hc
      rw [e] at ho; cases ho; rw [d] at hd; cases hd
  have hlG : G.PlainList a vs := hl.at fun o e => kG _ o e
  have hpG : G.PlainList p #[] := hp1.at fun o e => kG _ o e
  have W := Walks.list (prog := prog) (w := w) hh I a haI vs
  refine codeAny_forLoop (fun q s' => ∃ i m' cm', q = xs.length + 1 - i ∧ i ≤ xs.length ∧ Fn s₀ env m' cm' s' ∧ s'.heap.IsListIter I a i ∧ J i m' cm' s'.heap ∧
    (∀ b o, G.get? b = some o → b ≠ I → b ≠ env.locals → (∀ n, env.cells.lookup n ≠ some b) → b ≠ p → s'.heap.get? b = some o)) ?_ (xs.length + 1)
    ⟨0, m, cm, rfl, Nat.zero_le _, F₂, ⟨_, hII, rfl, rfl⟩, hJ _ _ _ _ _ (Sub.q (Sub.trans k₁ kG)) h0, fun _ _ e _ _ _ _ => e⟩
  rintro q s' ⟨i, m', cm', rfl, hi, F', hS, hJ', hk'⟩
  have hl' : s'.heap.PlainList a vs := by
    obtain ⟨n, e⟩ := hlG
    obtain ⟨n1, n2, n3⟩ := seqN a _ _ _ e rfl
    exact ⟨n, hk' a _ e n1 n2 n3 hap⟩
  have keepI : ∀ {h₁ : Heap} {tk₁ : Nat}, (∀ b o, b ∉ [I] → s'.heap.get? b = some o → h₁.get? b = some o) → Fn s₀ env m' cm' { s' with heap := h₁, toks := tk₁ } ∧ SubQ s'.heap h₁ := by
    intro h₁ tk₁ hk₁
    refine ⟨F'.keepBut (I := I) (fun b o hb e => hk₁ b o (by simpa using hb) e) hIL hIC hI0, ?_⟩
    intro b o ys n e d
    refine hk₁ b o ?_ e
    simp only [List.mem_singleton]
    rintro rfl
    obtain ⟨o2, e2, _, hd2⟩ := hS
    rw [e] at e2; cases e2; rw [d] at hd2; cases hd2
  by_cases hlt : i < xs.length
  · refine W.item i _ _ _ (by omega) ⟨hS, hl'.isList⟩ fun v h₁ tk₁ hPv hst₁ hk₁ => ?_
    obtain ⟨xv, hxv, hRv⟩ := Paired.get' hpr (show vs.toList[i]? = some v by simpa using hPv)
    obtain ⟨Fs, Q1⟩ := keepI (tk₁ := tk₁) hk₁
    refine wpAny_assign_Name (hx m' cm' _ v _ _ Fs fun s₃ F₃ q₃ z₃ => ?_)
    obtain ⟨b, ys, rfl, hb, hbp⟩ := hRv
    have hbne : xv ≠ [] := hel xv (List.mem_of_getElem? hxv)
    have hbp' : b ≠ p := by
      rintro rfl
      obtain ⟨n, e⟩ := hb
      obtain ⟨n', e'⟩ := hp1
      rw [e] at e'
      injection e' with e'
      injection e' with _ _ e'
      injection e' with e'
      have := plist_size hbp
      rw [e'] at this
      exact hbne (List.length_eq_zero_iff.mp this.symm)
    have hb3 : s₃.heap.PlainList b ys := by
      obtain ⟨n, e⟩ := hb
      obtain ⟨n1, n2, n3⟩ := seqN b _ _ _ (kG _ _ e) rfl
      have e2 := hk' b _ (kG _ _ e) n1 n2 n3 hbp'
      exact ⟨n, q₃ b _ _ _ (Q1 b _ _ _ e2 rfl) rfl⟩
    refine wpAny_mono (wx_out (step i xv (.ref b) m' cm' s₃ hxv ⟨s'.heap, Q1.trans q₃, hJ'⟩ ⟨b, ys, rfl, hb3, hbp⟩ (by intro e; cases e; exact hbp' rfl) F₃)) (fun f s₄ h₄ => ?_) fun _ _ e => e.elim
    obtain ⟨rfl, m₂, cm₂, F₄, z₄, hJ₄⟩ := h₄
    refine ⟨xs.length + 1 - (i + 1), by omega, i + 1, m₂, cm₂, rfl, hlt, F₄, ?_, hJ₄, fun b o e n1 n2 n3 n4 => z₄ b o (z₃ b o (hk₁ b o (by simpa using n1) (hk' b o e n1 n2 n3 n4)) n2 n3) n2 n3 n4⟩
    obtain ⟨o, e, r⟩ := hst₁.1
    exact ⟨o, z₄ I o (z₃ I o e hIL hIC) hIL hIC (Ne.symm hpI), r⟩
  · have hin : i = xs.length := by omega
    subst hin
    refine W.done _ _ _ ⟨by rw [hlen]; exact hS, hl'.isList⟩ fun h₁ tk₁ hk₁ => wpAny_execs_nil ?_
    obtain ⟨Fs, Q1⟩ := keepI (tk₁ := tk₁) hk₁
    exact wx_out (k m' cm' _ Fs (hJ _ _ _ _ _ Q1 hJ'))
end
end MineQ
end

section
set_option Elab.async false
set_option maxRecDepth 100000
set_option linter.unusedVariables false
namespace MineQ
open PySem PySem.W PySem.Calls PyProof.Rows

def cellI (pp : List (List Int)) (wl : List Int) (k : Int) : Int := (pp.getD k.toNat []).getD (wl.getD k.toNat 0).toNat 0
def paidOf (pp : List (List Int)) (wl : List Int) : List Int := (upto wl.length).map (cellI pp wl)
def planOf (pp : List (List Int)) (wl : List Int) : Int × Int := ((paidOf pp wl).sum, (((paidOf pp wl).filter fun x => decide (0 < x)).length : Nat))
/-- the way lies within the table -/
def Fits (pp : List (List Int)) (wl : List Int) : Prop := ∀ k : Nat, k < wl.length → ∃ row j, pp[k]? = some row ∧ wl[k]? = some j ∧ 0 ≤ j ∧ j < 2 ^ 63 ∧ j.toNat < row.length

section
variable {prog : Program} {w : World} {A : Around} {env : Env} {H : Heap} {s : Shared}
theorem ev_cellI {x1 x2 x3 : Str} {p1 p2 p3 p4 p5 p6 p7 : Pos} {pp : List (List Int)} {wl : List Int} {k : Int} (hf : Fits pp wl) (hk : k ∈ upto wl.length) (hl : wl.length ≤ 100)
    (h1 : Ev prog w A env H (.Name x1 p1) (isL isLI pp)) (h2 : ∀ p, Ev prog w A env H (.Name x2 p) (isI k)) (h3 : Ev prog w A env H (.Name x3 p4) (isL isI wl)) :
    Ev prog w A env H (.Subscript (.Subscript (.Name x1 p1) (.Name x2 p2) p3) (.Subscript (.Name x3 p4) (.Name x2 p5) p6) p7) (isI (cellI pp wl k)) := by
  obtain ⟨k0, k1⟩ := mem_upto hk
  obtain ⟨row, j, e1, e2, j0, j1, j2⟩ := hf k.toNat (by omega)
  have e3 : row[j.toNat]? = some (cellI pp wl k) := by
    unfold cellI
    simp only [List.getD_eq_getElem?_getD, e1, e2, Option.getD_some]
    rw [List.getElem?_eq_getElem j2]; rfl
  have hlt : k < 2 ^ 63 := by
    have : (wl.length : Int) ≤ 100 := by omega
    omega
  exact ev_idx (fun x => mono_I x) (ev_idx (R := isLI) mono_LI h1 (h2 _) k0 hlt e1) (ev_idx (fun x => mono_I x) h3 (h2 _) k0 hlt e2) j0 j1 e3
end

section
variable {prog : Program} {w : World} {A : Around} {s₀ s : Shared} {m cm : Str → Option Value} {L : Addr} {fl sl : List Int} {rl ol ms os : List Str}
theorem L3.upd {h : Heap} {x y : Str} {v u : Value} (K : L3 m cm h fl sl rl ol ms os) (a1 : Str.ofString "first" ≠ x) (a2 : Str.ofString "rows" ≠ x) (a3 : Str.ofString "other" ≠ x) (a4 : Str.ofString "missing" ≠ x)
    (b1 : Str.ofString "second" ≠ y) (b2 : Str.ofString "over" ≠ y) (b3 : Str.ofString "prices" ≠ y) : L3 (MineQ.upd m x v) (MineQ.upd cm y u) h fl sl rl ol ms os :=
  ⟨⟨⟨let ⟨v, a, b⟩ := K.fi; ⟨v, (upd_ne a1).trans a, b⟩, let ⟨v, a, b⟩ := K.se; ⟨v, (upd_ne b1).trans a, b⟩, let ⟨v, a, b⟩ := K.ro; ⟨v, (upd_ne a2).trans a, b⟩, let ⟨v, a, b⟩ := K.ot; ⟨v, (upd_ne a3).trans a, b⟩⟩,
    let ⟨v, a, b⟩ := K.mi; ⟨v, (upd_ne a4).trans a, b⟩, let ⟨v, a, b⟩ := K.ov; ⟨v, (upd_ne b2).trans a, b⟩⟩, let ⟨v, a, b⟩ := K.pr; ⟨v, (upd_ne b3).trans a, b⟩⟩
theorem L3.updL {h : Heap} {x : Str} {v : Value} (K : L3 m cm h fl sl rl ol ms os) (a1 : Str.ofString "first" ≠ x) (a2 : Str.ofString "rows" ≠ x) (a3 : Str.ofString "other" ≠ x) (a4 : Str.ofString "missing" ≠ x) : L3 (MineQ.upd m x v) cm h fl sl rl ol ms os :=
  ⟨⟨⟨let ⟨v, a, b⟩ := K.fi; ⟨v, (upd_ne a1).trans a, b⟩, K.se, let ⟨v, a, b⟩ := K.ro; ⟨v, (upd_ne a2).trans a, b⟩, let ⟨v, a, b⟩ := K.ot; ⟨v, (upd_ne a3).trans a, b⟩⟩,
    let ⟨v, a, b⟩ := K.mi; ⟨v, (upd_ne a4).trans a, b⟩, K.ov⟩, K.pr⟩

/-- the table of prices -/
def tabP (fl sl : List Int) : List (List Int) := fl.map fun a => sl.map fun b => price a b

/-- between the turns -/
structure J6 (Hs : Heap) (p : Addr) (fl sl : List Int) (rl ol ms os : List Str) (ps : List (Int × Int)) (m cm : Str → Option Value) (h : Heap) : Prop where
  q : SubQ Hs h
  K : L3 m cm Hs fl sl rl ol ms os
  mp : m (Str.ofString "plans") = some (.ref p)
  lp : ∃ items, h.PlainList p items ∧ Paired (fun u x => isP2 isI isI x u h) items.toList ps
theorem J6.up {Hs h h' : Heap} {p : Addr} {ps : List (Int × Int)} (x : J6 Hs p fl sl rl ol ms os ps m cm h) (k : SubQ h h') : J6 Hs p fl sl rl ol ms os ps m cm h' :=
  ⟨x.q.trans k, x.K, x.mp, let ⟨i, a, b⟩ := x.lp; ⟨i, plain_q k a, b.mono fun u x r => mono_P2 (fun x => mono_I x) (fun x => mono_I x) _ _ _ _ k r⟩⟩

set_option maxHeartbeats 4000000 in
theorem law_6 {Q : Flow → Shared → Prop} {E : Value → Shared → Prop} (V : LA A (lev w L)) (B : Bs w s₀.heap) (F : Fn s₀ (lev w L) m cm s) (K : L3 m cm s.heap fl sl rl ol ms os) (h1 : fl.length ≤ 4) (h0 : fl ≠ [])
    (hfit : ∀ wl ∈ waysN fl.length, Fits (tabP fl sl) wl)
    (k : ∀ p m' cm' s', Fn s₀ (lev w L) m' cm' s' → J6 s.heap p fl sl rl ol ms os ((waysN fl.length).map (planOf (tabP fl sl))) m' cm' s'.heap → Wx prog w A (execs ((bodyAt w 104).drop 11) (lev w L)) Q E s') :
    Wx prog w A (execs ((bodyAt w 104).drop 9) (lev w L)) Q E s := by
  have dep5 : A.depth + 5 < recursionLimit := by have := V.dep; omega
  -- plans
  refine x_assign F (P := fun v h => isL (isP2 isI isI) [] v h ∧ ∀ a, v = .ref a → s.heap.get? a = none) (evf_list (R := isP2 isI isI) (xs := []) (mono_P2 (fun x => mono_I x) (fun x => mono_I x)) (es_nil fun _ _ => Paired.nil) (by decide)).new (mono_new (mono_L (mono_P2 (fun x => mono_I x) (fun x => mono_I x)) [])) (fun v s₂ F₂ q₂ z₂ hv => ?_)
  obtain ⟨⟨p, items, rfl, hl, hp⟩, hnew⟩ := hv
  have hps : s.heap.get? p = none := hnew p rfl
  have hpn : s₀.heap.get? p = none := sub_none F.keep hps
  have hi0 : items = #[] := by
    have := plist_size hp
    simpa using this
  subst hi0
  have B2 : Bs w s₂.heap := B.up F₂.keep
  obtain ⟨l1, l2⟩ := waysN_len fl.length h1
  have hpos : 0 < fl.length := List.length_pos_iff.mpr h0
  have K2 : L3 (MineQ.upd m (Str.ofString "plans") (.ref p)) cm s.heap fl sl rl ol ms os := K.updL (by decide) (by decide) (by decide) (by decide)
  have hfirst : ∀ p', Ev prog w A (lev w L) s₂.heap (.Name (Str.ofString "first") p') (isL isI fl) := fun p' => by
    obtain ⟨v, a, b⟩ := K2.fi
    exact ev_name rfl (F₂.loc a) fun h' hs' => mono_L (fun x => mono_I x) _ _ _ _ (q₂.trans hs'.q) b
  refine x_forP (p := p) (xs := waysN fl.length) V.hh (fun e => by
      have : (waysN fl.length).length ≠ 0 := by
        have h4 : ∀ n, n ≤ 4 → (waysN n).length ≠ 0 := by decide +kernel
        exact h4 _ h1
      exact this (by rw [e]; rfl)) (fun wl hm e => by have := l1 wl hm; rw [e] at this; simp at this; omega) F₂ (stores_cell (x := Str.ofString "way") (c := L + 1 + 1 + 1 + 1) rfl rfl)
    (ev_call1 (ev_name rfl (B2.glob (glob87 w) rfl rfl) fun _ _ => rfl) (kp_fn B2 (look87 w) (data87 w)) (mono_I _) (ev_call1 (ev_name rfl (sees_len B2 rfl rfl rfl) fun _ _ => rfl) (.built _) (mono_L (fun x => mono_I x) fl) (hfirst _) (fun v s hs hv => g_len hv (by omega))) (fun v s hs hv => c_ways h1 V.hh dep5 (B2.up hs) hv))
    hl hpn (J := fun i m cm h => J6 s.heap p fl sl rl ol ms os (((waysN fl.length).take i).map (planOf (tabP fl sl))) m cm h) (fun i m cm h h' q x => x.up q)
    ⟨q₂, K2, upd_eq, ⟨#[], hl, by simpa using Paired.nil⟩⟩ (fun i wl v m₁ cm₁ s₃ hwl hj hv hvp F₃ => ?_) (fun m' cm' s' F' hj => k p m' cm' s' F' (by rw [List.take_length] at hj; exact hj))
  dsimp only at F₃
  obtain ⟨hh₀, hq₀, hj⟩ := hj
  have J3 := hj.up hq₀
  have hmem : wl ∈ waysN fl.length := List.mem_of_getElem? hwl
  have hlen : wl.length = fl.length := l1 wl hmem
  have B3 : Bs w s₃.heap := B.up F₃.keep
  have hway : ∀ p', Ev prog w A (lev w L) s₃.heap (.Name (Str.ofString "way") p') (isL isI wl) := fun p' => ev_name rfl (F₃.cel (c := L + 1 + 1 + 1 + 1) rfl upd_eq) fun h' hs' => mono_LI wl _ _ _ hs'.q hv
  obtain ⟨vp, pr1, pr2⟩ := J3.K.pr
  -- paid
  refine x_assignComp F₃ rfl rfl (cl := [(Str.ofString "way", L + 1 + 1 + 1 + 1), (Str.ofString "prices", L + 1 + 1 + 1)]) rfl rfl (by decide) (Or.inl ⟨rfl, fun _ => rfl, fun _ => rfl⟩) (xs := upto wl.length) (R := isI) (Q := isI) (p := fun _ => true) (f := cellI (tabP fl sl) wl)
    (src_range V.hh (ev_name rfl (sees_range B3 rfl rfl rfl) fun _ _ => rfl) (ev_call1 (ev_name rfl (sees_len B3 rfl rfl rfl) fun _ _ => rfl) (.built _) (mono_L (fun x => mono_I x) wl) (hway _) (fun v s hs hv => g_len hv (by omega))) rfl (by omega))
    (by rw [upto_len]; omega) own_I mono_I (fun x => mono_I x) (fun _ _ _ _ _ _ _ _ => t_nil) (fun Lc kv u s₄ hkv _ hs₄ hu hsee => ?_) (fun vd s₄ F₄ q₄ z₄ hd₄ => ?_)
  · exact ev_fI (ev_cellI (hfit wl hmem) hkv (by omega) (ev_name rfl (.cell (L + 1 + 1 + 1) rfl rfl (seesC F₃ rfl ((upd_ne (by decide)).trans pr1) hs₄)) fun h' hs' => mono_L mono_LI _ _ _ _ (J3.q.trans (Sub.trans hs₄ hs').q) pr2)
      (fun p' => ev_name rfl hsee fun _ _ => hu) (ev_name rfl (.cell (L + 1 + 1 + 1 + 1) rfl rfl (seesC F₃ rfl upd_eq hs₄)) fun h' hs' => mono_LI wl _ _ _ (Sub.trans hs₄ hs').q hv)) s₄ (fun _ _ e => e)
  rw [filter_true] at hd₄
  have hd₄ : isL isI (paidOf (tabP fl sl) wl) vd s₄.heap := hd₄
  have hpl : (paidOf (tabP fl sl) wl).length ≤ 100 := by unfold paidOf; rw [List.length_map, upto_len]; omega
  have B4 : Bs w s₄.heap := B.up F₄.keep
  have J4 := J3.up q₄
  have hpaid : ∀ p', Ev prog w A (lev w L) s₄.heap (.Name (Str.ofString "paid") p') (isL isI (paidOf (tabP fl sl) wl)) := fun p' => ev_name rfl (F₄.loc upd_eq) fun h' hs' => mono_L (fun x => mono_I x) _ _ _ _ hs'.q hd₄
  -- append
  obtain ⟨it4, il4, ip4⟩ := J4.lp
  have hsz4 : it4.size ≤ 10000 := by
    rw [plist_size ip4]
    have h4 : ∀ n, n ≤ 4 → (waysN n).length ≤ 24 := by decide +kernel
    have := h4 _ h1
    simp; omega
  refine x_append F₄ (F₄.loc ((upd_ne (by decide)).trans J4.mp)) il4 hsz4 hpn (P := isP2 isI isI (planOf (tabP fl sl) wl)) (evf_pair (fun x => mono_I x) (fun x => mono_I x)
      (ev_call1 (ev_name rfl (sees_sum B4 rfl rfl rfl) fun _ _ => rfl) (.built _) (mono_L (fun x => mono_I x) _) (hpaid _) (fun v s hs hv => g_sum V.hh hv))
      (ev_call1 (ev_name rfl (sees_len B4 rfl rfl rfl) fun _ _ => rfl) (.built _) (mono_L (fun x => mono_I x) ((paidOf (tabP fl sl) wl).filter fun x => decide (0 < x)))
        (EvF.imp (evf_comp (cl := []) rfl rfl (by decide) (Or.inl ⟨rfl, fun _ => rfl, fun _ => rfl⟩) (xs := paidOf (tabP fl sl) wl) (R := isI) (Q := isI) (p := fun x => decide (0 < x)) (f := fun x => x)
          (src_list V.hh (fun x => mono_I x) (hpaid _)) (by omega) own_I (fun x => mono_I x) (fun Lc xv v s₅ hm hs₅ hv hsee => t_one (et_gt (ev_name rfl hsee fun _ _ => hv) ev_int))
          (fun Lc xv v s₅ _ _ hs₅ hv hsee => ev_fI (ev_name rfl hsee fun _ _ => hv) s₅ (fun _ _ e => e))) (fun v h hv => by rw [List.map_id'] at hv; exact hv)).ev
        (fun v s hs hv => g_len hv (Nat.le_trans (List.length_filter_le _ _) (by omega))))).ev
    (fun v h₁ s' k₁ hv' hs' F' hl' => x_nil ⟨rfl, _, _, F', ?_, ?_⟩)
  · intro b o e n1 n2 n3
    exact hs'.extBut b o n3 (k₁ b o (z₄ b o e n1 n2))
  · have pair_same : ∀ (x : Int × Int) (u : Value), isP2 isI isI x u h₁ → isP2 isI isI x u s'.heap := by
      rintro x u ⟨a, v1, v2, rfl, ⟨n, hT⟩, e1, e2⟩
      refine ⟨a, v1, v2, rfl, ⟨n, hs'.extBut a _ ?_ hT⟩, e1, e2⟩
      rintro rfl
      obtain ⟨n', e⟩ := il4
      rw [k₁ _ _ e] at hT
      have hc := congrArg Obj.cls (Option.some.inj hT)
      injection hc with hc
      exact absurd hc (by decide)
    have J5 := J4.up (Sub.q k₁)
    obtain ⟨it5, il5, ip5⟩ := J5.lp
    have hit : it5 = it4 := by
      obtain ⟨n, e⟩ := il5
      obtain ⟨n', e'⟩ := il4
      rw [k₁ _ _ e'] at e
      injection e with e
      injection e with _ _ e
      injection e with e
      exact e.symm
    subst hit
    refine ⟨fun b o ys n e d => hs'.extBut b o (fun q => by rw [q, hps] at e; cases e) (J5.q b o ys n e d), J3.K.upd (by decide) (by decide) (by decide) (by decide) (by decide) (by decide) (by decide), (upd_ne (by decide)).trans J3.mp, ⟨_, hl', ?_⟩⟩
    have htake : ((waysN fl.length).take (i + 1)).map (planOf (tabP fl sl)) = ((waysN fl.length).take i).map (planOf (tabP fl sl)) ++ [planOf (tabP fl sl) wl] := by rw [List.take_add_one, hwl]; simp
    rw [htake, Array.toList_push]
    exact Paired.snoc (ip5.mono fun u x r => pair_same x u r) (pair_same _ _ hv')
end
end MineQ
end

section
set_option Elab.async false
set_option maxRecDepth 100000
set_option linter.unusedVariables false
namespace MineQ
open PySem PySem.W PySem.Calls PyProof.Rows

def minL : List Int → Int
  | [] => 0
  | x :: r => bestOf (fun a b => decide (a < b)) x r
def minP : List (Int × Int) → Int × Int
  | [] => (0, 0)
  | x :: r => bestOf ltP x r
def tabS (ms os : List Str) : List (List Int) := ms.map fun a => os.map fun b => stepsOf a b
def leastOf (ms os : List Str) : Int := minL ((waysN ms.length).map fun wl => (paidOf (tabS ms os) wl).sum)

section
variable {prog : Program} {w : World} {A : Around} {s : Shared}
theorem g_minL {v : Value} {l : List Int} (hh : A.handled = none) (hne : l ≠ []) (hv : isL isI l v s.heap) : Gv prog w A (call (.builtin "min") [v]) (isI (minL l)) s := by
  cases l with
  | nil => exact absurd rfl hne
  | cons x r => exact g_minI hh hv
theorem g_minPL {v : Value} {l : List (Int × Int)} (hh : A.handled = none) (hu : A.units + 1 < cLine) (hne : l ≠ []) (hv : isL (isP2 isI isI) l v s.heap) : Gv prog w A (call (.builtin "min") [v]) (isP2 isI isI (minP l)) s := by
  cases l with
  | nil => exact absurd rfl hne
  | cons x r => exact g_minP hh hu hv
end
theorem ways_ne {n : Nat} (h : n ≤ 4) : waysN n ≠ [] := by
  have h4 : ∀ n, n ≤ 4 → (waysN n).length ≠ 0 := by decide +kernel
  intro e
  exact h4 n h (by rw [e]; rfl)

structure L6 (m cm : Str → Option Value) (h : Heap) (ms os : List Str) (ps : List (Int × Int)) : Prop where
  mi : ∃ v, m (Str.ofString "missing") = some v ∧ isL isS ms v h
  ov : ∃ v, cm (Str.ofString "over") = some v ∧ isL isS os v h
  pl : ∃ v, m (Str.ofString "plans") = some v ∧ isL (isP2 isI isI) ps v h

section
variable {prog : Program} {w : World} {A : Around} {s₀ s : Shared} {m cm : Str → Option Value} {L : Addr} {fl sl : List Int} {rl ol ms os : List Str} {ps : List (Int × Int)}
theorem J6.l6 {Hs h : Heap} {p : Addr} (x : J6 Hs p fl sl rl ol ms os ps m cm h) : L6 m cm h ms os ps :=
  ⟨(x.K.q x.q).mi, (x.K.q x.q).ov, ⟨_, x.mp, let ⟨i, a, b⟩ := x.lp; ⟨p, i, rfl, a, b⟩⟩⟩
theorem L6.q {h h' : Heap} (x : L6 m cm h ms os ps) (q : SubQ h h') : L6 m cm h' ms os ps :=
  ⟨let ⟨v, a, b⟩ := x.mi; ⟨v, a, mono_L (fun x => mono_S x) _ _ _ _ q b⟩, let ⟨v, a, b⟩ := x.ov; ⟨v, a, mono_L (fun x => mono_S x) _ _ _ _ q b⟩, let ⟨v, a, b⟩ := x.pl; ⟨v, a, mono_L (mono_P2 (fun x => mono_I x) (fun x => mono_I x)) _ _ _ _ q b⟩⟩

set_option maxHeartbeats 4000000 in
theorem law_7 {Q : Flow → Shared → Prop} {E : Value → Shared → Prop} (V : LA A (lev w L)) (B : Bs w s₀.heap) (F : Fn s₀ (lev w L) m cm s) (K : L6 m cm s.heap ms os ps) (h1 : ms.length ≤ 4) (h2 : os.length ≤ 100)
    (okm : ∀ x ∈ ms, RowOk x) (oko : ∀ x ∈ os, RowOk x) (hfit : ∀ wl ∈ waysN ms.length, Fits (tabS ms os) wl)
    (k : ∀ m' cm' s', Fn s₀ (lev w L) m' cm' s' → L6 m' cm' s'.heap ms os ps → (∃ t, m' (Str.ofString "least") = some (.int (leastOf ms os) t)) → Wx prog w A (execs ((bodyAt w 104).drop 13) (lev w L)) Q E s') :
    Wx prog w A (execs ((bodyAt w 104).drop 11) (lev w L)) Q E s := by
  have B1 : Bs w s.heap := B.up F.keep
  obtain ⟨vm, m1, m2⟩ := K.mi
  obtain ⟨vo, c1, c2⟩ := K.ov
  have dep5 : A.depth + 5 < recursionLimit := by have := V.dep; omega
  -- steps
  refine x_assignC F (P := isL isLI (tabS ms os)) (EvF.imp (evf_comp (cl := [(Str.ofString "over", L + 1 + 1)]) rfl rfl (by decide) (Or.inr ⟨rfl, fun _ => rfl, fun _ => rfl⟩) (xs := ms) (R := isS) (Q := isLI) (p := fun _ => true) (f := fun a => os.map fun b => stepsOf a b)
      (src_list V.hh (fun x => mono_S x) (ev_name rfl (F.loc m1) fun h' hs' => mono_L (fun x => mono_S x) _ _ _ _ hs'.q m2)) (by omega) own_LI (fun x => mono_S x) (fun _ _ _ _ _ _ _ _ => t_nil) (fun Lc xv v s₄ hxm _ hs₄ hv hsee => ?_))
      (fun v h hv => by rw [filter_true] at hv; exact hv)).ev (mono_L mono_LI _) (fun vr s₄ F₄ q₄ z₄ hr₄ => ?_) (hc := rfl)
  · have hone : s₄.heap.IsCell (Lc + 1) (some v) := hsee.isCell rfl rfl
    have hsec : s₄.heap.IsCell (L + 1 + 1) (some vo) := seesC F rfl c1 hs₄
    have B4 := B1.up hs₄
    refine EvF.imp (evf_comp (cl := [(Str.ofString "row", Lc + 1)]) rfl rfl (by decide) (Or.inl ⟨rfl, fun _ => rfl, fun _ => rfl⟩) (xs := os) (R := isS) (Q := isI) (p := fun _ => true) (f := fun b => stepsOf xv b)
      (src_list V.hh (fun x => mono_S x) (ev_name rfl (.cell (L + 1 + 1) rfl rfl hsec) fun h' hs' => mono_L (fun x => mono_S x) _ _ _ _ (Sub.trans hs₄ hs').q c2)) (by omega) own_I (fun x => mono_S x) (fun _ _ _ _ _ _ _ _ => t_nil) (fun Ld yv u s₅ hym _ hs₅ hu hsee2 => ?_))
      (fun v h hv => by rw [filter_true] at hv; exact hv) s₄ (fun _ _ e => e)
    have B5 := B4.up hs₅
    exact ev_fI (ev_call2 (ev_name rfl (B5.glob (glob99 w) rfl rfl) fun _ _ => rfl) (kp_fn B5 (look99 w) (data99 w)) (mono_S xv) (mono_S yv) (ev_name rfl (.cell (Lc + 1) rfl rfl (hone.keeps hs₅)) fun _ _ => hv) (ev_name rfl hsee2 fun _ _ => hu)
      (fun v v2 s hs hv hv2 => c_steps V.hh dep5 (B5.up hs) (okm xv hxm) (oko yv hym) hv hv2)) s₅ (fun _ _ e => e)
  have B4 : Bs w s₄.heap := B.up F₄.keep
  have hm4 := mono_L (fun x => mono_S x) _ _ _ _ q₄ m2
  obtain ⟨l1, l2⟩ := waysN_len ms.length h1
  have h24 : (waysN ms.length).length ≤ 24 := by
    have h4 : ∀ n, n ≤ 4 → (waysN n).length ≤ 24 := by decide +kernel
    exact h4 _ h1
  have hmis : ∀ p, Ev prog w A (lev w L) s₄.heap (.Name (Str.ofString "missing") p) (isL isS ms) := fun p => ev_name rfl (F₄.loc m1) fun h' hs' => mono_L (fun x => mono_S x) _ _ _ _ hs'.q hm4
  -- least
  refine x_assign F₄ (P := isI (leastOf ms os)) (ev_call1 (ev_name rfl (sees_min B4 rfl rfl rfl) fun _ _ => rfl) (.built _) (mono_L (fun x => mono_I x) ((waysN ms.length).map fun wl => (paidOf (tabS ms os) wl).sum))
    (EvF.imp (evf_comp (cl := [(Str.ofString "steps", L + 1 + 1 + 1 + 1 + 1)]) rfl rfl (by decide) (Or.inr ⟨rfl, fun _ => rfl, fun _ => rfl⟩) (xs := waysN ms.length) (R := isLI) (Q := isI) (p := fun _ => true) (f := fun wl => (paidOf (tabS ms os) wl).sum)
      (src_list V.hh mono_LI (ev_call1 (ev_name rfl (B4.glob (glob87 w) rfl rfl) fun _ _ => rfl) (kp_fn B4 (look87 w) (data87 w)) (mono_I _) (ev_call1 (ev_name rfl (sees_len B4 rfl rfl rfl) fun _ _ => rfl) (.built _) (mono_L (fun x => mono_S x) ms) (hmis _) (fun v s hs hv => g_len hv (by omega))) (fun v s hs hv => c_ways h1 V.hh dep5 (B4.up hs) hv)))
      (by omega) own_I mono_LI (fun _ _ _ _ _ _ _ _ => t_nil) (fun Lc wl v s₅ hmem _ hs₅ hv hsee => ?_)) (fun v h hv => by rw [filter_true] at hv; exact hv)).ev
    (fun v s hs hv => g_minL V.hh (by simp; exact ways_ne h1) hv)) (mono_I _) (fun vl s₅ F₅ q₅ z₅ hl₅ => ?_)
  · have hway : s₅.heap.IsCell (Lc + 1) (some v) := hsee.isCell rfl rfl
    have hstp : s₅.heap.IsCell (L + 1 + 1 + 1 + 1 + 1) (some vr) := seesC F₄ rfl upd_eq hs₅
    have B5 := B4.up hs₅
    have hlen : wl.length = ms.length := l1 wl hmem
    refine ev_fI (ev_call1 (ev_name rfl (sees_sum B5 rfl rfl rfl) fun _ _ => rfl) (.built _) (mono_L (fun x => mono_I x) (paidOf (tabS ms os) wl))
      (EvF.imp (evf_comp (cl := [(Str.ofString "way", Lc + 1), (Str.ofString "steps", L + 1 + 1 + 1 + 1 + 1)]) rfl rfl (by decide) (Or.inl ⟨rfl, fun _ => rfl, fun _ => rfl⟩) (xs := upto wl.length) (R := isI) (Q := isI) (p := fun _ => true) (f := cellI (tabS ms os) wl)
        (src_range V.hh (ev_name rfl (sees_range B5 rfl rfl rfl) fun _ _ => rfl) (ev_call1 (ev_name rfl (sees_len B5 rfl rfl rfl) fun _ _ => rfl) (.built _) (mono_LI wl) (ev_name rfl hsee fun h' hs' => mono_LI wl _ _ _ hs'.q hv) (fun v s hs hv => g_len hv (by omega))) rfl (by omega))
        (by rw [upto_len]; omega) own_I (fun x => mono_I x) (fun _ _ _ _ _ _ _ _ => t_nil) (fun Ld kv u s₆ hkv _ hs₆ hu hsee2 => ?_)) (fun v h hv => by rw [filter_true] at hv; exact hv)).ev
      (fun v s hs hv => g_sum V.hh hv)) s₅ (fun _ _ e => e)
    exact ev_fI (ev_cellI (hfit wl hmem) hkv (by omega) (ev_name rfl (.cell (L + 1 + 1 + 1 + 1 + 1) rfl rfl (hstp.keeps hs₆)) fun h' hs' => mono_L mono_LI _ _ _ _ (Sub.trans hs₅ (Sub.trans hs₆ hs')).q hr₄)
      (fun p' => ev_name rfl hsee2 fun _ _ => hu) (ev_name rfl (.cell (Lc + 1) rfl rfl (hway.keeps hs₆)) fun h' hs' => mono_LI wl _ _ _ (Sub.trans hs₆ hs').q hv)) s₆ (fun _ _ e => e)
  obtain ⟨t, rfl⟩ := hl₅
  have K5 := K.q (q₄.trans q₅)
  refine k _ _ s₅ F₅ ⟨?_, ?_, ?_⟩ ⟨t, upd_eq⟩
  · obtain ⟨v, a, b⟩ := K5.mi; exact ⟨v, (upd_ne (by decide)).trans a, b⟩
  · obtain ⟨v, a, b⟩ := K5.ov; exact ⟨v, (upd_ne (by decide)).trans a, b⟩
  · obtain ⟨v, a, b⟩ := K5.pl; exact ⟨v, (upd_ne (by decide)).trans a, b⟩

set_option maxHeartbeats 4000000 in
theorem law_8 {le : Int} {t : Tok} {E : Value → Shared → Prop} (V : LA A (lev w L)) (B : Bs w s₀.heap) (F : Fn s₀ (lev w L) m cm s) (K : L6 m cm s.heap ms os ps) (hle : m (Str.ofString "least") = some (.int le t)) (h1 : ms.length ≤ 100) (hne : ps ≠ []) (h2 : ps.length ≤ 1000)
    (e1 : minP ps = (le, (ms.length : Int))) (e2 : minP (ps.map fun p => (p.2, p.1)) = ((ms.length : Int), le)) :
    Wx prog w A (execs ((bodyAt w 104).drop 13) (lev w L)) (fun f s' => ∃ v, f = .ret v ∧ isB true v s'.heap ∧ Keeps s₀ s') E s := by
  have B1 : Bs w s.heap := B.up F.keep
  obtain ⟨vm, m1, m2⟩ := K.mi
  obtain ⟨vp, p1, p2⟩ := K.pl
  have u1 : A.units + 1 < cLine := by have := V.un; omega
  have u0 : A.units < cLine := by omega
  refine x_if (c := (minP ps != (le, (ms.length : Int)))) (et_cmp (mono_P2 (fun x => mono_I x) (fun x => mono_I x) _)
    (ev_call1 (ev_name rfl (sees_min B1 rfl rfl rfl) fun _ _ => rfl) (.built _) (mono_L (mono_P2 (fun x => mono_I x) (fun x => mono_I x)) ps) (ev_name rfl (F.loc p1) fun h' hs' => mono_L (mono_P2 (fun x => mono_I x) (fun x => mono_I x)) _ _ _ _ hs'.q p2) (fun v s hs hv => g_minPL V.hh u1 hne hv))
    (evf_pair (fun x => mono_I x) (fun x => mono_I x) (ev_name rfl (F.loc hle) fun _ _ => ⟨t, rfl⟩) (ev_call1 (ev_name rfl (sees_len B1 rfl rfl rfl) fun _ _ => rfl) (.built _) (mono_L (fun x => mono_S x) ms) (ev_name rfl (F.loc m1) fun h' hs' => mono_L (fun x => mono_S x) _ _ _ _ hs'.q m2) (fun v s hs hv => g_len hv (by omega)))).ev
    (fun a b s hs ha hb => g_neP u0 ha hb)) fun s₁ k₁ => ?_
  rw [e1, bne_self_eq_false]
  simp only [Bool.false_eq_true, if_false]
  have F₁ := F.keeps k₁
  have B2 : Bs w s₁.heap := B.up F₁.keep
  have m3 := mono_L (fun x => mono_S x) _ _ _ _ (ksub k₁).q m2
  have p3 := mono_L (mono_P2 (fun x => mono_I x) (fun x => mono_I x)) _ _ _ _ (ksub k₁).q p2
  refine x_nil (x_return (P := isB true) (ev_cmp (mono_P2 (fun x => mono_I x) (fun x => mono_I x) (minP (ps.map fun p => (p.2, p.1))))
    (ev_call1 (ev_name rfl (sees_min B2 rfl rfl rfl) fun _ _ => rfl) (.built _) (mono_L (mono_P2 (fun x => mono_I x) (fun x => mono_I x)) (ps.map fun p => (p.2, p.1)))
      (evf_compP (cl := []) (Q := isP2 isI isI) (f := fun p => (p.2, p.1)) V.hh rfl rfl (by decide) rfl rfl (by decide) (fun _ => rfl) (fun _ => rfl) (ev_name rfl (F₁.loc p1) fun h' hs' => mono_L (mono_P2 (fun x => mono_I x) (fun x => mono_I x)) _ _ _ _ hs'.q p3) (by omega) own_PI
        (fun Lc p v1 v2 s₂ _ _ hv1 hv2 hs1 hs2 => EvF.imp (evf_pair (fun x => mono_I x) (fun x => mono_I x) (ev_name rfl hs2 fun _ _ => hv2) (ev_name rfl hs1 fun _ _ => hv1)) (fun _ _ h => h) s₂ (fun _ _ e => e))).ev
      (fun v s hs hv => g_minPL V.hh u1 (by simpa using hne) hv))
    (evf_pair (x := ((ms.length : Nat) : Int)) (y := le) (fun x => mono_I x) (fun x => mono_I x) (ev_call1 (ev_name rfl (sees_len B2 rfl rfl rfl) fun _ _ => rfl) (.built _) (mono_L (fun x => mono_S x) ms) (ev_name rfl (F₁.loc m1) fun h' hs' => mono_L (fun x => mono_S x) _ _ _ _ hs'.q m3) (fun v s hs hv => g_len hv (by omega))) (ev_name rfl (F₁.loc hle) fun _ _ => ⟨t, rfl⟩)).ev
    (fun a b s hs ha hb => by
      have := g_eqP (prog := prog) (w := w) u0 ha hb
      rw [e2, beq_self_eq_true] at this
      exact this)) fun v s' hv kk => ⟨v, rfl, hv, ktr F₁.done kk⟩)
end
end MineQ
end

section
set_option linter.unusedVariables false
namespace MineQ

theorem perm_map_lift {α β : Type} {g : α → β} {Y Z : List β} (h : Y.Perm Z) : ∀ l : List α, Z = l.map g → ∃ l' : List α, l'.Perm l ∧ l'.map g = Y := by
  induction h with
  | nil => intro l e; exact ⟨l, .refl _, e.symm⟩
  | cons x _ ih =>
    intro l e
    cases l with
    | nil => cases e
    | cons a l =>
      rw [List.map_cons] at e
      injection e with e1 e2
      obtain ⟨l', p, q⟩ := ih l e2
      exact ⟨a :: l', p.cons a, by rw [List.map_cons, q, e1]⟩
  | swap x y r =>
    intro l e
    match l, e with
    | a :: b :: l, e =>
      simp only [List.map_cons] at e
      injection e with e1 e2
      injection e2 with e2 e3
      exact ⟨b :: a :: l, .swap .., by simp only [List.map_cons, ← e1, ← e2, ← e3]⟩
  | trans _ _ ih1 ih2 =>
    intro l e
    obtain ⟨l2, p2, q2⟩ := ih2 l e
    obtain ⟨l1, p1, q1⟩ := ih1 l2 q2.symm
    exact ⟨l1, p1.trans p2, q1⟩

structure Met {α : Type} (ok : α → Prop) (d : α → α → Int) : Prop where
  self : ∀ x, ok x → d x x = 0
  nn : ∀ x y, ok x → ok y → 0 ≤ d x y
  pos : ∀ x y, ok x → ok y → x ≠ y → 0 < d x y
  tri : ∀ x y z, ok x → ok y → ok z → d x z ≤ d x y + d y z

def costs {α : Type} (d : α → α → Int) (L : List (α × α)) : List Int := L.map fun p => d p.1 p.2
def cost {α : Type} (d : α → α → Int) (L : List (α × α)) : Int := (costs d L).sum
def chg {α : Type} (d : α → α → Int) (L : List (α × α)) : Nat := ((costs d L).filter fun x => decide (0 < x)).length
def Plan {α : Type} (R O : List α) (L : List (α × α)) : Prop := (L.map Prod.fst).Perm R ∧ (L.map Prod.snd).Perm O

section
variable {α : Type} {ok : α → Prop} {d : α → α → Int}
theorem cost_cons (p : α × α) (L : List (α × α)) : cost d (p :: L) = d p.1 p.2 + cost d L := by simp [cost, costs]
theorem chg_cons (p : α × α) (L : List (α × α)) : chg d (p :: L) = (if 0 < d p.1 p.2 then 1 else 0) + chg d L := by
  unfold chg costs
  rw [List.map_cons, List.filter_cons]
  by_cases h : 0 < d p.1 p.2
  · simp [h]; omega
  · simp [h]
theorem sum_perm {a b : List Int} (h : a.Perm b) : a.sum = b.sum := by
  induction h with
  | nil => rfl
  | cons x _ ih => simp [ih]
  | swap x y r => simp; omega
  | trans _ _ a b => exact a.trans b
theorem cost_perm {L L' : List (α × α)} (h : L.Perm L') : cost d L = cost d L' := sum_perm (h.map _)
theorem chg_perm {L L' : List (α × α)} (h : L.Perm L') : chg d L = chg d L' := ((h.map _).filter _).length_eq
theorem Plan.perm {R O R' O' : List α} {L L' : List (α × α)} (h : Plan R O L) (hR : R.Perm R') (hO : O.Perm O') (hL : L.Perm L') : Plan R' O' L' :=
  ⟨((hL.symm.map _).trans h.1).trans hR, ((hL.symm.map _).trans h.2).trans hO⟩

theorem plan_nil {R : List α} {L : List (α × α)} (h : Plan R [] L) : R = [] ∧ L = [] := by
  have := h.2.length_eq
  simp at this
  subst this
  exact ⟨by have := h.1.length_eq; simpa using this.symm, rfl⟩

/-- one common row may be left alone -/
theorem drop_one (M : Met ok d) {x : α} {R O : List α} {L : List (α × α)} (h : Plan (x :: R) (x :: O) L) (hR : ∀ y ∈ x :: R, ok y) (hO : ∀ y ∈ x :: O, ok y) :
    ∃ L', Plan R O L' ∧ cost d L' ≤ cost d L ∧ chg d L' ≤ chg d L := by
  have hx : ok x := hR x (List.mem_cons_self ..)
  have m1 : x ∈ L.map Prod.fst := h.1.mem_iff.mpr (List.mem_cons_self ..)
  obtain ⟨⟨a, y⟩, ha, e⟩ := List.mem_map.mp m1
  obtain rfl : x = a := Eq.symm e
  obtain ⟨s, t, rfl⟩ := List.append_of_mem ha
  have p1 : (s ++ (x, y) :: t).Perm ((x, y) :: (s ++ t)) := List.perm_middle
  have h1 := h.perm (.refl _) (.refl _) p1
  rw [cost_perm p1, chg_perm p1, cost_cons, chg_cons]
  generalize s ++ t = L1 at h1
  have hy : ok y := hO y (h1.2.mem_iff.mp (by simp))
  obtain ⟨g1, g2⟩ := h1
  simp only [List.map_cons] at g1 g2
  replace g1 := g1.cons_inv
  by_cases hxy : y = x
  · subst hxy
    refine ⟨L1, ⟨g1, g2.cons_inv⟩, ?_, Nat.le_add_left _ _⟩
    show cost d L1 ≤ d y y + cost d L1
    rw [M.self y hy]; omega
  · have m2 : x ∈ L1.map Prod.snd := by
      have : x ∈ y :: L1.map Prod.snd := g2.mem_iff.mpr (List.mem_cons_self ..)
      rcases List.mem_cons.mp this with e | e
      · exact absurd e.symm hxy
      · exact e
    obtain ⟨⟨z, b⟩, hb, e⟩ := List.mem_map.mp m2
    obtain rfl : x = b := Eq.symm e
    obtain ⟨s, t, rfl⟩ := List.append_of_mem hb
    have p2 : (s ++ (z, x) :: t).Perm ((z, x) :: (s ++ t)) := List.perm_middle
    rw [cost_perm p2, chg_perm p2, cost_cons, chg_cons]
    replace g1 := (p2.symm.map Prod.fst).trans g1
    replace g2 := ((p2.symm.map Prod.snd).cons y).trans g2
    generalize s ++ t = L2 at g1 g2
    simp only [List.map_cons] at g1 g2
    have hz : ok z := hR z (List.mem_cons_of_mem _ (g1.mem_iff.mp (List.mem_cons_self ..)))
    have g3 : (y :: L2.map Prod.snd).Perm O := ((List.Perm.swap y x _).trans g2).cons_inv
    have tr := M.tri z x y hz hx hy
    have n1 := M.nn x y hx hy
    have n2 := M.nn z x hz hx
    refine ⟨(z, y) :: L2, ⟨by simpa using g1, by simpa using g3⟩, ?_, ?_⟩
    · rw [cost_cons]
      show d z y + cost d L2 ≤ d x y + (d z x + cost d L2)
      omega
    · rw [chg_cons]
      show (if 0 < d z y then 1 else 0) + chg d L2 ≤ (if 0 < d x y then 1 else 0) + ((if 0 < d z x then 1 else 0) + chg d L2)
      by_cases c1 : 0 < d z y
      · by_cases c2 : 0 < d x y
        · simp only [c1, c2, if_true]; omega
        · have c3 : 0 < d z x := by omega
          simp only [c1, c2, c3, if_true, if_false]; omega
      · simp only [c1, if_false]; omega

theorem drop_all (M : Met ok d) : ∀ (C : List α) {R O : List α} {L : List (α × α)}, Plan (C ++ R) (C ++ O) L → (∀ y ∈ C ++ R, ok y) → (∀ y ∈ C ++ O, ok y) →
    ∃ L', Plan R O L' ∧ cost d L' ≤ cost d L ∧ chg d L' ≤ chg d L
  | [], _, _, L, h, _, _ => ⟨L, h, Int.le_refl _, Nat.le_refl _⟩
  | x :: C, _, _, L, h, hR, hO => by
    obtain ⟨L1, h1, c1, k1⟩ := drop_one M h hR hO
    obtain ⟨L2, h2, c2, k2⟩ := drop_all M C h1 (fun y hy => hR y (List.mem_cons_of_mem _ hy)) (fun y hy => hO y (List.mem_cons_of_mem _ hy))
    exact ⟨L2, h2, Int.le_trans c2 c1, Nat.le_trans k2 k1⟩

theorem add_all (M : Met ok d) : ∀ (C : List α) {R O : List α} {L : List (α × α)}, Plan R O L → (∀ y ∈ C, ok y) →
    ∃ L', Plan (C ++ R) (C ++ O) L' ∧ cost d L' = cost d L ∧ chg d L' = chg d L
  | [], _, _, L, h, _ => ⟨L, h, rfl, rfl⟩
  | x :: C, _, _, L, h, hC => by
    obtain ⟨L1, h1, c1, k1⟩ := add_all M C h (fun y hy => hC y (List.mem_cons_of_mem _ hy))
    have hs := M.self x (hC x (List.mem_cons_self ..))
    refine ⟨(x, x) :: L1, ⟨h1.1.cons x, h1.2.cons x⟩, ?_, ?_⟩
    · rw [cost_cons, c1]; show d x x + _ = _; omega
    · rw [chg_cons, k1]; show (if 0 < d x x then 1 else 0) + _ = _; rw [hs]; simp

theorem chg_all (M : Met ok d) : ∀ (L : List (α × α)), (∀ p ∈ L, ok p.1 ∧ ok p.2 ∧ p.1 ≠ p.2) → chg d L = L.length
  | [], _ => rfl
  | p :: L, h => by
    obtain ⟨a, b, c⟩ := h p (List.mem_cons_self ..)
    rw [chg_cons, chg_all M L fun q hq => h q (List.mem_cons_of_mem _ hq), if_pos (M.pos _ _ a b c), List.length_cons]; omega
theorem chg_apart (M : Met ok d) {R O : List α} {L : List (α × α)} (h : Plan R O L) (hR : ∀ y ∈ R, ok y) (hO : ∀ y ∈ O, ok y) (hd : ∀ y ∈ R, y ∉ O) : chg d L = R.length := by
  rw [chg_all M L, ← h.1.length_eq, List.length_map]
  intro p hp
  have m1 := h.1.mem_iff.mp (List.mem_map_of_mem hp)
  have m2 := h.2.mem_iff.mp (List.mem_map_of_mem hp)
  exact ⟨hR _ m1, hO _ m2, fun e => hd _ m1 (e ▸ m2)⟩

/-- what both lists have is best left alone -/
theorem plain_core (M : Met ok d) {C R O X Y : List α} {le : Int} (hX : (C ++ R).Perm X) (hY : (C ++ O).Perm Y) (oX : ∀ y ∈ X, ok y) (oY : ∀ y ∈ Y, ok y) (hd : ∀ y ∈ R, y ∉ O)
    (l1 : ∃ L, Plan R O L ∧ cost d L = le) (l2 : ∀ L, Plan R O L → le ≤ cost d L) :
    (∃ L, Plan X Y L ∧ cost d L = le ∧ chg d L = R.length) ∧ ∀ L, Plan X Y L → le ≤ cost d L ∧ R.length ≤ chg d L := by
  have oR : ∀ y ∈ C ++ R, ok y := fun y hy => oX y (hX.mem_iff.mp hy)
  have oO : ∀ y ∈ C ++ O, ok y := fun y hy => oY y (hY.mem_iff.mp hy)
  have r1 : ∀ y ∈ R, ok y := fun y hy => oR y (List.mem_append_right _ hy)
  have o1 : ∀ y ∈ O, ok y := fun y hy => oO y (List.mem_append_right _ hy)
  constructor
  · obtain ⟨L, p, e⟩ := l1
    obtain ⟨L', p', c', k'⟩ := add_all M C p fun y hy => oR y (List.mem_append_left _ hy)
    exact ⟨L', p'.perm hX hY (.refl _), c'.trans e, k'.trans (chg_apart M p r1 o1 hd)⟩
  · intro L p
    obtain ⟨L', p', c', k'⟩ := drop_all M C (p.perm hX.symm hY.symm (.refl _)) oR oO
    exact ⟨Int.le_trans (l2 L' p') c', (chg_apart M p' r1 o1 hd) ▸ k'⟩
end
end MineQ
end

section
set_option linter.unusedVariables false
namespace MineQ
open PySem

theorem upto_succ (n : Nat) : upto (n + 1) = upto n ++ [(n : Int)] := by
  unfold upto; rw [List.range_succ, List.map_append]; rfl
theorem nat_mem_upto {n k : Nat} : ((k : Nat) : Int) ∈ upto n ↔ k < n := by
  unfold upto
  simp only [List.mem_map, List.mem_range]
  constructor
  · rintro ⟨a, h, e⟩
    have : a = k := Int.ofNat.inj e
    omega
  · intro h; exact ⟨k, h, rfl⟩
theorem insAt_perm (k : Int) (wl : List Int) (p : Int) : (insAt k wl p).Perm (k :: wl) := by
  unfold insAt
  have h : (wl.take p.toNat ++ [k] ++ wl.drop p.toNat).Perm (k :: (wl.take p.toNat ++ wl.drop p.toNat)) := by
    rw [List.append_assoc]
    exact List.perm_middle
  rwa [List.take_append_drop] at h
theorem ways_perm : ∀ (n : Nat) {wl : List Int}, wl ∈ waysN n → wl.Perm (upto n)
  | 0, wl, h => by
    have : wl = [] := by simpa [waysN] using h
    subst this; exact .refl _
  | n + 1, wl, h => by
    unfold waysN at h
    obtain ⟨w0, h0, h1⟩ := List.mem_flatMap.mp h
    obtain ⟨p, _, rfl⟩ := List.mem_map.mp h1
    rw [upto_succ]
    exact (insAt_perm _ _ _).trans (((ways_perm n h0).cons _).trans (List.perm_append_comm (l₁ := [(n : Int)])))
theorem ways_all : ∀ (n : Nat) {wl : List Int}, wl.Perm (upto n) → wl ∈ waysN n
  | 0, wl, h => by
    have : wl = [] := List.Perm.eq_nil h
    subst this; simp [waysN]
  | n + 1, wl, h => by
    rw [upto_succ] at h
    have m : (n : Int) ∈ wl := h.mem_iff.mpr (by simp)
    obtain ⟨a, b, rfl⟩ := List.append_of_mem m
    have h2 : ((n : Int) :: (a ++ b)).Perm ((n : Int) :: upto n) := (List.perm_middle.symm.trans h).trans (List.perm_append_comm (l₂ := [(n : Int)]))
    have ih := ways_all n h2.cons_inv
    unfold waysN
    refine List.mem_flatMap.mpr ⟨a ++ b, ih, List.mem_map.mpr ⟨((a.length : Nat) : Int), nat_mem_upto.mpr (by simp; omega), ?_⟩⟩
    unfold insAt
    simp

/-- what diffF leaves -/
theorem diffF_spec : ∀ (r as ms : List Str), (∀ x ∈ ms, x ∉ as) → ∃ C : List Str, (C ++ (diffF r as ms).1).Perm (r ++ ms) ∧ (C ++ (diffF r as ms).2).Perm as ∧ ∀ x ∈ (diffF r as ms).1, x ∉ (diffF r as ms).2
  | [], as, ms, h => ⟨[], .refl _, .refl _, h⟩
  | x :: r, as, ms, h => by
    unfold diffF
    by_cases hc : as.contains x = true
    · rw [if_pos hc]
      have hx : x ∈ as := List.contains_iff_mem.mp hc
      obtain ⟨C, h1, h2, h3⟩ := diffF_spec r (as.erase x) ms fun y hy hm => h y hy (List.mem_of_mem_erase hm)
      exact ⟨x :: C, h1.cons x, (h2.cons x).trans (List.perm_cons_erase hx).symm, h3⟩
    · rw [if_neg hc]
      have hx : x ∉ as := fun hm => hc (List.contains_iff_mem.mpr hm)
      obtain ⟨C, h1, h2, h3⟩ := diffF_spec r as (ms ++ [x]) fun y hy => by
        rcases List.mem_append.mp hy with hy | hy
        · exact h y hy
        · rw [List.mem_singleton.mp hy]; exact hx
      refine ⟨C, h1.trans ?_, h2, h3⟩
      have : (r ++ (ms ++ [x])).Perm (x :: (r ++ ms)) := by
        rw [← List.append_assoc]
        exact List.perm_append_comm (l₂ := [x])
      exact this
end MineQ
end

section
set_option linter.unusedVariables false
namespace MineQ
open PySem PyProof.Rows

theorem nat_sub_and (m k : Nat) (i : Nat) : (m - (m &&& k)).testBit i = (m.testBit i && !k.testBit i) := by
  have e := nat_or_add_and (m &&& k) (m ^^^ (m &&& k))
  have h1 : (m &&& k) ||| (m ^^^ (m &&& k)) = m := by
    apply Nat.eq_of_testBit_eq
    intro i
    simp only [Nat.testBit_or, Nat.testBit_and, Nat.testBit_xor]
    cases m.testBit i <;> cases k.testBit i <;> rfl
  have h2 : (m &&& k) &&& (m ^^^ (m &&& k)) = 0 := by
    apply Nat.eq_of_testBit_eq
    intro i
    simp only [Nat.testBit_and, Nat.testBit_xor, Nat.zero_testBit]
    cases m.testBit i <;> cases k.testBit i <;> rfl
  rw [h1, h2] at e
  have h3 : m - (m &&& k) = m ^^^ (m &&& k) := by omega
  rw [h3]
  simp only [Nat.testBit_and, Nat.testBit_xor]
  cases m.testBit i <;> cases k.testBit i <;> rfl

def tb (x : Int) (i : Nat) : Bool := if 0 ≤ x then x.toNat.testBit i else !((Builtin.bitNot x).toNat.testBit i)
theorem band_nat (x : Int) (m : Nat) : ∃ N : Nat, Builtin.bitAnd x m = (N : Int) ∧ ∀ i, N.testBit i = (tb x i && m.testBit i) := by
  by_cases hx : 0 ≤ x
  · refine ⟨x.toNat &&& m, ?_, fun i => ?_⟩
    · rw [bitAnd_pp hx (Int.natCast_nonneg m)]; rfl
    · rw [Nat.testBit_and]; simp [tb, hx]
  · refine ⟨m - (m &&& (Builtin.bitNot x).toNat), ?_, fun i => ?_⟩
    · rw [bitAnd_np hx (Int.natCast_nonneg m)]
      have : m &&& (Builtin.bitNot x).toNat ≤ m := Nat.and_le_left
      show (m : Int) - ((m &&& (Builtin.bitNot x).toNat : Nat) : Int) = _
      omega
    · rw [nat_sub_and]; simp [tb, hx, Bool.and_comm]
/-- the low sixteen bits -/
def low (x : Int) : Nat := (Builtin.bitAnd x (65535 : Nat)).toNat
theorem low_bit (x : Int) (i : Nat) : (low x).testBit i = (tb x i && (65535 : Nat).testBit i) := by
  obtain ⟨N, e, h⟩ := band_nat x 65535
  unfold low; rw [e, Int.toNat_natCast]; exact h i
theorem low_lt (x : Int) : low x < 2 ^ 16 := by
  apply Nat.lt_pow_two_of_testBit
  intro i hi
  rw [low_bit]
  have : (65535 : Nat).testBit i = false := Nat.testBit_lt_two_pow (Nat.lt_of_lt_of_le (by decide : 65535 < 2 ^ 16) (Nat.pow_le_pow_right (by decide) hi))
  rw [this, Bool.and_false]
theorem mask_bit {i : Nat} (hi : i < 16) : (65535 : Nat).testBit i = true := by
  have : ∀ i, i < 16 → (65535 : Nat).testBit i = true := by decide
  exact this i hi
theorem bit_small {m : Nat} (hm : m < 2 ^ 16) {i : Nat} (h : m.testBit i = true) : i < 16 := by
  by_cases hi : i < 16
  · exact hi
  · rw [Nat.testBit_lt_two_pow (Nat.lt_of_lt_of_le hm (Nat.pow_le_pow_right (by decide) (Nat.le_of_not_lt hi)))] at h; cases h
theorem band_low (x : Int) (m : Nat) (hm : m < 2 ^ 16) : Builtin.bitAnd x m = ((low x &&& m : Nat) : Int) := by
  obtain ⟨N, e, h⟩ := band_nat x m
  rw [e]
  congr 1
  apply Nat.eq_of_testBit_eq
  intro i
  rw [h, Nat.testBit_and, low_bit]
  by_cases hb : m.testBit i = true
  · rw [hb, mask_bit (bit_small hm hb)]; simp
  · have : m.testBit i = false := by simpa using hb
    rw [this]; simp
theorem hit_iff {u m : Nat} (hm : m < 2 ^ 16) : (u &&& m = m) ↔ ∀ t, t < 16 → m.testBit t = true → u.testBit t = true := by
  constructor
  · intro h t _ ht
    rw [← h, Nat.testBit_and, Bool.and_eq_true] at ht
    exact ht.1
  · intro h
    apply Nat.eq_of_testBit_eq
    intro t
    rw [Nat.testBit_and]
    by_cases hb : m.testBit t = true
    · rw [hb, h t (bit_small hm hb) hb]; rfl
    · have : m.testBit t = false := by simpa using hb
      rw [this]; simp
theorem hit1 (x : Int) (m i : Nat) (hm : m < 2 ^ 16) (hi : m.testBit i = true) (h : ∀ t, t < 16 → m.testBit t = true → t = i) : (Builtin.bitAnd x (m : Int) == (m : Int)) = (low x).testBit i := by
  rw [band_low x m hm, Bool.eq_iff_iff, beq_iff_eq, Int.natCast_inj, hit_iff hm]
  constructor
  · intro g; exact g i (bit_small hm hi) hi
  · intro g t ht hb; rw [h t ht hb]; exact g
theorem hit2 (x : Int) (m i j : Nat) (hm : m < 2 ^ 16) (hi : m.testBit i = true) (hj : m.testBit j = true) (h : ∀ t, t < 16 → m.testBit t = true → t = i ∨ t = j) : (Builtin.bitAnd x (m : Int) == (m : Int)) = ((low x).testBit i && (low x).testBit j) := by
  rw [band_low x m hm, Bool.eq_iff_iff, beq_iff_eq, Int.natCast_inj, hit_iff hm, Bool.and_eq_true]
  constructor
  · intro g; exact ⟨g i (bit_small hm hi) hi, g j (bit_small hm hj) hj⟩
  · rintro ⟨g1, g2⟩ t ht hb
    rcases h t ht hb with rfl | rfl
    · exact g1
    · exact g2

theorem ch1 (x : Int) : chOf 1 x = if (low x).testBit 8 then 114 else 45 := by
  have h1 : (Builtin.bitAnd x 256 == 256) = _ := hit1 x 256 8 (by decide) (by decide) (by decide)
  show (pickC 1 x tab38).cps.getD 0 0 = _
  simp only [tab38, pickC, hitB, if_neg (by decide : ¬ (1 : Nat) = 0), h1]
  split <;> rfl
theorem ch2 (x : Int) : chOf 2 x = if (low x).testBit 7 then 119 else 45 := by
  have h1 : (Builtin.bitAnd x 128 == 128) = _ := hit1 x 128 7 (by decide) (by decide) (by decide)
  show (pickC 2 x tab40).cps.getD 0 0 = _
  simp only [tab40, pickC, hitB, if_neg (by decide : ¬ (2 : Nat) = 0), h1]
  split <;> rfl
theorem ch4 (x : Int) : chOf 4 x = if (low x).testBit 5 then 114 else 45 := by
  have h1 : (Builtin.bitAnd x 32 == 32) = _ := hit1 x 32 5 (by decide) (by decide) (by decide)
  show (pickC 4 x tab46).cps.getD 0 0 = _
  simp only [tab46, pickC, hitB, if_neg (by decide : ¬ (4 : Nat) = 0), h1]
  split <;> rfl
theorem ch5 (x : Int) : chOf 5 x = if (low x).testBit 4 then 119 else 45 := by
  have h1 : (Builtin.bitAnd x 16 == 16) = _ := hit1 x 16 4 (by decide) (by decide) (by decide)
  show (pickC 5 x tab48).cps.getD 0 0 = _
  simp only [tab48, pickC, hitB, if_neg (by decide : ¬ (5 : Nat) = 0), h1]
  split <;> rfl
theorem ch7 (x : Int) : chOf 7 x = if (low x).testBit 2 then 114 else 45 := by
  have h1 : (Builtin.bitAnd x 4 == 4) = _ := hit1 x 4 2 (by decide) (by decide) (by decide)
  show (pickC 7 x tab54).cps.getD 0 0 = _
  simp only [tab54, pickC, hitB, if_neg (by decide : ¬ (7 : Nat) = 0), h1]
  split <;> rfl
theorem ch8 (x : Int) : chOf 8 x = if (low x).testBit 1 then 119 else 45 := by
  have h1 : (Builtin.bitAnd x 2 == 2) = _ := hit1 x 2 1 (by decide) (by decide) (by decide)
  show (pickC 8 x tab56).cps.getD 0 0 = _
  simp only [tab56, pickC, hitB, if_neg (by decide : ¬ (8 : Nat) = 0), h1]
  split <;> rfl
theorem ch3 (x : Int) : chOf 3 x = if (low x).testBit 6 && (low x).testBit 11 then 115 else if (low x).testBit 11 then 83 else if (low x).testBit 6 then 120 else 45 := by
  have h1 : (Builtin.bitAnd x 2112 == 2112) = _ := hit2 x 2112 6 11 (by decide) (by decide) (by decide) (by decide)
  have h2 : (Builtin.bitAnd x 2048 == 2048) = _ := hit1 x 2048 11 (by decide) (by decide) (by decide)
  have h3 : (Builtin.bitAnd x 64 == 64) = _ := hit1 x 64 6 (by decide) (by decide) (by decide)
  show (pickC 3 x tab44).cps.getD 0 0 = _
  simp only [tab44, pickC, hitB, if_neg (by decide : ¬ (3 : Nat) = 0), h1, h2, h3]
  cases (low x).testBit 6 <;> cases (low x).testBit 11 <;> rfl
theorem ch6 (x : Int) : chOf 6 x = if (low x).testBit 3 && (low x).testBit 10 then 115 else if (low x).testBit 10 then 83 else if (low x).testBit 3 then 120 else 45 := by
  have h1 : (Builtin.bitAnd x 1032 == 1032) = _ := hit2 x 1032 3 10 (by decide) (by decide) (by decide) (by decide)
  have h2 : (Builtin.bitAnd x 1024 == 1024) = _ := hit1 x 1024 10 (by decide) (by decide) (by decide)
  have h3 : (Builtin.bitAnd x 8 == 8) = _ := hit1 x 8 3 (by decide) (by decide) (by decide)
  show (pickC 6 x tab52).cps.getD 0 0 = _
  simp only [tab52, pickC, hitB, if_neg (by decide : ¬ (6 : Nat) = 0), h1, h2, h3]
  cases (low x).testBit 3 <;> cases (low x).testBit 10 <;> rfl
theorem ch9 (x : Int) : chOf 9 x = if (low x).testBit 0 && (low x).testBit 9 then 116 else if (low x).testBit 9 then 84 else if (low x).testBit 0 then 120 else 45 := by
  have h1 : (Builtin.bitAnd x 513 == 513) = _ := hit2 x 513 0 9 (by decide) (by decide) (by decide) (by decide)
  have h2 : (Builtin.bitAnd x 512 == 512) = _ := hit1 x 512 9 (by decide) (by decide) (by decide)
  have h3 : (Builtin.bitAnd x 1 == 1) = _ := hit1 x 1 0 (by decide) (by decide) (by decide)
  show (pickC 9 x tab60).cps.getD 0 0 = _
  simp only [tab60, pickC, hitB, if_neg (by decide : ¬ (9 : Nat) = 0), h1, h2, h3]
  cases (low x).testBit 0 <;> cases (low x).testBit 9 <;> rfl

/-- the kind -/
theorem and_kind (u : Nat) (hu : u < 2 ^ 16) : u &&& 61440 = u / 4096 * 4096 := by
  apply Nat.eq_of_testBit_eq
  intro i
  rw [Nat.testBit_and, show (4096 : Nat) = 2 ^ 12 from rfl, Nat.testBit_mul_two_pow, Nat.testBit_div_two_pow]
  by_cases h1 : 12 ≤ i
  · by_cases h2 : i < 16
    · have e : i = 12 ∨ i = 13 ∨ i = 14 ∨ i = 15 := by omega
      rcases e with rfl | rfl | rfl | rfl <;> simp [Nat.testBit]
    · rw [Nat.testBit_lt_two_pow (Nat.lt_of_lt_of_le hu (Nat.pow_le_pow_right (by decide) (Nat.le_of_not_lt h2))), show i - 12 + 12 = i from by omega,
        Nat.testBit_lt_two_pow (Nat.lt_of_lt_of_le hu (Nat.pow_le_pow_right (by decide) (Nat.le_of_not_lt h2)))]
      simp
  · have e : i = 0 ∨ i = 1 ∨ i = 2 ∨ i = 3 ∨ i = 4 ∨ i = 5 ∨ i = 6 ∨ i = 7 ∨ i = 8 ∨ i = 9 ∨ i = 10 ∨ i = 11 := by omega
    rcases e with rfl | rfl | rfl | rfl | rfl | rfl | rfl | rfl | rfl | rfl | rfl | rfl <;> simp [Nat.testBit]
end MineQ
end

section
set_option linter.unusedVariables false
namespace MineQ
open PySem PyProof.Rows

def pickQ (f : Int) : List (Int × Str) → Str
  | [] => Str.ofString "?"
  | q :: r => if f == q.1 then q.2 else pickQ f r
theorem pick_pickQ (n : Int) : ∀ t, pickC 0 n t = pickQ (ifmt n) t
  | [] => by simp [pickC, pickQ]
  | q :: r => by
    rw [pickC, pickQ, pick_pickQ n r]
    simp only [hitB, if_pos]
theorem ifmt_low (n : Int) : ifmt n = ((low n / 4096 * 4096 : Nat) : Int) := by
  unfold ifmt
  rw [show (61440 : Int) = ((61440 : Nat) : Int) from rfl, band_low n 61440 (by decide), and_kind _ (low_lt n)]
def kindQ (f : Int) : Int := if known.contains f then f else 0
theorem kind_fin : ∀ q, q < 16 → ∀ r, r < 16 → (kindQ ((q * 4096 : Nat) : Int) == kindQ ((r * 4096 : Nat) : Int)) = ((pickQ ((q * 4096 : Nat) : Int) tab36).cps.getD 0 0 == (pickQ ((r * 4096 : Nat) : Int) tab36).cps.getD 0 0) := by decide +kernel
theorem kind_ch (a b : Int) : (kindOfI a == kindOfI b) = (chOf 0 a == chOf 0 b) := by
  show (kindQ (ifmt a) == kindQ (ifmt b)) = ((pickC 0 a tab36).cps.getD 0 0 == (pickC 0 b tab36).cps.getD 0 0)
  rw [pick_pickQ, pick_pickQ, ifmt_low, ifmt_low]
  have ha := low_lt a
  have hb := low_lt b
  exact kind_fin _ (by omega) _ (by omega)

theorem imode_low (n : Int) : imode n = ((low n &&& 4095 : Nat) : Int) := band_low n 4095 (by decide)
theorem bitOf_nat (N i : Nat) : bitOf (N : Int) (i : Int) = ((N.testBit i).toNat : Int) := by
  unfold bitOf
  rw [Int.toNat_natCast, show ((2 : Int) ^ i) = ((2 ^ i : Nat) : Int) from by simp, Int.fdiv_eq_ediv_of_nonneg _ (Int.natCast_nonneg _), Int.fmod_eq_emod_of_nonneg _ (by decide), Nat.testBit_eq_decide_div_mod_eq]
  have h : ((N : Int) / ((2 ^ i : Nat) : Int) % 2) = ((N / 2 ^ i % 2 : Nat) : Int) := by simp
  rw [h]
  have : N / 2 ^ i % 2 = 0 ∨ N / 2 ^ i % 2 = 1 := by omega
  rcases this with e | e <;> rw [e] <;> rfl
theorem bit_ne (a b : Int) (i : Nat) (hi : i < 12) : (bitOf (imode a) (i : Int) != bitOf (imode b) (i : Int)) = ((low a).testBit i != (low b).testBit i) := by
  have m : (4095 : Nat).testBit i = true := by
    have : ∀ i, i < 12 → (4095 : Nat).testBit i = true := by decide
    exact this i hi
  rw [imode_low, imode_low, bitOf_nat, bitOf_nat, Nat.testBit_and, Nat.testBit_and, m]
  cases (low a).testBit i <;> cases (low b).testBit i <;> rfl
theorem bit_hi (a b : Int) (i : Nat) (h0 : 12 ≤ i) (hi : i < 16) : (bitOf (imode a) (i : Int) != bitOf (imode b) (i : Int)) = false := by
  have m : (4095 : Nat).testBit i = false := by
    have : ∀ i, i < 16 → 12 ≤ i → (4095 : Nat).testBit i = false := by decide
    exact this i hi h0
  rw [imode_low, imode_low, bitOf_nat, bitOf_nat, Nat.testBit_and, Nat.testBit_and, m, Bool.and_false, Bool.and_false]
  rfl
theorem filter_len {α : Type} (p : α → Bool) : ∀ l : List α, (((l.filter p).length : Nat) : Int) = (l.map fun k => if p k then (1 : Int) else 0).sum
  | [] => rfl
  | x :: r => by
    rw [List.filter_cons, List.map_cons, List.sum_cons, ← filter_len p r]
    cases p x
    · simp
    · simp; omega
def one (p q : Bool) : Int := if (p != q) then 1 else 0
theorem bitDiff_eq (a b : Int) : bitDiff a b = one ((low a).testBit 0) ((low b).testBit 0) + one ((low a).testBit 1) ((low b).testBit 1) + one ((low a).testBit 2) ((low b).testBit 2) + one ((low a).testBit 3) ((low b).testBit 3)
    + one ((low a).testBit 4) ((low b).testBit 4) + one ((low a).testBit 5) ((low b).testBit 5) + one ((low a).testBit 6) ((low b).testBit 6) + one ((low a).testBit 7) ((low b).testBit 7)
    + one ((low a).testBit 8) ((low b).testBit 8) + one ((low a).testBit 9) ((low b).testBit 9) + one ((low a).testBit 10) ((low b).testBit 10) + one ((low a).testBit 11) ((low b).testBit 11) := by
  unfold bitDiff
  rw [filter_len]
  have hu : upto 16 = [((0 : Nat) : Int), ((1 : Nat) : Int), ((2 : Nat) : Int), ((3 : Nat) : Int), ((4 : Nat) : Int), ((5 : Nat) : Int), ((6 : Nat) : Int), ((7 : Nat) : Int), ((8 : Nat) : Int), ((9 : Nat) : Int), ((10 : Nat) : Int), ((11 : Nat) : Int), ((12 : Nat) : Int), ((13 : Nat) : Int), ((14 : Nat) : Int), ((15 : Nat) : Int)] := by rfl
  rw [hu]
  simp only [List.map_cons, List.map_nil, List.sum_cons, List.sum_nil]
  rw [bit_ne a b 0 (by decide), bit_ne a b 1 (by decide), bit_ne a b 2 (by decide), bit_ne a b 3 (by decide), bit_ne a b 4 (by decide), bit_ne a b 5 (by decide), bit_ne a b 6 (by decide), bit_ne a b 7 (by decide),
    bit_ne a b 8 (by decide), bit_ne a b 9 (by decide), bit_ne a b 10 (by decide), bit_ne a b 11 (by decide), bit_hi a b 12 (by decide) (by decide), bit_hi a b 13 (by decide) (by decide), bit_hi a b 14 (by decide) (by decide), bit_hi a b 15 (by decide) (by decide)]
  simp only [one, Bool.false_eq_true, if_false]
  omega

def farC (k c e : Nat) : Int := if ((rix k c : Nat) : Int) - ((rix k e : Nat) : Int) < 0 then -(((rix k c : Nat) : Int) - ((rix k e : Nat) : Int)) else ((rix k c : Nat) : Int) - ((rix k e : Nat) : Int)
def stepC (k c e : Nat) : Int := min (farC k c e) (((ringAt k).length : Nat) - farC k c e)
theorem stepK_C (x y : Str) (k : Nat) : stepK x y k = stepC k (charAt x (k + 1)) (charAt y (k + 1)) := rfl
theorem stepC_two : ∀ p q : Bool, (stepC 0 (if p then 114 else 45) (if q then 114 else 45) = one p q ∧ stepC 1 (if p then 119 else 45) (if q then 119 else 45) = one p q ∧ stepC 3 (if p then 114 else 45) (if q then 114 else 45) = one p q)
    ∧ (stepC 4 (if p then 119 else 45) (if q then 119 else 45) = one p q ∧ stepC 6 (if p then 114 else 45) (if q then 114 else 45) = one p q ∧ stepC 7 (if p then 119 else 45) (if q then 119 else 45) = one p q) := by decide +kernel
theorem stepC_three : ∀ p q r s : Bool, stepC 2 (if p && q then 115 else if q then 83 else if p then 120 else 45) (if r && s then 115 else if s then 83 else if r then 120 else 45) = one p r + one q s
    ∧ stepC 5 (if p && q then 115 else if q then 83 else if p then 120 else 45) (if r && s then 115 else if s then 83 else if r then 120 else 45) = one p r + one q s
    ∧ stepC 8 (if p && q then 116 else if q then 84 else if p then 120 else 45) (if r && s then 116 else if s then 84 else if r then 120 else 45) = one p r + one q s := by decide +kernel
theorem char_fm (n : Int) : ∀ k, k < 10 → charAt (fm n) k = chOf k n := by
  intro k hk
  rw [fm_eq]
  have e : k = 0 ∨ k = 1 ∨ k = 2 ∨ k = 3 ∨ k = 4 ∨ k = 5 ∨ k = 6 ∨ k = 7 ∨ k = 8 ∨ k = 9 := by omega
  rcases e with rfl | rfl | rfl | rfl | rfl | rfl | rfl | rfl | rfl | rfl <;> rfl
theorem price_steps (a b : Int) : price a b = stepsOf (fm a) (fm b) := by
  unfold price stepsOf
  simp only [stepsN, stepK_C, char_fm _ 0 (by decide), char_fm _ (0 + 1) (by decide), char_fm _ (1 + 1) (by decide), char_fm _ (2 + 1) (by decide), char_fm _ (3 + 1) (by decide), char_fm _ (4 + 1) (by decide), char_fm _ (5 + 1) (by decide), char_fm _ (6 + 1) (by decide), char_fm _ (7 + 1) (by decide), char_fm _ (8 + 1) (by decide)]
  rw [kind_ch, bitDiff_eq]
  simp only [Nat.reduceAdd, ch1, ch2, ch3, ch4, ch5, ch6, ch7, ch8, ch9]
  rw [(stepC_two _ _).1.1, (stepC_two _ _).1.2.1, (stepC_two _ _).1.2.2, (stepC_two _ _).2.1, (stepC_two _ _).2.2.1, (stepC_two _ _).2.2.2, (stepC_three _ _ _ _).1, (stepC_three _ _ _ _).2.1, (stepC_three _ _ _ _).2.2]
  by_cases h : (chOf 0 a == chOf 0 b) = true
  · rw [if_pos h, if_pos h]; omega
  · rw [if_neg h, if_neg h]; omega
end MineQ
end

section
set_option linter.unusedVariables false
namespace MineQ
open PySem PyProof.Rows

theorem stepC_fin : ∀ k, k < 9 → ∀ c ∈ (ringAt k).cps.toList, stepC k c c = 0 ∧ ∀ e ∈ (ringAt k).cps.toList, 0 ≤ stepC k c e ∧ (c ≠ e → 0 < stepC k c e) ∧ ∀ f ∈ (ringAt k).cps.toList, stepC k c f ≤ stepC k c e + stepC k e f := by decide +kernel

theorem stepsN_self {x : Str} (hx : RowOk x) : ∀ n, n ≤ 9 → stepsN x x n = 0
  | 0, _ => by simp [stepsN]
  | n + 1, h => by
    rw [stepsN, stepsN_self hx n (by omega), stepK_C, (stepC_fin n (by omega) _ (hx.2 n (by omega))).1]; rfl
theorem stepsN_nn {x y : Str} (hx : RowOk x) (hy : RowOk y) : ∀ n, n ≤ 9 → 0 ≤ stepsN x y n
  | 0, _ => by unfold stepsN; split <;> decide
  | n + 1, h => by
    have ih := stepsN_nn hx hy n (by omega)
    have := ((stepC_fin n (by omega) _ (hx.2 n (by omega))).2 _ (hy.2 n (by omega))).1
    rw [stepsN, stepK_C]; omega
theorem stepsN_tri {x y z : Str} (hx : RowOk x) (hy : RowOk y) (hz : RowOk z) : ∀ n, n ≤ 9 → stepsN x z n ≤ stepsN x y n + stepsN y z n
  | 0, _ => by
    unfold stepsN
    by_cases h1 : charAt x 0 = charAt y 0
    · rw [h1]; simp
    · rw [show (charAt x 0 == charAt y 0) = false from by simpa using h1, if_neg Bool.false_ne_true]
      split <;> split <;> omega
  | n + 1, h => by
    have ih := stepsN_tri hx hy hz n (by omega)
    have := ((stepC_fin n (by omega) _ (hx.2 n (by omega))).2 _ (hy.2 n (by omega))).2.2 _ (hz.2 n (by omega))
    rw [stepsN, stepsN, stepsN, stepK_C, stepK_C, stepK_C]; omega
theorem stepsN_zero {x y : Str} (hx : RowOk x) (hy : RowOk y) : ∀ n, n ≤ 9 → stepsN x y n ≤ 0 → ∀ k, k ≤ n → charAt x k = charAt y k
  | 0, _, h, k, hk => by
    have : k = 0 := by omega
    subst this
    unfold stepsN at h
    by_cases h1 : charAt x 0 = charAt y 0
    · exact h1
    · rw [show (charAt x 0 == charAt y 0) = false from by simpa using h1] at h
      exact absurd h (by decide)
  | n + 1, hn, h, k, hk => by
    have p := (stepC_fin n (by omega) _ (hx.2 n (by omega))).2 _ (hy.2 n (by omega))
    have ih := stepsN_nn hx hy n (by omega)
    rw [stepsN, stepK_C] at h
    by_cases e : k = n + 1
    · subst e
      by_cases h1 : charAt x (n + 1) = charAt y (n + 1)
      · exact h1
      · have := p.2.1 h1
        omega
    · exact stepsN_zero hx hy n (by omega) (by have := p.1; omega) k (by omega)
theorem row_ext {x y : Str} (hx : x.cps.size = 10) (hy : y.cps.size = 10) (h : ∀ k, k ≤ 9 → charAt x k = charAt y k) : x = y := by
  have : x.cps = y.cps := by
    apply Array.ext (hx.trans hy.symm)
    intro i h1 h2
    have := h i (by omega)
    unfold charAt at this
    simpa [Array.getD_eq_getD_getElem?, h1, h2] using this
  cases x; cases y; simp at this; rw [this]
theorem met_rows : Met RowOk stepsOf where
  self x hx := stepsN_self hx 9 (Nat.le_refl _)
  nn x y hx hy := stepsN_nn hx hy 9 (Nat.le_refl _)
  pos x y hx hy hne := by
    by_cases h : 0 < stepsOf x y
    · exact h
    · exact absurd (row_ext hx.1 hy.1 (stepsN_zero hx hy 9 (Nat.le_refl _) (Int.not_lt.mp h))) hne
  tri x y z hx hy hz := stepsN_tri hx hy hz 9 (Nat.le_refl _)

theorem ch_fin : ∀ p q : Bool, ((if p then 114 else 45) ∈ (ringAt 0).cps.toList ∧ (if p then 119 else 45) ∈ (ringAt 1).cps.toList ∧ (if p then 114 else 45) ∈ (ringAt 3).cps.toList
    ∧ (if p then 119 else 45) ∈ (ringAt 4).cps.toList ∧ (if p then 114 else 45) ∈ (ringAt 6).cps.toList ∧ (if p then 119 else 45) ∈ (ringAt 7).cps.toList)
    ∧ (if p && q then 115 else if q then 83 else if p then 120 else 45) ∈ (ringAt 2).cps.toList ∧ (if p && q then 115 else if q then 83 else if p then 120 else 45) ∈ (ringAt 5).cps.toList ∧ (if p && q then 116 else if q then 84 else if p then 120 else 45) ∈ (ringAt 8).cps.toList := by decide +kernel
theorem fm_ok (n : Int) : RowOk (fm n) := by
  refine ⟨by rw [fm_eq]; rfl, fun k hk => ?_⟩
  rw [char_fm n (k + 1) (by omega)]
  have e : k = 0 ∨ k = 1 ∨ k = 2 ∨ k = 3 ∨ k = 4 ∨ k = 5 ∨ k = 6 ∨ k = 7 ∨ k = 8 := by omega
  rcases e with rfl | rfl | rfl | rfl | rfl | rfl | rfl | rfl | rfl
  · rw [ch1]; exact (ch_fin _ true).1.1
  · rw [ch2]; exact (ch_fin _ true).1.2.1
  · rw [ch3]; exact (ch_fin _ _).2.1
  · rw [ch4]; exact (ch_fin _ true).1.2.2.1
  · rw [ch5]; exact (ch_fin _ true).1.2.2.2.1
  · rw [ch6]; exact (ch_fin _ _).2.2.1
  · rw [ch7]; exact (ch_fin _ true).1.2.2.2.2.1
  · rw [ch8]; exact (ch_fin _ true).1.2.2.2.2.2
  · rw [ch9]; exact (ch_fin _ _).2.2.2
end MineQ
end

section
set_option linter.unusedVariables false
namespace MineQ
open PySem PyProof.Rows

def getO (O : List Str) (j : Int) : Str := O.getD j.toNat default
def pairsOf (R O : List Str) (wl : List Int) : List (Str × Str) := R.zip (wl.map (getO O))
theorem upto_at {n i : Nat} (h : i < (upto n).length) : (upto n)[i] = (i : Int) := by simp [upto]
theorem upto_ln (n : Nat) : (upto n).length = n := by simp [upto]
theorem map_get (O : List Str) : (upto O.length).map (getO O) = O := by
  apply List.ext_getElem
  · simp [upto_ln]
  · intro i h1 h2
    rw [List.getElem_map, upto_at]
    simp [getO, h2]
theorem ways_len {n : Nat} {wl : List Int} (h : wl ∈ waysN n) : wl.length = n := (ways_perm n h).length_eq.trans (upto_ln n)
theorem ways_rng {n : Nat} {wl : List Int} (h : wl ∈ waysN n) {j : Int} (hj : j ∈ wl) : 0 ≤ j ∧ j < n := mem_upto ((ways_perm n h).mem_iff.mp hj)
theorem way_plan {R O : List Str} {n : Nat} {wl : List Int} (hR : R.length = n) (hO : O.length = n) (h : wl ∈ waysN n) : Plan R O (pairsOf R O wl) := by
  have hl := ways_len h
  refine ⟨?_, ?_⟩
  · unfold pairsOf
    rw [List.map_fst_zip (by simp [hl, hR])]
  · unfold pairsOf
    rw [List.map_snd_zip (by simp [hl, hR])]
    have := (ways_perm n h).map (getO O)
    subst hO
    rwa [map_get O] at this
theorem tab_cell {R O : List Str} {wl : List Int} {i : Nat} (hi : i < R.length) (hw : i < wl.length) (h0 : 0 ≤ wl[i]) (hj : wl[i].toNat < O.length) : cellI (tabS R O) wl (i : Int) = stepsOf R[i] O[wl[i].toNat] := by
  unfold cellI tabS
  simp [List.getD, hi, hw, hj]
theorem paid_costs {R O : List Str} {n : Nat} {wl : List Int} (hR : R.length = n) (hO : O.length = n) (h : wl ∈ waysN n) : paidOf (tabS R O) wl = costs stepsOf (pairsOf R O wl) := by
  have hl := ways_len h
  unfold paidOf costs pairsOf
  apply List.ext_getElem
  · simp [upto_ln, hl, hR]
  · intro i h1 h2
    have hi : i < wl.length := by simpa [upto_ln] using h1
    have hr := ways_rng h (List.getElem_mem hi)
    have hj : wl[i].toNat < O.length := by omega
    rw [List.getElem_map, upto_at, tab_cell (by omega) hi hr.1 hj]
    simp [getO, List.getD, hj]
theorem zip_back : ∀ L : List (Str × Str), (L.map Prod.fst).zip (L.map Prod.snd) = L
  | [] => rfl
  | p :: L => by simp [zip_back L]
theorem plan_way {R O : List Str} {n : Nat} {L : List (Str × Str)} (hR : R.length = n) (hO : O.length = n) (h : Plan R O L) : ∃ wl ∈ waysN n, (pairsOf R O wl).Perm L := by
  obtain ⟨L', p1, e1⟩ := perm_map_lift h.1.symm L rfl
  have p2 : (L'.map Prod.snd).Perm ((upto n).map (getO O)) := by
    subst hO
    rw [map_get O]
    exact (p1.map _).trans h.2
  obtain ⟨wl, p3, e3⟩ := perm_map_lift p2 (upto n) rfl
  refine ⟨wl, ways_all n p3, ?_⟩
  unfold pairsOf
  rw [e3, ← e1, zip_back]
  exact p1
theorem plan_of {R O : List Str} {n : Nat} {wl : List Int} (hR : R.length = n) (hO : O.length = n) (h : wl ∈ waysN n) : planOf (tabS R O) wl = (cost stepsOf (pairsOf R O wl), (chg stepsOf (pairsOf R O wl) : Int)) := by
  unfold planOf cost chg
  rw [paid_costs hR hO h]
theorem fits_of {R O : List Str} {n : Nat} {wl : List Int} (hR : R.length = n) (hO : O.length = n) (hn : n ≤ 4) (h : wl ∈ waysN n) : Fits (tabS R O) wl := by
  intro k hk
  have hl := ways_len h
  have hr := ways_rng h (List.getElem_mem hk)
  refine ⟨O.map fun b => stepsOf (R[k]'(by omega)) b, wl[k], ?_, by simp [hk], hr.1, by omega, by simp; omega⟩
  unfold tabS
  simp [show k < R.length from by omega]

/-- the least of a list -/
theorem best_spec {α : Type} {lt : α → α → Bool} (t1 : ∀ a b c, lt a b = true → lt b c = true → lt a c = true) (t2 : ∀ a b c, lt a b = false → lt b c = false → lt a c = false) (t3 : ∀ a, lt a a = false) :
    ∀ (r : List α) (x : α), bestOf lt x r ∈ x :: r ∧ ∀ y ∈ x :: r, lt y (bestOf lt x r) = false
  | [], x => by
    refine ⟨by simp [bestOf], fun y hy => ?_⟩
    have : y = x := by simpa using hy
    subst this
    exact t3 y
  | z :: r, x => by
    have e : bestOf lt x (z :: r) = bestOf lt (if lt z x then z else x) r := rfl
    obtain ⟨i1, i2⟩ := best_spec t1 t2 t3 r (if lt z x then z else x)
    rw [← e] at i1 i2
    cases hz : lt z x with
    | true =>
      rw [hz, if_pos rfl] at i1 i2
      refine ⟨List.mem_cons_of_mem _ i1, fun y hy => ?_⟩
      rcases List.mem_cons.mp hy with rfl | hy
      · cases h : lt y (bestOf lt y (z :: r)) with
        | false => rfl
        | true => rw [← i2 z (List.mem_cons_self ..)]; exact (t1 _ _ _ hz h).symm
      · exact i2 y hy
    | false =>
      rw [hz, if_neg Bool.false_ne_true] at i1 i2
      refine ⟨?_, fun y hy => ?_⟩
      · rcases List.mem_cons.mp i1 with h | h
        · rw [h]; exact List.mem_cons_self ..
        · exact List.mem_cons_of_mem _ (List.mem_cons_of_mem _ h)
      · rcases List.mem_cons.mp hy with rfl | hy
        · exact i2 y (List.mem_cons_self ..)
        · rcases List.mem_cons.mp hy with rfl | hy
          · exact t2 _ _ _ hz (i2 x (List.mem_cons_self ..))
          · exact i2 y (List.mem_cons_of_mem _ hy)
theorem minL_spec {l : List Int} (h : l ≠ []) : minL l ∈ l ∧ ∀ y ∈ l, minL l ≤ y := by
  cases l with
  | nil => exact absurd rfl h
  | cons x r =>
    obtain ⟨a, b⟩ := best_spec (lt := fun a b : Int => decide (a < b)) (by intro a b c; simp; omega) (by intro a b c; simp; omega) (by intro a; simp) r x
    refine ⟨a, fun y hy => ?_⟩
    have := b y hy
    show bestOf (fun a b => decide (a < b)) x r ≤ y
    simpa using this
theorem ltP_iff {p q : Int × Int} : ltP p q = true ↔ p.1 < q.1 ∨ (p.1 = q.1 ∧ p.2 < q.2) := by
  unfold ltP
  by_cases h : p.1 = q.1
  · simp [h]
  · simp [h]
theorem ltP_not {p q : Int × Int} : ltP p q = false ↔ ¬ (p.1 < q.1 ∨ (p.1 = q.1 ∧ p.2 < q.2)) := by
  rw [← ltP_iff]; simp
theorem minP_eq {l : List (Int × Int)} {a b : Int} (hm : (a, b) ∈ l) (hb : ∀ p ∈ l, a ≤ p.1 ∧ b ≤ p.2) : minP l = (a, b) := by
  cases l with
  | nil => cases hm
  | cons x r =>
    obtain ⟨h1, h2⟩ := best_spec (lt := ltP) (by intro a b c; rw [ltP_iff, ltP_iff, ltP_iff]; omega) (by intro a b c; rw [ltP_not, ltP_not, ltP_not]; omega) (by intro a; rw [ltP_not]; omega) r x
    have h3 := hb _ h1
    have h4 := ltP_not.mp (h2 _ hm)
    show bestOf ltP x r = (a, b)
    generalize bestOf ltP x r = q at h3 h4
    have e1 : q.1 = a := by omega
    have e2 : q.2 = b := by omega
    rw [← e1, ← e2]

theorem tab_rows (fl sl : List Int) : tabP fl sl = tabS (fl.map fm) (sl.map fm) := by
  unfold tabP tabS
  simp [price_steps, Function.comp_def]

/-- all that the law asks of the lists -/
structure Asked (fl sl : List Int) (ms os : List Str) : Prop where
  len : ms.length = os.length
  four : ms.length ≤ 4
  none : ms.filter (fun x => os.contains x) = []
  same : (fl.map fm ++ os).Perm (sl.map fm ++ ms)
  okm : ∀ x ∈ ms, RowOk x
  oko : ∀ x ∈ os, RowOk x
  fit : ∀ wl ∈ waysN fl.length, Fits (tabP fl sl) wl
  fits : ∀ wl ∈ waysN ms.length, Fits (tabS ms os) wl
  cheap : minP ((waysN fl.length).map (planOf (tabP fl sl))) = (leastOf ms os, (ms.length : Int))
  few : minP (((waysN fl.length).map (planOf (tabP fl sl))).map fun p => (p.2, p.1)) = ((ms.length : Int), leastOf ms os)
theorem asked {fl sl : List Int} (h : sl.length = fl.length) (hn : fl.length ≤ 4) : Asked fl sl (diffF (fl.map fm).reverse (sl.map fm) []).1 (diffF (fl.map fm).reverse (sl.map fm) []).2 := by
  obtain ⟨C, h1, h2, h3⟩ := diffF_spec (fl.map fm).reverse (sl.map fm) [] (by simp)
  generalize diffF (fl.map fm).reverse (sl.map fm) [] = D at h1 h2 h3
  obtain ⟨ms, os⟩ := D
  simp only at h1 h2 h3
  rw [List.append_nil] at h1
  replace h1 := h1.trans (List.reverse_perm _)
  have oX : ∀ y ∈ fl.map fm, RowOk y := fun y hy => by obtain ⟨n, _, rfl⟩ := List.mem_map.mp hy; exact fm_ok n
  have oY : ∀ y ∈ sl.map fm, RowOk y := fun y hy => by obtain ⟨n, _, rfl⟩ := List.mem_map.mp hy; exact fm_ok n
  have n1 := h1.length_eq
  have n2 := h2.length_eq
  simp only [List.length_append, List.length_map] at n1 n2
  have len : ms.length = os.length := by omega
  have four : ms.length ≤ 4 := by omega
  have lR : (fl.map fm).length = fl.length := by simp
  have lO : (sl.map fm).length = fl.length := by simp [h]
  have le1 : (waysN ms.length).map (fun wl => (paidOf (tabS ms os) wl).sum) ≠ [] := by simpa using ways_ne four
  obtain ⟨mem, low⟩ := minL_spec le1
  have core := plain_core (le := leastOf ms os) met_rows h1 h2 oX oY h3 (by
      obtain ⟨wl, hw, e⟩ := List.mem_map.mp mem
      refine ⟨pairsOf ms os wl, way_plan rfl len.symm hw, ?_⟩
      unfold cost
      rw [← paid_costs rfl len.symm hw]
      exact e) (fun L hL => by
      obtain ⟨wl, hw, p⟩ := plan_way rfl len.symm hL
      rw [← cost_perm p]
      unfold cost
      rw [← paid_costs rfl len.symm hw]
      exact low _ (List.mem_map.mpr ⟨wl, hw, rfl⟩))
  obtain ⟨⟨L, hL, c1, c2⟩, all⟩ := core
  have hmem : (leastOf ms os, (ms.length : Int)) ∈ (waysN fl.length).map (planOf (tabP fl sl)) := by
    obtain ⟨wl, hw, p⟩ := plan_way lR lO hL
    refine List.mem_map.mpr ⟨wl, hw, ?_⟩
    rw [tab_rows, plan_of lR lO hw, cost_perm p, chg_perm p, c1, c2]
  have hall : ∀ p ∈ (waysN fl.length).map (planOf (tabP fl sl)), leastOf ms os ≤ p.1 ∧ (ms.length : Int) ≤ p.2 := by
    intro p hp
    obtain ⟨wl, hw, rfl⟩ := List.mem_map.mp hp
    rw [tab_rows, plan_of lR lO hw]
    obtain ⟨a, b⟩ := all _ (way_plan lR lO hw)
    exact ⟨a, Int.ofNat_le.mpr b⟩
  refine ⟨len, four, ?_, ?_, fun x hx => oX x (h1.mem_iff.mp (List.mem_append_right _ hx)), fun x hx => oY x (h2.mem_iff.mp (List.mem_append_right _ hx)), fun wl hw => ?_, fun wl hw => fits_of rfl len.symm four hw, minP_eq hmem hall, minP_eq ?_ ?_⟩
  · refine List.filter_eq_nil_iff.mpr fun x hx hc => ?_
    exact h3 x hx (List.contains_iff_mem.mp hc)
  · have p1 : (fl.map fm ++ os).Perm (C ++ ms ++ os) := h1.symm.append_right _
    have p2 : (C ++ ms ++ os).Perm (C ++ os ++ ms) := by
      rw [List.append_assoc, List.append_assoc]
      exact List.perm_append_comm.append_left _
    exact (p1.trans p2).trans (h2.append_right _)
  · rw [tab_rows]; exact fits_of lR lO hn hw
  · exact List.mem_map.mpr ⟨_, hmem, rfl⟩
  · intro p hp
    obtain ⟨q, hq, rfl⟩ := List.mem_map.mp hp
    exact ⟨(hall q hq).2, (hall q hq).1⟩
end MineQ
end

section
set_option Elab.async false
set_option maxRecDepth 100000
set_option linter.unusedVariables false
namespace MineQ
open PySem PySem.W PySem.Calls PyProof.Rows

def pickN (n : Nat) (lo hi st : Option Int) : Nat := ((sliceRange (sliceBounds lo hi st n).1 (sliceBounds lo hi st n).2.1 (sliceBounds lo hi st n).2.2).filter (fun i => decide (i < n))).length
theorem fm_len {α : Type} (ys : List α) : ∀ l : List Nat, (l.filterMap (ys[·]?)).length = (l.filter (fun i => decide (i < ys.length))).length
  | [] => rfl
  | i :: l => by
    rw [List.filter_cons]
    by_cases h : i < ys.length
    · rw [List.filterMap_cons_some (b := ys[i]) (by simp [h]), List.length_cons, fm_len ys l]
      simp [h]
    · rw [List.filterMap_cons_none (by simp; omega), fm_len ys l]
      simp [h]
theorem pickL_len {α : Type} (ys : List α) (lo hi st : Option Int) : (pickL ys lo hi st).length = pickN ys.length lo hi st := fm_len ys _
theorem pickN_fin : ∀ n, n ≤ 6 → pickN n (some 0) none (some 2) = (n + 1) / 2 ∧ pickN n (some 1) none (some 2) = n / 2 ∧ pickN n (some ((n : Int).fdiv 2 * 2)) none none = n % 2 := by decide +kernel
theorem lens (ys : List Int) (h : ys.length ≤ 6) : (evens ys).length = (ys.length + 1) / 2 ∧ (odds ys).length = ys.length / 2 ∧ (lastOf ys).length = ys.length % 2 := by
  unfold evens odds lastOf
  rw [pickL_len, pickL_len, pickL_len]
  exact pickN_fin _ h

theorem first_len (xs : List Int) : (firstOf xs).length ≤ 4 ∧ (secondOf xs).length = (firstOf xs).length ∧ firstOf xs ≠ [] := by
  have h : (xs.take 6).length ≤ 6 := by simp; omega
  obtain ⟨a, b, c⟩ := lens _ h
  have e1 : (firstOf xs).length = 1 + (evens (xs.take 6)).length := by unfold firstOf; simp; omega
  have e2 : (secondOf xs).length = 1 + (odds (xs.take 6)).length + (lastOf (xs.take 6)).length := by unfold secondOf; simp; omega
  refine ⟨by omega, by omega, fun e => ?_⟩
  rw [e] at e1
  simp at e1
  omega

section
variable {prog : Program} {w : World} {A : Around} {s : Shared}
set_option maxHeartbeats 4000000 in
theorem c_law {xs : List Int} {v : Value} (hh : A.handled = none) (hA : A.depth + 25 < recursionLimit) (hU : A.units + 110 < cLine) (hF : A.frames = some []) (B : Bs w s.heap) (hs : isLs xs v s.heap) (hlen : xs.length ≤ 63) :
    Gv prog w A (call (.ref 104) [v]) (isB true) s := by
  refine gv_fn (fd := fdAt w 104) (by omega) (B.X _ _ (look104 w)) (data104 w) B.lim (codeRec_of B.X (code104 w)) (body104 w) (bind104 w _) rfl (by intro x hx; simp at hx; subst hx; exact Or.inl rfl) (fun s₁ F => ?_)
  generalize s.heap.objs.size = L at F ⊢
  have V : LA (A.deeper (lev w L)) (lev w L) := ⟨hh, by show A.depth + 1 + 20 < _; omega, by show A.units + 3 + 100 < _; omega, by show A.frames.map _ = _; rw [hF]; rfl⟩
  show Wx prog w (A.deeper (lev w L)) (execs (bodyAt w 104) (lev w L)) _ _ s₁
  have F1 : Fn s (lev w L) _ _ s₁ := F
  generalize A.deeper (lev w L) = A2 at V ⊢
  have hs1 := mono_Ls xs _ _ _ (Sub.q F1.keep) hs
  have h6 : (xs.take 6).length ≤ 6 := by simp; omega
  obtain ⟨a, b, c⟩ := lens _ h6
  obtain ⟨n4, n2, n0⟩ := first_len xs
  have D := asked n2 n4
  refine law_1 V B F1 rfl hs1 hlen (by omega) (by omega) (by omega) fun m1 cm1 t1 G1 K1 => ?_
  refine law_2 V B G1 K1 (by simp; omega) (by simp; omega) fun m2 cm2 t2 G2 K2 => ?_
  generalize (diffF ((firstOf xs).map fm).reverse ((secondOf xs).map fm) []).1 = ms at D K2
  generalize (diffF ((firstOf xs).map fm).reverse ((secondOf xs).map fm) []).2 = os at D K2
  have q1 := D.len
  have q2 := D.four
  refine law_3 V B G2 K2 (by omega) (by omega) D.len D.none fun t3 G3 K3 => ?_
  refine law_4 V B G3 K3 (by omega) (by omega) (by simp; omega) (by simp; omega) D.same fun t4 G4 K4 => ?_
  refine law_5 V B G4 K4 (by omega) (by omega) fun cm5 t5 G5 K5 => ?_
  refine law_6 V B G5 K5 n4 n0 D.fit fun p m6 cm6 t6 G6 K6 => ?_
  refine law_7 V B G6 K6.l6 D.four (by omega) D.okm D.oko D.fits fun m7 cm7 t7 G7 K7 hle => ?_
  obtain ⟨tk, hle⟩ := hle
  have h24 : (waysN (firstOf xs).length).length ≤ 24 := by
    have h4 : ∀ n, n ≤ 4 → (waysN n).length ≤ 24 := by decide +kernel
    exact h4 _ n4
  exact law_8 V B G7 K7 hle (by omega) (by simpa using ways_ne n4) (by simp; omega) D.cheap D.few
end
end MineQ
end

section
open PySem PySem.W PyProof.Rows
set_option Elab.async false
set_option maxRecDepth 100000
namespace MineQ
theorem ints_paired {h : Heap} : ∀ {vs : List Value} {ns : List Int}, IntsAre vs ns → Paired (fun u x => isI x u h) vs ns
  | _, _, .nil => .nil
  | _, _, .cons n t r => .cons ⟨t, rfl⟩ (ints_paired r)
theorem glob104 (w : World) : nsIn (KK w) mainGlobals (Str.ofString "law") = some (some (.ref 104)) := rfl
theorem good_true {cl : Str → Option Addr} {mean : ExcName → Option Value} {args : List WData} {s₁ s' : Shared} (k : Keeps s₁ s') (hg : s₁.gens = #[]) :
    GoodWG PySem.Challenge.rw_mq0177_01.row.claim cl mean args s₁ (.ok (.ret (.bool true))) s' := by
  obtain ⟨h', tk, rfl, kp⟩ := k
  refine ⟨.inl ⟨.bool true, .bool true, [], rfl, fun _ => rfl, .bool true, ?_, fun _ => ⟨.nil, fun _ ha => nomatch ha⟩⟩, .of_keep kp, rfl, .of_eq hg⟩
  have hv : WTm.value PySem.Challenge.rw_mq0177_01.row.records (.eq .res (.lit (.bool true))) { args := args, res := some (.bool true), after := args } = some (.bool (true == true)) := w_eq_bool (w_res rfl) w_lit
  exact postW_of (r := PySem.Challenge.rw_mq0177_01.row.toRowW) (X := true) rfl hv rfl
end MineQ
end

open PySem PySem.W PyProof.Rows
set_option maxRecDepth 100000 in
set_option maxHeartbeats 8000000 in
theorem PySem.Challenge.cw_mq0177_01_holds : PySem.Challenge.rw_mq0177_01.Holds := by
  refine MineQ.hd ?_
  k_fill
  intro w s₀ s₁ mg mb G Y fa o pm cd doc dV kV ho hd hcd hD hmg hg args vals as hpre hlay hrd hwl hlo
  have KX := kIn_of Y
  refine Ground.open G ?_
  intro T B D TE TW
  have Bw : MineQ.Bs w s₁.heap := ⟨KX, _, _, mg, mb, topRead_of T⟩
  have hfa : fa = 104 := by
    have e1 : mg (Str.ofString "law") = some (.ref 104) := mg_of KX T.g (MineQ.glob104 w)
    have e2 : mg (Str.ofString "law") = some (.ref fa) := hmg
    rw [e1] at e2
    cases e2
    rfl
  subst hfa
  clear ho hd hcd hD hmg G Y T D TE TW B KX
  wrow_args hpre hlay hrd hwl hlo
  rename Heap.IsList _ _ _ => hL
  rename IntsAre _ _ => hI
  rename (¬ ((63 : Int) < _)) => hcap
  refine wpAny_mono (MineQ.c_law (w := w) rfl (by decide) (by decide) rfl Bw ⟨_, _, rfl, hL, MineQ.ints_paired hI⟩ (by omega) _) (fun v s' h => ?_) (fun _ _ e => e)
  obtain ⟨hb, kk⟩ := h
  cases hb
  exact MineQ.good_true kk hg
