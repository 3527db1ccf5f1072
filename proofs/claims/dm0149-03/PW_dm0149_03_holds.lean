import PyProof.Rows.All
import Wide.All
import OpenK.AllK
import Wide.FinOn
import PySem.Challenge.RW_dm0149_03
open PySem PySem.W PyProof.Rows PySem.Calls
set_option Elab.async false
set_option maxRecDepth 100000
set_option linter.unusedVariables false

namespace Mine

/-- from heap h the tree ends well: value v and heap h' in P; nothing else of the state turns but the tokens -/
def Ev {α : Type} (M : Model) (A : Around) (t : Sem α) (h : Heap) (P : α → Heap → Prop) : Prop :=
  ∀ g d tk os, wpAny M A t (fun v s' => ∃ h' tk', s' = ⟨h', g, d, tk', os⟩ ∧ P v h') (fun _ _ => False) ⟨h, g, d, tk, os⟩

/-- the same of a code that is run to its return -/
def EvC (M : Model) (A : Around) (c : Code) (h : Heap) (P : Value → Heap → Prop) : Prop :=
  ∀ g d tk os, codeAny M A c (fun r s' => ∃ v h' tk', r = .ok (.ret v) ∧ s' = ⟨h', g, d, tk', os⟩ ∧ P v h') ⟨h, g, d, tk, os⟩

section
variable {α β : Type} {M : Model} {A : Around} {h : Heap}

theorem Ev.wp {t : Sem α} {P : α → Heap → Prop} (e : Ev M A t h P) {g d tk os} {Q : α → Shared → Prop} {E : Value → Shared → Prop}
    (k : ∀ v h' tk', P v h' → Q v ⟨h', g, d, tk', os⟩) : wpAny M A t Q E ⟨h, g, d, tk, os⟩ :=
  wpAny_mono (e g d tk os) (fun v s' ⟨h', tk', hs, p⟩ => hs ▸ k v h' tk' p) fun _ _ x => x.elim

theorem Ev.mono {t : Sem α} {P P' : α → Heap → Prop} (e : Ev M A t h P) (k : ∀ v h', P v h' → P' v h') : Ev M A t h P' :=
  fun _ _ _ _ => e.wp fun v h' tk' p => ⟨h', tk', rfl, k v h' p⟩

theorem Ev.pure {a : α} {P : α → Heap → Prop} (k : P a h) : Ev M A (pure a) h P := fun _ _ tk _ => wpAny_pure ⟨h, tk, rfl, k⟩
theorem Ev.bind {m : Sem α} {f : α → Sem β} {P : β → Heap → Prop} (e : Ev M A m h fun a h' => Ev M A (f a) h' P) : Ev M A (m >>= f) h P :=
  fun _ _ _ _ => wpAny_bind (e.wp fun v h' tk' p => p _ _ tk' _)
theorem Ev.of_eq {t : Sem α} {a : α} {P : α → Heap → Prop} (e : t = Pure.pure a) (k : P a h) : Ev M A t h P := e ▸ Ev.pure k
theorem Ev.congr {t t' : Sem α} {P : α → Heap → Prop} (e : t = t') (k : Ev M A t' h P) : Ev M A t h P := e ▸ k
theorem Ev.holding {vs : List Value} {m : Sem α} {P : α → Heap → Prop} (e : Ev M A m h P) : Ev M A (holding vs m) h P := fun g d tk os => wpAny_holding (e g d tk os)
theorem Ev.standAt {p : Pos} {P : Unit → Heap → Prop} (k : P () h) : Ev M A (standAt p) h P := fun _ _ tk _ => wpAny_standAt ⟨h, tk, rfl, k⟩
theorem Ev.point {P : Unit → Heap → Prop} (k : P () h) : Ev M A point h P := fun _ _ tk _ => wpAny_point ⟨h, tk, rfl, k⟩
theorem Ev.call {f : Value} {pos : List Value} {kw : List (Str × Value)} {P : Value → Heap → Prop} (e : EvC M A (.call f ⟨pos, kw⟩) h P) : Ev M A (call f pos kw) h P :=
  fun g d tk os => wpAny_call (codeAny_mono (e g d tk os) fun r s' ⟨v, h', tk', hr, hs, p⟩ => by subst hr; exact ⟨h', tk', hs, p⟩)
theorem EvC.mono {c : Code} {P P' : Value → Heap → Prop} (e : EvC M A c h P) (k : ∀ v h', P v h' → P' v h') : EvC M A c h P' :=
  fun g d tk os => codeAny_mono (e g d tk os) fun _ _ ⟨v, h', tk', hr, hs, p⟩ => ⟨v, h', tk', hr, hs, k v h' p⟩
/-- a rule of the library's, laid over a tree -/
theorem Ev.of {t : Sem α} {P : α → Heap → Prop}
    (k : ∀ g d tk os (Q : α → Shared → Prop), (∀ v h' tk', P v h' → Q v ⟨h', g, d, tk', os⟩) → wpAny M A t Q (fun _ _ => False) ⟨h, g, d, tk, os⟩) : Ev M A t h P :=
  fun g d tk os => k g d tk os _ fun _ h' tk' p => ⟨h', tk', rfl, p⟩
end

/-! heaps -/
structure Keep (S : List Addr) (h h' : Heap) : Prop where
  size : h.objs.size ≤ h'.objs.size
  get : ∀ a o, a ∉ S → h.get? a = some o → h'.get? a = some o
def Stay (g h : Heap) : Prop := ∀ a o, g.get? a = some o → h.get? a = some o

section
variable {S S' : List Addr} {h h' h'' g : Heap} {a L : Addr} {o : Obj} {m : Str → Option Value}
theorem Keep.refl (S : List Addr) (h : Heap) : Keep S h h := ⟨Nat.le_refl _, fun _ _ _ e => e⟩
theorem Keep.trans (x : Keep S h h') (y : Keep S h' h'') : Keep S h h'' := ⟨Nat.le_trans x.size y.size, fun a o n e => y.get a o n (x.get a o n e)⟩
theorem Keep.mono (x : Keep S h h') (k : ∀ a ∈ S, a ∈ S') : Keep S' h h' := ⟨x.size, fun a o n e => x.get a o (fun q => n (k a q)) e⟩
/-- what is turned beside S is new -/
theorem Keep.less (x : Keep S' h h') (k : ∀ a ∈ S', a ∈ S ∨ h.objs.size ≤ a) : Keep S h h' :=
  ⟨x.size, fun a o n e => x.get a o (fun q => (k a q).elim n fun l => absurd (Heap.lt_size e) (Nat.not_lt.mpr l)) e⟩
theorem Keep.then (x : Keep S h h') (y : Keep S' h' h'') (k : ∀ a ∈ S', a ∈ S ∨ h.objs.size ≤ a) : Keep S h h'' :=
  ⟨Nat.le_trans x.size y.size, fun a o n e => y.get a o (fun q => (k a q).elim n fun l => absurd (Heap.lt_size e) (Nat.not_lt.mpr l)) (x.get a o n e)⟩
theorem Keep.thenN (x : Keep S h h') (y : Keep S' h' h'') (k : ∀ a ∈ S', a ∈ S ∨ h.get? a = none) : Keep S h h'' :=
  ⟨Nat.le_trans x.size y.size, fun a o n e => y.get a o (fun q => (k a q).elim n fun l => by rw [l] at e; cases e) (x.get a o n e)⟩
theorem Keep.none (x : Keep S h h') {b : Addr} (e : h'.get? b = none) (n : b ∉ S) : h.get? b = .none := by
  cases q : h.get? b with
  | none => rfl
  | some o => rw [x.get b o n q] at e; cases e
theorem Keep.push (h : Heap) (o : Obj) : Keep [] h (h.push o) := ⟨by rw [Heap.size_push]; omega, fun _ _ _ e => Heap.get?_push_of_some _ e⟩
theorem Keep.of_sameBut (x : Heap.SameBut a h h') : Keep [a] h h' := ⟨Nat.le_of_eq x.1.symm, fun b o n e => (x.2 b fun q => n (by rw [q]; exact .head _)).trans e⟩
theorem Keep.update (h : Heap) (a : Addr) (f : Obj → Obj) : Keep [a] h (h.update a f) := .of_sameBut (.update h a f)
theorem Keep.ns (x : Keep S h h') (n : h.Ns L m) (hL : L ∉ S) : h'.Ns L m := let ⟨o, es, ep, ho, r⟩ := n; ⟨o, es, ep, x.get _ _ hL ho, r⟩
theorem Keep.all (x : Keep [] h h') : ∀ b o, h.get? b = some o → h'.get? b = some o := fun b o e => x.get b o List.not_mem_nil e
theorem Keep.nil (x : Keep [] h h') : Keep S h h' := x.mono fun _ q => nomatch q
theorem Stay.refl (h : Heap) : Stay h h := fun _ _ e => e
theorem Stay.keep (s : Stay g h) (x : Keep S h h') (k : ∀ a ∈ S, g.get? a = none) : Stay g h' :=
  fun a o e => x.get a o (fun q => by rw [k a q] at e; cases e) (s a o e)
theorem Stay.keep' (s : Stay g h) (x : Keep [] h h') : Stay g h' := s.keep x fun _ q => nomatch q
theorem Stay.none (s : Stay g h) {a : Nat} (l : h.objs.size ≤ a) : g.get? a = .none := by
  cases q : g.get? a with
  | none => rfl
  | some o => exact absurd (Heap.lt_size (s _ _ q)) (Nat.not_lt.mpr l)
theorem ne_some {h : Heap} {a b : Addr} {o : Obj} (x : h.get? a = .none) (y : h.get? b = some o) : a ≠ b := fun q => by rw [q, y] at x; cases x
theorem ne_ns {h : Heap} {a L : Addr} {m : Str → Option Value} (x : h.get? a = .none) (y : h.Ns L m) : a ≠ L := let ⟨_, _, _, e, _⟩ := y; ne_some x e
theorem get_none (hs : g.objs.size ≤ a) : g.get? a = none := Heap.get?_none_of_le hs
end

theorem ni {a L : Nat} (n : a ≠ L) : a ∉ [L] := by simpa using n
theorem ni2 {a b c : Nat} (n1 : a ≠ b) (n2 : a ≠ c) : a ∉ [b, c] := by simp [n1, n2]
theorem ni3 {a b c d : Nat} (n1 : a ≠ b) (n2 : a ≠ c) (n3 : a ≠ d) : a ∉ [b, c, d] := by simp [n1, n2, n3]
theorem all2 {b c : Nat} {P : Nat → Prop} (p : P b) (q : P c) : ∀ a ∈ [b, c], P a := fun a h => by
  rcases List.mem_cons.mp h with rfl | h
  · exact p
  · rw [List.mem_singleton.mp h]; exact q
theorem all1 {L : Nat} {P : Nat → Prop} (p : P L) : ∀ a ∈ [L], P a := fun a q => by rw [List.mem_singleton.mp q]; exact p
theorem all0 {P : Nat → Prop} : ∀ a ∈ ([] : List Nat), P a := fun a q => nomatch q
theorem nis {a B : Nat} {S : List Nat} (low : ∀ b ∈ S, b < B) (l : B ≤ a) : a ∉ S := fun q => absurd (low a q) (by omega)
/-- the ground: the written part, the names of the module and of the built-ins -/
structure Gd (K : Frag) (mg mb : Str → Option Value) (h : Heap) : Prop where
  X : K.In h
  g : h.Ns mainGlobals mg
  b : h.Ns builtinsNs mb
  lim : h.NoLimit
  bi : ∀ x : Str, x ≠ "__name__" → mb x = bootBuiltins x
  bmain : ∃ bm ob, mg "__builtins__" = some (.ref bm) ∧ bm ≠ builtinsNs ∧ h.get? bm = some ob ∧ ob.cls = .type "module" ∧ ob.dict = some builtinsNs ∧ ob.data = .plain
theorem Gd.keeps {K : Frag} {mg mb : Str → Option Value} {h h' : Heap} (G : Gd K mg mb h) (s : Stay h h') : Gd K mg mb h' :=
  ⟨G.X.keeps s, G.g.keeps s, G.b.keeps s, G.lim.keeps s, G.bi, let ⟨bm, ob, h1, h2, h3, r⟩ := G.bmain; ⟨bm, ob, h1, h2, s _ _ h3, r⟩⟩

/-- room for k more calls -/
structure Room (A : Around) (k : Nat) : Prop where
  handled : A.handled = none
  depth : A.depth + k < 900
  units : A.units + 12 * k < 9000
theorem Room.here {A : Around} {k : Nat} (r : Room A (k + 1)) : A.depth < recursionLimit := by have := r.depth; simp only [recursionLimit]; omega
theorem Room.deeper {A : Around} {k : Nat} (r : Room A (k + 1)) (env : Env) : Room (A.deeper env) k := ⟨r.handled, by have := r.depth; show A.depth + 1 + k < 900; omega, by have := r.units; show A.units + 3 + 12 * k < 9000; omega⟩
theorem Room.less {A : Around} {k k' : Nat} (r : Room A k) (l : k' ≤ k) : Room A k' := ⟨r.handled, by have := r.depth; omega, by have := r.units; omega⟩
theorem Room.line {A : Around} {k : Nat} (r : Room A k) : A.units + 100 < cLine := by have := r.units; rw [cLine_is]; omega

/-- names -/
def upd (m : Str → Option Value) (x : Str) (v : Value) : Str → Option Value := fun y => if y = x then some v else m y
theorem upd_same {m : Str → Option Value} {x : Str} {v : Value} : upd m x v x = some v := if_pos rfl
theorem upd_ne {m : Str → Option Value} {x y : Str} {v : Value} (n : y ≠ x) : upd m x v y = m y := if_neg n

section
variable {M : Model} {A : Around} {h : Heap} {env : Env} {x : Str} {pos : Pos} {v : Value} {P : Value → Heap → Prop} {m mg mb : Str → Option Value} {K : Frag}
theorem Ev.local {L : Addr} (hn : h.Ns L m) (hv : m x = some v) (k : P v h) (hL : env.locals = L := by rfl) (hk : env.scope.kind = .function := by rfl) (hl : env.kindOf x = some .local := by rfl)
    (hd : (x == ("__debug__" : Str)) = false := by decide) : Ev M A (eval (.Name x pos) env) h P :=
  fun _ _ tk _ => wpAny_Name (wpAny_loadName_local hk hl (by rw [hL]; exact hn) hv ⟨h, tk, rfl, k⟩) hd
theorem Ev.free {c : Addr} (hc : env.cells.lookup x = some c) (hv : h.IsCell c (some v)) (k : P v h) (hk : env.scope.kind = .function := by rfl) (hl : env.kindOf x = some .free := by rfl)
    (hd : (x == ("__debug__" : Str)) = false := by decide) (hn : (x == ("__classdict__" : Str)) = false := by decide) : Ev M A (eval (.Name x pos) env) h P :=
  fun _ _ tk _ => wpAny_Name (wpAny_loadName_free hk hl hc hv ⟨h, tk, rfl, k⟩ hn) hd
theorem Ev.cell {c : Addr} (hc : env.cells.lookup x = some c) (hv : h.IsCell c (some v)) (k : P v h) (hk : env.scope.kind = .function := by rfl) (hl : env.kindOf x = some .cell := by rfl)
    (hd : (x == ("__debug__" : Str)) = false := by decide) : Ev M A (eval (.Name x pos) env) h P :=
  fun _ _ tk _ => wpAny_Name (wpAny_loadName_cell hk hl hc hv ⟨h, tk, rfl, k⟩) hd
theorem Ev.global (G : Gd K mg mb h) (e : nsIn K mainGlobals x = some (some v)) (k : P v h) (hg : env.globals = mainGlobals := by rfl) (hk : env.scope.kind = .function := by rfl)
    (hl : env.kindOf x = some .globalImplicit := by rfl) (hd : (x == ("__debug__" : Str)) = false := by decide) : Ev M A (eval (.Name x pos) env) h P :=
  fun _ _ tk _ => Name_function_global hk hl (loadGlobal_global (by rw [hg]; exact G.g) (mg_of G.X G.g e) ⟨h, tk, rfl, k⟩) hd
theorem Ev.builtin (G : Gd K mg mb h) (e : nsIn K mainGlobals x = some none) (hv : bootBuiltins x = some v) (k : P v h) (hx : x ≠ "__name__" := by decide) (hg : env.globals = mainGlobals := by rfl) (hb : env.builtins = builtinsNs := by rfl)
    (hk : env.scope.kind = .function := by rfl) (hl : env.kindOf x = some .globalImplicit := by rfl) (hd : (x == ("__debug__" : Str)) = false := by decide) : Ev M A (eval (.Name x pos) env) h P :=
  fun _ _ tk _ => Name_function_global hk hl (loadGlobal_builtin (by rw [hg]; exact G.g) (mg_none_of G.X G.g e) (by rw [hb]; exact G.b) ((G.bi x hx).trans hv) ⟨h, tk, rfl, k⟩) hd
theorem Ev.int {i : Int} {k0 : Nat} (k : ∀ t, P (.int i t) h) : Ev M A (eval (.Constant (.int i) k0 pos) env) h P := fun _ _ tk _ => wpAny_Constant_int ⟨h, _, rfl, k _⟩
theorem Ev.str {i : Str} {k0 : Nat} (k : ∀ t, P (.str i t) h) : Ev M A (eval (.Constant (.str i) k0 pos) env) h P := fun _ _ tk _ => wpAny_Constant_str ⟨h, _, rfl, k _⟩
theorem Ev.bool {i : Bool} {k0 : Nat} (k : P (.bool i) h) : Ev M A (eval (.Constant (.bool i) k0 pos) env) h P := fun _ _ tk _ => wpAny_Constant_bool ⟨h, tk, rfl, k⟩
theorem Ev.bytes {i : List UInt8} {k0 : Nat} (k : ∀ t, P (.bytes i.toArray t) h) : Ev M A (eval (.Constant (.bytes i) k0 pos) env) h P := fun _ _ tk _ => fun _ _ _ => ⟨h, _, rfl, k _⟩
end

section
variable {M : Model} {A : Around} {h : Heap} {env : Env} {P : Flow → Heap → Prop} {m : Str → Option Value} {x : Str} {pos pos' : Pos}
theorem Ev.store {v : Value} {L : Addr} {P : Unit → Heap → Prop} (hn : h.Ns L m) (k : ∀ h', h'.Ns L (upd m x v) → Keep [L] h h' → P () h') (hL : env.locals = L := by rfl) (hk : env.scope.kind = .function := by rfl)
    (hl : env.kindOf x = some .local := by rfl) : Ev M A (storeName env x v) h P := by
  subst hL
  exact fun _ _ _ _ => wpAny_storeName_local hl hn (fun h' hn' hs => ⟨h', _, rfl, k h' hn' (.of_sameBut hs)⟩) (by rw [hk]; rfl)
theorem Ev.nil (k : P .next h) : Ev M A (execs [] env) h P := fun _ _ tk _ => wpAny_execs_nil ⟨h, tk, rfl, k⟩
theorem Ev.cons {st : Stmt} {rest : List Stmt} (e : Ev M A (exec st env) h fun f h' => match f with | .next => Ev M A (execs rest env) h' P | f => P f h') : Ev M A (execs (st :: rest) env) h P :=
  fun g d tk os => wpAny_execs_cons (e.wp fun f h' tk' p => by
    cases f with
    | next => exact p g d tk' os
    | _ => exact ⟨h', tk', rfl, p⟩)
theorem Ev.assign {value : Expr} (e : Ev M A (eval value env) h fun v h' => Ev M A (storeName env x v) h' fun _ h'' => P .next h'')
    (hs : swapsWith value (some (.Name x pos')) pos.line env = Pure.pure false := by rfl) : Ev M A (exec (.Assign [.Name x pos'] value pos) env) h P :=
  fun g d tk os => wpAny_Assign_Name (e.wp fun v h' tk' p => p.wp fun _ h'' tk'' q => ⟨h'', tk'', rfl, q⟩) hs
theorem Ev.expr {e0 : Expr} (e : Ev M A (eval e0 env) h fun v h' => v = .none ∧ P .next h') (hi : interactive env = false := by rfl) (hs : swapsWith e0 none pos.line env = Pure.pure false := by rfl) :
    Ev M A (exec (.Expr e0 pos) env) h P :=
  fun g d tk os => wpAny_Expr (e.wp fun v h' tk' ⟨q, p⟩ => by subst q; exact ⟨h', tk', rfl, p⟩) hi hs
theorem Ev.ret {e0 : Expr} (e : Ev M A (eval e0 env) h fun v h' => P (.ret v) h') : Ev M A (exec (.Return (some e0) pos) env) h P :=
  fun g d tk os => wpAny_Return_some (e.wp fun v h' tk' p => ⟨h', tk', rfl, p⟩)
theorem Ev.brk (k : P .brk h) : Ev M A (exec (.Break pos) env) h P := fun _ _ tk _ => wpAny_Break ⟨h, tk, rfl, k⟩
theorem Ev.ite {test : Expr} {body orelse : List Stmt} (e : Ev M A (isTrue test env (eval test env)) h fun b h' => if b then Ev M A (execs body env) h' P else Ev M A (execs orelse env) h' P) :
    Ev M A (exec (.If test body orelse pos) env) h P :=
  fun g d tk os => wpAny_If (e.wp fun b h' tk' p => by cases b <;> exact p g d tk' os)
theorem Ev.ifexp {test body orelse : Expr} {P : Value → Heap → Prop} (e : Ev M A (isTrue test env (eval test env)) h fun b h' => if b then Ev M A (eval body env) h' P else Ev M A (eval orelse env) h' P) :
    Ev M A (eval (.IfExp test body orelse pos) env) h P :=
  fun g d tk os => wpAny_IfExp (e.wp fun b h' tk' p => by cases b <;> exact p g d tk' os)
theorem Ev.isTrue1 {l r : Expr} {op : CmpOp} {whole : Sem Value} {P : Bool → Heap → Prop}
    (e : Ev M A (eval l env) h fun a h1 => Ev M A (eval r env) h1 fun b h2 => Ev M A (compareOp op a b) h2 fun c h3 => ∃ b, c = .bool b ∧ P b h3)
    (hm : behindInMarks op r = false := by with_unfolding_all rfl) : Ev M A (isTrue (.Compare l [op] [r] pos) env whole) h P :=
  fun g d tk os => wpAny_isTrue_Compare1 (e.wp fun a h1 t1 p => p.wp fun b h2 t2 q => q.wp fun c h3 t3 ⟨b, hc, r⟩ => by subst hc; exact wpAny_truthy_bool ⟨h3, t3, rfl, r⟩) hm
theorem Ev.compare1 {l r : Expr} {op : CmpOp} {P : Value → Heap → Prop}
    (e : Ev M A (eval l env) h fun a h1 => Ev M A (eval r env) h1 fun b h2 => Ev M A (compareOp op a b) h2 P)
    (hm : behindInMarks op r = false := by with_unfolding_all rfl) : Ev M A (eval (.Compare l [op] [r] pos) env) h P :=
  fun g d tk os => wpAny_Compare1 (e.wp fun a h1 t1 p => p.wp fun b h2 t2 q => q g d t2 os) hm
theorem Ev.binop {l r : Expr} {op : Operator} {P : Value → Heap → Prop}
    (e : Ev M A (eval l env) h fun a h1 => Ev M A (eval r env) h1 fun b h2 => Ev M A (binaryOp op a b) h2 P) : Ev M A (eval (.BinOp l op r pos) env) h P :=
  fun g d tk os => wpAny_BinOp (e.wp fun a h1 t1 p => p.wp fun b h2 t2 q => q g d t2 os)
theorem Ev.isTrue_not {e0 : Expr} {whole : Sem Value} {P : Bool → Heap → Prop} (e : Ev M A (isTrue e0 env (eval e0 env)) h fun b h' => P (!b) h') : Ev M A (isTrue (.UnaryOp .Not e0 pos) env whole) h P :=
  fun g d tk os => wpAny_isTrue_Not (e.wp fun b h' tk' p => ⟨h', tk', rfl, p⟩)
theorem Ev.isTrue_bool {e0 : Expr} {P : Bool → Heap → Prop} (e : Ev M A (eval e0 env) h fun v h' => ∃ b, v = .bool b ∧ P b h')
    (he : isTrue e0 env (eval e0 env) = (do let v ← eval e0 env; PySem.standAt e0.pos; PySem.holding [v] (truthy v)) := by rfl) : Ev M A (isTrue e0 env (eval e0 env)) h P :=
  fun g d tk os => wpAny_isTrue_value (e.wp fun v h' tk' ⟨b, hv, p⟩ => by subst hv; exact wpAny_truthy_bool ⟨h', tk', rfl, p⟩) he
theorem Ev.isTrue_or2 {x y : Expr} {whole : Sem Value} {P : Bool → Heap → Prop}
    (e : Ev M A (isTrue x env (eval x env)) h fun b h' => if b then P true h' else Ev M A (isTrue y env (eval y env)) h' P) : Ev M A (isTrue (.BoolOp .Or [x, y] pos) env whole) h P :=
  fun g d tk os => wpAny_isTrue_BoolOp (wpAny_allTrue_Or_cons (e.wp fun b h' tk' p => by
    cases b with
    | true => exact ⟨h', tk', rfl, p⟩
    | false => exact wpAny_allTrue_Or_cons (Ev.wp p fun b h'' tk'' q => by
        cases b with
        | true => exact ⟨h'', tk'', rfl, q⟩
        | false => exact wpAny_allTrue_Or_nil ⟨h'', tk'', rfl, q⟩)))
end

section
variable {prog : Program} {w : World} {A : Around} {h : Heap} {env : Env} {P : Flow → Heap → Prop} {pos : Pos}
/-- a while loop by an invariant over a falling number -/
theorem Ev.while {test : Expr} {body : List Stmt} (I : Nat → Heap → Prop) (n : Nat) (h0 : I n h)
    (turn : ∀ n h, I n h → Ev (model prog w) A (isTrue test env (eval test env)) h fun b h1 =>
      if b then Ev (model prog w) A (execs body env) h1 fun f h2 => match f with
          | .next | .cont => ∃ m, m < n ∧ I m h2
          | .brk => P .next h2
          | .ret v => P (.ret v) h2
      else P .next h1) : Ev (model prog w) A (exec (.While test body [] pos) env) h P := by
  intro g d tk os
  refine wpAny_While (codeAny_whileLoop (fun n s => ∃ h tk, s = ⟨h, g, d, tk, os⟩ ∧ I n h) (fun n s hI => ?_) n ⟨h, tk, rfl, h0⟩)
  obtain ⟨h, tk, rfl, hI⟩ := hI
  refine (turn n h hI).wp fun b h1 t1 p => ?_
  cases b with
  | false => exact wpAny_execs_nil ⟨h1, t1, rfl, p⟩
  | true =>
    refine Ev.wp p fun f h2 t2 q => ?_
    cases f with
    | next => obtain ⟨m, l, q⟩ := q; exact ⟨m, l, h2, t2, rfl, q⟩
    | cont => obtain ⟨m, l, q⟩ := q; exact ⟨m, l, h2, t2, rfl, q⟩
    | brk => exact ⟨h2, t2, rfl, q⟩
    | ret v => exact ⟨h2, t2, rfl, q⟩
end

section
variable {prog : Program} {w : World} {A : Around} {h : Heap} {P : Value → Heap → Prop}
/-- a def is called -/
theorem EvC.fn {a : Addr} {o : Obj} {fd : FuncData} {body : List Stmt} {vals : List Value} {binds : List (Str × Value)}
    (hroom : A.depth < recursionLimit) (ho : h.get? a = some o) (hdata : o.data = .func fd) (hlim : h.NoLimit) (hcd : h.CodeRec fd.code fd.qualname)
    (hbody : fd.body = .stmts body) (hbind : bindArgs fd ⟨vals, []⟩ = pure binds)
    (hcell : ∀ x ∈ fd.scope.names, x.2 ≠ .cell) (hloc : ∀ x ∈ binds, fd.scope.names.lookup x.1 = some .local)
    (k : ∀ h₀, h₀.Ns h.objs.size (fun x => binds.reverse.lookup x) → Keep [] h h₀ → h.objs.size < h₀.objs.size →
      Ev (model prog w) (A.deeper (callEnv fd h.objs.size a)) (execs body (callEnv fd h.objs.size a)) h₀ fun f h' => P (match f with | .ret v => v | _ => .none) h')
    (hco : fd.scope.isCoroutine = false := by rfl) (hgen : fd.scope.isGenerator = false := by rfl) (hk : fd.scope.kind = .function := by rfl) :
    EvC (model prog w) A (.call (.ref a) ⟨vals, []⟩) h P := by
  intro g d tk os
  refine codeAny_call_plain hroom ho hdata hlim hcd hbody hbind hcell hloc (fun h₀ hns hk' => ?_) hco hgen hk
  refine (k h₀ hns ⟨Nat.le_of_lt hns.lt, fun a o _ e => hk' a o e⟩ hns.lt).wp fun f h' tk' p => ?_
  cases f <;> exact ⟨_, h', tk', rfl, rfl, p⟩
/-- a def whose names are captured is called -/
theorem EvC.fnC {a : Addr} {o : Obj} {fd : FuncData} {body : List Stmt} {vals : List Value} {binds : List (Str × Value)}
    (hroom : A.depth < recursionLimit) (ho : h.get? a = some o) (hdata : o.data = .func fd) (hlim : h.NoLimit) (hcd : h.CodeRec fd.code fd.qualname)
    (hbody : fd.body = .stmts body) (hbind : bindArgs fd ⟨vals, []⟩ = pure binds) (hclo : fd.closure = [])
    (hkind : ∀ x ∈ binds, fd.scope.names.lookup x.1 = some .local ∨ (fd.scope.names.lookup x.1 = some .cell ∧ ((cellsFrom (h.objs.size + 1) fd.scope.names []).lookup x.1).isSome = true))
    (k : ∀ h₀, h₀.Ns h.objs.size (bindL (callEnvC fd h.objs.size a).kindOf binds fun _ => none) → Keep [] h h₀ → h.objs.size < h₀.objs.size →
      (∀ n c, (cellsFrom (h.objs.size + 1) fd.scope.names []).lookup n = some c → h₀.IsCell c (bindC (callEnvC fd h.objs.size a).kindOf binds (fun _ => none) n) ∧ h.objs.size < c) →
      Ev (model prog w) (A.deeper (callEnvC fd h.objs.size a)) (execs body (callEnvC fd h.objs.size a)) h₀ fun f h' => P (match f with | .ret v => v | _ => .none) h')
    (hco : fd.scope.isCoroutine = false := by rfl) (hgen : fd.scope.isGenerator = false := by rfl) (hk : fd.scope.kind = .function := by rfl) :
    EvC (model prog w) A (.call (.ref a) ⟨vals, []⟩) h P := by
  intro g d tk os
  refine codeAny_call_cells hroom ho hdata hlim hcd hbody hbind hclo hkind (fun s₁ x => ?_) hco hgen hk
  obtain ⟨h₀, tk', rfl⟩ := x.toInCall.same
  have hns := x.toInCall.ns
  refine (k h₀ hns ⟨Nat.le_of_lt hns.lt, fun a o _ e => x.toInCall.keep a o e⟩ hns.lt fun n c e => ⟨x.cell n c e, x.above n c (mem_of_lookup e)⟩).wp fun f h' tk' p => ?_
  cases f <;> exact ⟨_, h', tk', rfl, rfl, p⟩
/-- a lambda is called -/
theorem EvC.lam {a : Addr} {o : Obj} {fd : FuncData} {body : Expr} {vals : List Value} {binds : List (Str × Value)}
    (hroom : A.depth < recursionLimit) (ho : h.get? a = some o) (hdata : o.data = .func fd) (hlim : h.NoLimit) (hcd : h.CodeRec fd.code fd.qualname)
    (hbody : fd.body = .expr body) (hbind : bindArgs fd ⟨vals, []⟩ = pure binds)
    (hcell : ∀ x ∈ fd.scope.names, x.2 ≠ .cell) (hloc : ∀ x ∈ binds, fd.scope.names.lookup x.1 = some .local)
    (k : ∀ h₀, h₀.Ns h.objs.size (fun x => binds.reverse.lookup x) → Keep [] h h₀ → h.objs.size < h₀.objs.size →
      Ev (model prog w) (A.deeper (callEnv fd h.objs.size a)) (eval body (callEnv fd h.objs.size a)) h₀ P)
    (hco : fd.scope.isCoroutine = false := by rfl) (hgen : fd.scope.isGenerator = false := by rfl) (hk : fd.scope.kind = .function := by rfl) :
    EvC (model prog w) A (.call (.ref a) ⟨vals, []⟩) h P := by
  intro g d tk os
  refine kla_callFunE hroom ho hdata hco hgen hbody hcd ?_
  rw [hbind]
  refine wpAny_pure (wpAny_newFunctionEnv hcell hloc (fun h₁ hns hsb => ⟨hlim.fresh _ hsb, kla_codeExpr ?_⟩) hk)
  exact (k h₁ hns ⟨Nat.le_of_lt hns.lt, fun b o _ e => hsb.extBut b o (Nat.ne_of_lt (Heap.lt_size e)) (Heap.get?_push_of_some _ e)⟩ hns.lt).wp fun v h' tk' p => ⟨_, h', tk', rfl, rfl, p⟩
end
end Mine

namespace Mine

/-- a plain list object -/
def Lst (h : Heap) (a : Addr) (vs : List Value) : Prop := ∃ n, h.get? a = some { cls := .type "list", data := .seq vs.toArray n }
theorem Lst.keep {S : List Addr} {h h' : Heap} {a : Addr} {vs : List Value} (x : Lst h a vs) (k : Keep S h h') (n : a ∉ S) : Lst h' a vs := let ⟨e, q⟩ := x; ⟨e, k.get _ _ n q⟩
theorem Lst.lt {h : Heap} {a : Nat} {vs : List Value} (x : Lst h a vs) : a < h.objs.size := let ⟨_, q⟩ := x; Heap.lt_size q
theorem Lst.isList {h : Heap} {a : Addr} {vs : List Value} (x : Lst h a vs) : h.IsList a vs.toArray := let ⟨n, q⟩ := x; ⟨_, q, rfl, n, rfl⟩
theorem Lst.new (h : Heap) (vs : List Value) : Lst (h.push { cls := .type "list", data := .seq vs.toArray }) h.objs.size vs := ⟨0, Heap.get?_push_size _ rfl⟩
theorem Lst.inj {h : Heap} {a : Addr} {vs us : List Value} (x : Lst h a vs) (y : Lst h a us) : vs = us := by
  obtain ⟨n, q⟩ := x; obtain ⟨k, p⟩ := y
  rw [q] at p
  simp only [Option.some.injEq, Obj.mk.injEq, Data.seq.injEq] at p
  have := p.2.2.1.1
  simpa using this

section
variable {M : Model} {A : Around} {h : Heap} {env : Env} {P : Value → Heap → Prop} {pos : Pos}
theorem Ev.items_nil {P : List Value → Heap → Prop} (k : P [] h) : Ev M A (spliced (backTo pos (starEach [] env))) h P := fun _ _ tk _ => wpAny_items_nil ⟨h, tk, rfl, k⟩
theorem Ev.items_cons {e : Expr} {rest : List Expr} {P : List Value → Heap → Prop}
    (k : Ev M A (eval e env) h fun v h1 => Ev M A (spliced (backTo pos (starEach rest env))) h1 fun vs h2 => P (v :: vs) h2)
    (he : starEach (e :: rest) env = (false, eval e env) :: starEach rest env := by rfl) : Ev M A (spliced (backTo pos (starEach (e :: rest) env))) h P :=
  fun g d tk os => wpAny_items_cons (k.wp fun v h1 t1 p => p.wp fun vs h2 t2 q => ⟨h2, t2, rfl, q⟩) he
theorem Ev.list {elts : List Expr} (k : Ev M A (spliced (backTo pos (starEach elts env))) h fun vs h1 => vs.length ≤ 16777216 ∧ ∀ h2, Lst h2 h1.objs.size vs → Keep [] h1 h2 → h2.objs.size = h1.objs.size + 1 → P (.ref h1.objs.size) h2) :
    Ev M A (eval (.List elts pos) env) h P :=
  fun g d tk os => wpAny_List (k.wp fun vs h1 t1 ⟨l, p⟩ => ⟨by rw [sizeLine_eq]; exact l, _, t1, rfl, p _ (.new _ _) (.push _ _) (Heap.size_push ..)⟩)
theorem Ev.tuple {elts : List Expr} {k0 : Nat} (k : Ev M A (spliced (backTo pos (starEach elts env))) h fun vs h1 => vs.length ≤ 16777216 ∧ P (.ref h1.objs.size) (h1.push { cls := .type "tuple", data := .seq vs.toArray })) :
    Ev M A (eval (.Tuple elts k0 pos) env) h P :=
  fun g d tk os => wpAny_Tuple (k.wp fun vs h1 t1 ⟨l, p⟩ => ⟨by rw [sizeLine_eq]; exact l, _, t1, rfl, p⟩)

theorem evalArgs_list {E : Value → Shared → Prop} {s : Shared} {f : Value} {L : List (Bool × Sem Value)} {Q : Args → Shared → Prop} (hpl : L.any (·.1) = false)
    (k : wpAny M A (spliced L) (fun vs s' => Q ⟨vs, []⟩ s') E s) : wpAny M A (evalArgs f true L []) Q E s := by
  have e : evalArgs f true L [] = (spliced L >>= fun vs => PySem.holding (vs ++ (none : Option Value).toList) (Pure.pure (⟨vs, []⟩ : Args))) := by
    unfold evalArgs
    match L, hpl with
    | [], _ => rfl
    | (false, x) :: r, _ =>
      show (spliced ((false, x) :: r) >>= _) = _
      rfl
    | (true, x) :: r, hpl => simp at hpl
  rw [e]
  exact wpAny_bind (wpAny_mono k (fun vs s' p => wpAny_holding (wpAny_pure p)) fun _ _ x => x)
/-- who keeps the callee: no matter -/
theorem Ev.callWith {f : Value} {first : List Value} {L : List (Bool × Sem Value)} (hpl : L.any (·.1) = false)
    (k : Ev M A (spliced L) h fun vs h1 => Ev M A (keeperOf f) h1 (fun _ h2 => h2 = h1) ∧ Ev M A (PySem.call f (first ++ vs) []) h1 P) :
    Ev M A (PySem.callWith pos f first L []) h P := by
  intro g d tk os
  unfold PySem.callWith
  refine wpAny_bind (wpAny_holding (evalArgs_list hpl (k.wp fun vs h1 t1 ⟨p, q⟩ => wpAny_bind (wpAny_standAt ?_))))
  have tail : ∀ {t : Sem Value}, Ev M A t h1 P → wpAny M A (t >>= fun r => PySem.holding [r] PySem.point >>= fun _ => Pure.pure r) (fun v s' => ∃ h' tk', s' = ⟨h', g, d, tk', os⟩ ∧ P v h') (fun _ _ => False) ⟨h1, g, d, t1, os⟩ :=
    fun ht => wpAny_bind (ht.wp fun r h2 t2 hr => wpAny_bind (wpAny_holding (wpAny_point (wpAny_pure ⟨h2, t2, rfl, hr⟩))))
  simp only [hpl, List.any_nil, Bool.or_false]
  refine wpAny_bind (p.wp fun kp h2 t2 e => ?_)
  subst e
  have tail' : ∀ {t : Sem Value}, Ev M A t h2 P → wpAny M A (t >>= fun r => PySem.holding [r] PySem.point >>= fun _ => Pure.pure r) (fun v s' => ∃ h' tk', s' = ⟨h', g, d, tk', os⟩ ∧ P v h') (fun _ _ => False) ⟨h2, g, d, t2, os⟩ :=
    fun ht => wpAny_bind (ht.wp fun r h3 t3 hr => wpAny_bind (wpAny_holding (wpAny_point (wpAny_pure ⟨h3, t3, rfl, hr⟩))))
  have mk : ∀ v, Ev M A (callMarked v f (first ++ vs) []) h2 P := fun v g d tk os => wpAny_keep (q g d tk os)
  have op : ∀ l, Ev M A (operate l (PySem.call f (first ++ vs) [])) h2 P := fun l g d tk os Γ p hΓ => by rw [Sem.wp_operate]; exact q g d tk os Γ p hΓ
  cases kp <;> dsimp only
  · split
    · exact tail' q
    · exact tail' (mk _)
  · split
    · exact tail' q
    · exact tail' (mk _)
  · exact tail' q
  · exact tail' (op _)
end
end Mine

namespace Mine
theorem runs_size {M : Model} {Γ : Ctx} {p : Pos} {t : Sem Fin} {fs : List Frame} {s s' : Shared} {e : End} (r : Runs M Γ p t fs s e s') : s.heap.objs.size ≤ s'.heap.objs.size := by
  induction r with
  | alloc r ih => rw [Heap.size_push] at ih; omega
  | update h r ih => rw [Heap.size_after_update] at ih; exact ih
  | call r1 r2 i1 i2 => exact Nat.le_trans i1 i2
  | resumeFresh h r1 q r2 i1 i2 => exact Nat.le_trans i1 i2
  | resumeSuspended h r1 q r2 i1 i2 => exact Nat.le_trans i1 i2
  | segRet r1 r2 i1 i2 => exact Nat.le_trans i1 i2
  | segGen r1 r2 i1 i2 => exact Nat.le_trans i1 i2
  | segSuspGen h r1 q r2 i1 i2 => exact Nat.le_trans i1 i2
  | _ => first | exact Nat.le_refl _ | assumption
theorem wakes_size {M : Model} {Γ : Ctx} {p : Pos} {g : Nat} {r : Resume} {s s' : Shared} {res : GenResult} (x : Wakes M Γ p g r s res s') : s.heap.objs.size ≤ s'.heap.objs.size := by
  unfold Wakes at x
  split at x
  · exact x.elim
  · split at x
    · obtain ⟨e, s₁, h1, _, _, rfl⟩ := x; have := runs_size h1; exact this
    · obtain ⟨_, rfl⟩ := x; exact Nat.le_refl _
    · obtain ⟨_, rfl⟩ := x; exact Nat.le_refl _
  · obtain ⟨e, s₁, h1, _, _, rfl⟩ := x; have := runs_size h1; exact this
  · obtain ⟨_, rfl⟩ := x; exact Nat.le_refl _
  · obtain ⟨_, rfl⟩ := x; exact Nat.le_refl _
theorem wp_size {α : Type} {M : Model} {Γ : Ctx} {n : Nat} (t : Sem α) : ∀ {Q : α → Pos → Shared → Prop} {E : Value → Pos → Shared → Prop} {p : Pos} {s : Shared}, n ≤ s.heap.objs.size → Sem.wp M Γ t Q E p s →
    Sem.wp M Γ t (fun v p' s' => Q v p' s' ∧ n ≤ s'.heap.objs.size) E p s := by
  induction t with
  | pure x => intro Q E p s l h; exact ⟨h, l⟩
  | raise v => intro Q E p s l h; exact h
  | unsupported | finish | yield | fork | await | register => intro Q E p s l h; exact h
  | rule _ k ih | «at» _ k ih | loadIfAlive _ k ih | point _ k ih | fresh k ih | ask k ih | os _ _ k ih | handled _ k ih | newGen _ k ih | stack k ih | thread k ih => intro Q E p s l h; exact ih _ l h
  | alloc o k ih => intro Q E p s l h; exact ih _ (by show n ≤ (s.heap.push o).objs.size; rw [Heap.size_push]; omega) h
  | load a _ k ih | genState a k ih => intro Q E p s l h; obtain ⟨o, ho, h⟩ := h; exact ⟨o, ho, ih _ l h⟩
  | update a _ f k ih => intro Q E p s l h; exact ⟨h.1, ih _ (by show n ≤ (s.heap.update a f).objs.size; rw [Heap.size_after_update]; exact l) h.2⟩
  | choose _ _ k ih => intro Q E p s l h; exact ⟨h.1, ih _ l h.2⟩
  | call c h g l k ih => intro Q E p s l h; obtain ⟨r, s', hr, h⟩ := h; exact ⟨r, s', hr, ih _ (Nat.le_trans l (runs_size hr)) h⟩
  | resume g r l k ih => intro Q E p s l h; obtain ⟨res, s', hw, h⟩ := h; exact ⟨res, s', hw, ih _ (Nat.le_trans l (wakes_size hw)) h⟩
theorem Ev.sized {α : Type} {M : Model} {A : Around} {t : Sem α} {h : Heap} {P : α → Heap → Prop} (e : Ev M A t h P) : Ev M A t h fun v h' => P v h' ∧ h.objs.size ≤ h'.objs.size :=
  fun g d tk os Γ p hΓ => Sem.wp_mono M Γ t (fun v _ s' ⟨⟨h', tk', hs, q⟩, l⟩ => ⟨h', tk', hs, q, by rw [hs] at l; exact l⟩) (fun _ _ _ x => x) p _ (wp_size t (Nat.le_refl _) (e g d tk os Γ p hΓ))
/-- what is had of the heap's keeping alone -/
theorem Ev.keeping {α : Type} {M : Model} {A : Around} {t : Sem α} {h : Heap} {P : α → Heap → Prop} {S : List Addr}
    (e : Ev M A t h fun v h' => (∀ a o, a ∉ S → h.get? a = some o → h'.get? a = some o) ∧ (Keep S h h' → P v h')) : Ev M A t h P :=
  e.sized.mono fun v h' ⟨⟨k, p⟩, l⟩ => p ⟨l, k⟩
end Mine

namespace Mine
open Builtin.ObjectAttr

/-- an object of the text's exception class C, its dict at d -/
abbrev excObj (C t : Addr) (dd : Option Addr) : Obj := { cls := .ref C, dict := dd, data := .fields #[.ref t, .none, .none, .none, .bool false, .none] }

theorem slot_bga : Slot "Exception" "__getattribute__" "BaseException.__getattribute__" :=
  .of (owner := "BaseException") (n := "__getattribute__") (by rw [typeLookup_type, builtinLookup_eq_fast]; kernel_rfl) (by decide +kernel) (by decide +kernel) (by decide +kernel)
    (by first | exact .inl (by decide +kernel) | exact .inr (by decide +kernel)) (by rw [isSubtype_type]; kernel_rfl)
theorem entry_bga : entryFor table "BaseException.__getattribute__" = some Builtin.«object.__getattribute__» := entryFor_alias (id' := "object.__getattribute__") (by kernel_rfl) rfl (by decide +kernel) (by kernel_rfl)
theorem entry_osa : entryFor table "object.__setattr__" = some Builtin.«object.__setattr__» := entryFor_of_tree (by kernel_rfl)
theorem type_bga : typeOf (.builtin "BaseException.__getattribute__") = pure (.type "wrapper_descriptor") := by show builtinType _ = _; rw [builtinType_eq_fast]; kernel_rfl
theorem type_osa : typeOf (.builtin "object.__setattr__") = pure (.type "wrapper_descriptor") := by show builtinType _ = _; rw [builtinType_eq_fast]; kernel_rfl
theorem canon_bga : Manifest.canonical "BaseException.__getattribute__" = "object.__getattribute__" := by decide +kernel
theorem plain_bga : plainId "BaseException.__getattribute__" = true := by decide +kernel
theorem plain_osa : plainId "object.__setattr__" = true := by decide +kernel
theorem kind_bga : builtinKind "BaseException.__getattribute__" = some .slot := by decide +kernel
theorem kind_osa : builtinKind "object.__setattr__" = some .slot := by decide +kernel
theorem split_bga : splitId "BaseException.__getattribute__" = some ("BaseException", "__getattribute__") := by decide +kernel
theorem split_osa : splitId "object.__setattr__" = some ("object", "__setattr__") := by decide +kernel
theorem args_bga (a b : Value) : argsOk "BaseException.__getattribute__" ⟨[a, b], []⟩ := by unfold argsOk; kernel_rfl
theorem args_osa (a b c : Value) : argsOk "object.__setattr__" ⟨[a, b, c], []⟩ := by unfold argsOk; kernel_rfl

section
variable {M : Model} {A : Around} {E : Value → Shared → Prop} {h : Heap}
theorem check_slot {id owner name : String} {self : Value} {rest : List Value} {Q : Unit → Shared → Prop} {g d tk os} (hk : builtinKind id = some .slot) (hs : splitId id = some (owner, name))
    (hi : Looks M h (isInstance self (.type owner)) true) (ha : argsOk id ⟨self :: rest, []⟩) (q : Q () ⟨h, g, d, tk, os⟩) : wpAny M A (checkBuiltinCall id ⟨self :: rest, []⟩) Q E ⟨h, g, d, tk, os⟩ := by
  simp only [checkBuiltinCall, hk, hs]
  refine wpAny_bind (hi.at ?_)
  simp only [Bool.not_true, Bool.false_eq_true, if_false]
  cases hsig : Manifest.signature? id with
  | none => exact wpAny_pure q
  | some sig =>
    simp only [argsOk, hsig] at ha
    have h2 : Bind.checkArgs id sig ⟨self :: rest, []⟩ = pure () := ha
    show wpAny _ _ (Bind.checkArgs id sig ⟨self :: rest, []⟩) _ _ _
    rw [h2]; exact wpAny_pure q
end

section
variable {M : Model} {A : Around} {E : Value → Shared → Prop} {s : Shared}
/-- the first name of an empty dict -/
theorem nsSet_first {a : Addr} {name : Str} {v : Value} {Q : Unit → Shared → Prop} (ho : s.heap.get? a = some { cls := .type "dict", data := .dict #[] })
    (k : ∀ hash tk h', h' = s.heap.update a (Obj.putName name hash (.str name s.toks) v) → h'.get? a = some { cls := .type "dict", data := .dict #[⟨hash, .str name s.toks, v⟩] 1 } → Q () { s with heap := h', toks := tk }) :
    wpAny M A (nsSet a name v) Q E s := by
  unfold nsSet strHash
  refine wpAny_bind (wpAny_bind (wpAny_askSetting (wpAny_pure (wpAny_bind (wpAny_mkText (wpAny_bind (wpAny_loadPart ho ?_)))))))
  dsimp only
  rw [if_neg (show ¬ (aRefKeyMayBeTheName name #[] = true) by rw [aRefKeyMayBeTheName_eq]; simp [aRefKeyMayBeTheNameByArray])]
  refine wpAny_updatePart ho (k _ _ _ rfl ?_)
  rw [Heap.get?_update_self _ ho (by rw [Obj.putName_eq]; simp [Obj.putNameByArray, Obj.isFreed]), Obj.putName_eq]
  simp [Obj.putNameByArray]
theorem ns_one {h : Heap} {a : Addr} {name : Str} {v : Value} {hash : Int} {tk n : Nat} (ho : h.get? a = some { cls := .type "dict", data := .dict #[⟨hash, .str name tk, v⟩] n }) : h.Ns a (upd (fun _ => none) name v) := by
  refine ⟨_, _, _, ho, rfl, ?_, fun x => ?_⟩
  · intro e he
    simp only [List.mem_toArray, List.mem_cons, List.not_mem_nil, or_false] at he
    subst he
    exact ⟨_, _, rfl⟩
  · simp only [nsFind, findBy, upd]
    by_cases q : x = name
    · subst q; simp [Value.isStr]
    · have q' : ¬ name = x := fun e => q e.symm
      simp [Value.isStr, q, q']
end

/-- what the written part says of an exception class of the text's -/
structure ExcCls (K : Frag) (C N : Addr) (cd : ClassData) : Prop where
  cls : clsIn K C = some cd
  hasDict : cd.hasDict = true
  ga : findIn K (.ref C) "__getattribute__" = some (some (.builtin "BaseException.__getattribute__"))
  noga : findIn K (.ref C) "__getattr__" = some none
  sa : findIn K (.ref C) "__setattr__" = some (some (.builtin "object.__setattr__"))
  base : mroIn K C (.type "BaseException") = some true
  obj : mroIn K C (.type "object") = some true
  mro : cd.mro = [.ref C, .type "Exception", .type "BaseException", .type "object"]
  own : ownIn K "__setattr__" (.ref C) = some none

section
variable {prog : Program} {w : World} {A : Around} {h : Heap} {K : Frag} {C N t x d0 : Addr} {cd : ClassData} {m : Str → Option Value} {name : Str} {v : Value}

theorem type_exc {dd : Option Addr} (hx : h.get? x = some (excObj C t dd)) {M : Model} : Looks M h (typeOf (.ref x)) (.ref C) := (Looks.ld hx).andThen .now

theorem find_exc {M : Model} (B : ExcCls K C N cd) (X : K.In h) (hx : h.get? x = some (excObj C t (some d0))) (hd : h.Ns d0 m) (hv : m name = some v) (hn : findIn K (.ref C) name = some none) :
    Looks M h (find (.ref x) (.ref C) name) (.value v) := by
  refine (looks_findIn X hn).andThen (Looks.now.andThen (Looks.now.andThen ?_))
  refine Looks.andThen (t := inOwnDict name (.ref x)) (a := some v) ?_ (Looks.tag .now)
  refine Looks.andThen (t := ownDict x) (a := some d0) ?_ ?_
  · refine (Looks.ld hx).andThen ?_
    show Looks M h (instanceDict x false) (some d0)
    unfold instanceDict
    refine (Looks.ld hx).andThen ?_
    dsimp only
    refine (looks_clsIn X B.cls).andThen ?_
    rw [B.hasDict]
    exact Looks.now
  · intro A Q E s k q
    exact wpAny_nsGet (hd.keeps k) (hv ▸ q)

/-- a name of its own dict, called as a method -/
theorem Ev.getMethod_exc {P : Value × List Value → Heap → Prop} {pl : Sem Bool} (B : ExcCls K C N cd) (X : K.In h) (hx : h.get? x = some (excObj C t (some d0))) (hd : h.Ns d0 m) (hv : m name = some v) (hn : findIn K (.ref C) name = some none)
    (hh : handedIn v = true) (k : P (v, []) h) : Ev (model prog w) A (getMethod (.ref x) name pl) h P := by
  intro g d tk os
  have T := type_exc hx (M := model prog w)
  unfold getMethod
  refine wpAny_bind ((T.andThen (looks_findIn X B.ga)).at ?_)
  dsimp only
  rw [canon_bga]
  simp only [bne_self_eq_false, Bool.false_eq_true, if_false]
  refine wpAny_bind ((T.andThen (looks_findIn X B.noga)).at ?_)
  simp only [Option.isSome_none, Bool.false_eq_true, if_false]
  refine wpAny_bind ((T.andThen (looks_findIn X hn)).at ?_)
  dsimp only
  refine wpAny_bind ?_
  unfold getAttr getAttrBy
  refine wpAny_bind (wpAny_mkText (wpAny_holding (wpAny_bind (T.at (wpAny_bind ((looks_findIn X B.ga).at ?_))))))
  dsimp only
  rw [if_neg (show ¬ (onTheHeap (Value.ref C) && (Value.builtin "BaseException.__getattribute__" == Value.builtin "object.__getattribute__")) = true by simp)]
  unfold getAttrByItsOwn
  refine wpAny_bind (m := hookBefore (.ref C)) (Looks.at (h := h) (r := none) ?_ ?_)
  · exact looks_findIn X B.noga
  · refine wpAny_bind (wpAny_attempt (wpAny_holding ?_))
    show wpAny _ _ (boundAndCalled (.builtin "BaseException.__getattribute__") (.ref x) _) _ _ _
    unfold boundAndCalled
    refine wpAny_bind (Looks.at (h := h) (r := (Value.builtin "BaseException.__getattribute__", [Value.ref x])) ?_ ?_)
    · unfold bindSpecial
      exact (Looks.of_pure type_bga).andThen .now
    · dsimp only [List.cons_append, List.nil_append]
      have T' : Looks (model prog w) h (isInstance (.ref x) (.type "BaseException")) true := T.andThen (looks_mroIn X B.base)
      refine wpAny_call (codeAny_call_builtin plain_bga entry_bga ?_)
      have T2 := args_bga (.ref x) (.str name tk)
      refine check_slot (id := "BaseException.__getattribute__") (self := .ref x) (rest := [.str name tk]) kind_bga split_bga T' T2 ?_
      refine wpAny_bind (m := slotArgs "__getattribute__" 1 _) (wpAny_pure ?_)
      dsimp only
      refine wpAny_bind (m := attrName _) (wpAny_pure (wpAny_bind (T.at (wpAny_bind ((find_exc B X hx hd hv hn).at (wpAny_pure ?_))))))
      show wpAny _ _ (handedOut v) _ _ _
      rw [handedOut_of hh]
      exact wpAny_pure (wpAny_pure ⟨h, _, rfl, k⟩)

theorem own_E : builtinOwn "Exception" "__setattr__" = none := by rw [builtinOwn_eq_fast]; kernel_rfl
theorem own_B : builtinOwn "BaseException" "__setattr__" = none := by rw [builtinOwn_eq_fast]; kernel_rfl
theorem own_O : builtinOwn "object" "__setattr__" = some (.builtin "object.__setattr__") := by rw [builtinOwn_eq_fast]; kernel_rfl
theorem refuse_exc {M : Model} {dd : Option Addr} (B : ExcCls K C N cd) (X : K.In h) (hx : h.get? x = some (excObj C t dd)) : Looks M h (refuseIfOverridden (.ref x) "__setattr__") () := by
  unfold refuseIfOverridden
  refine (type_exc hx).andThen (Looks.andThen (t := mroOf (.ref C)) (a := cd.mro) ((looks_clsIn X B.cls).andThen .now) ?_)
  rw [B.mro]
  refine Looks.of_pure ?_
  simp only [List.forIn_cons, List.forIn_nil, classOwn, own_E, own_B, own_O, pure_bind, bind_assoc, Option.isSome_none, Option.isSome_some, if_true, if_false, Bool.false_eq_true]
  have e1 : ("Exception" == "_thread._local") = false := by decide
  have e2 : ("BaseException" == "_thread._local") = false := by decide
  have e3 : ("object" == "_thread._local") = false := by decide
  have e4 : (("Exception" == "_pickle.Pickler") || ("Exception" == "_pickle.Unpickler")) = false := by decide
  have e5 : (("BaseException" == "_pickle.Pickler") || ("BaseException" == "_pickle.Unpickler")) = false := by decide
  have e6 : (("object" == "_pickle.Pickler") || ("object" == "_pickle.Unpickler")) = false := by decide
  have e7 : isObjects "object" (Str.ofString "__setattr__").toString = true := by unfold isObjects; rfl
  simp only [e1, e2, e3, e4, e5, e6, e7, Bool.false_eq_true, if_false, pure_bind, Bool.not_true]

/-- a first name laid on a bare exception -/
theorem Ev.setAttr_exc {P : Unit → Heap → Prop} (B : ExcCls K C N cd) (X : K.In h) (hx : h.get? x = some (excObj C t none)) (hn : findIn K (.ref C) name = some none)
    (k : ∀ h' d0, Keep [x] h h' → h.objs.size ≤ d0 → h'.get? x = some (excObj C t (some d0)) → h'.Ns d0 (upd (fun _ => none) name v) → P () h') : Ev (model prog w) A (setAttr (.ref x) name v) h P := by
  intro g d tk os
  have T := type_exc hx (M := model prog w)
  unfold setAttr
  refine wpAny_bind (wpAny_mkText (wpAny_bind ?_))
  unfold callSpecial?
  refine wpAny_bind ((T.andThen (looks_findIn X B.sa)).at (wpAny_holding ?_))
  refine wpAny_bind (Looks.at (h := h) (r := (Value.builtin "object.__setattr__", [Value.ref x])) ?_ ?_)
  · unfold bindSpecial
    exact (Looks.of_pure type_osa).andThen .now
  dsimp only [List.cons_append, List.nil_append]
  have T' : Looks (model prog w) h (isInstance (.ref x) (.type "object")) true := T.andThen (looks_mroIn X B.obj)
  refine wpAny_bind (wpAny_call (codeAny_call_builtin plain_osa entry_osa ?_))
  have T2 := args_osa (.ref x) (.str name tk) v
  refine check_slot (id := "object.__setattr__") (self := .ref x) (rest := [.str name tk, v]) kind_osa split_osa T' T2 ?_
  unfold Builtin.«object.__setattr__»
  dsimp only [List.isEmpty_nil, List.cons_append, List.nil_append]
  simp only [Bool.not_true, Bool.false_eq_true, if_false]
  refine wpAny_bind ((refuse_exc B X hx).at ?_)
  refine wpAny_bind (m := attrName _) (wpAny_pure (wpAny_bind (T.at (wpAny_bind ((looks_findIn X hn).at (wpAny_bind (m := storeTaker? none) (wpAny_pure ?_)))))))
  dsimp only
  unfold storeInOwnDict
  refine wpAny_bind (m := ownStreamTells _ _) (wpAny_pure ?_)
  rw [if_neg (show ¬ ((Value.ref C == Value.type "module") = true) by simp)]
  refine wpAny_bind (m := ownDictForStores (.ref x)) ?_
  show wpAny _ _ (instanceDict x true) _ _ _
  unfold instanceDict
  refine wpAny_bind (wpAny_loadPart hx ?_)
  dsimp only
  refine wpAny_bind ((looks_clsIn X B.cls).at ?_)
  rw [B.hasDict]
  simp only [Bool.not_true, Bool.false_eq_true, if_false, Bool.false_or]
  rw [if_neg (show ¬ ((!typeHasDict (Value.ref C)) = true) by simp [typeHasDict])]
  have hlt : x < h.objs.size := Heap.lt_size hx
  have hx1 : (h.push { cls := .type "dict", data := .dict #[] }).get? x = some (excObj C t none) := Heap.get?_push_of_some _ hx
  refine wpAny_bind (wpAny_alloc (wpAny_bind (wpAny_update hx1 ?_)))
  refine wpAny_pure ?_
  dsimp only
  unfold storeInDict
  refine wpAny_bind (m := newKeyGuard _ _ _) (wpAny_pure ?_)
  have hd1 : ((h.push { cls := .type "dict", data := .dict #[] }).update x fun o => { o with dict := some h.objs.size }).get? h.objs.size = some { cls := .type "dict", data := .dict #[] } :=
    (Heap.get?_update_other _ _ (Nat.ne_of_lt hlt)).trans (Heap.get?_push_size _ rfl)
  refine wpAny_bind (nsSet_first hd1 fun hash tk' h' e ho => ?_)
  refine wpAny_bind (wpAny_lookBehind ho (pastItsLine_dict (by rw [sizeLine_eq]; show 1 ≤ _; omega)) ?_)
  refine wpAny_pure (wpAny_pure (wpAny_pure ⟨h', tk', rfl, ?_⟩))
  have hx2 : h'.get? x = some (excObj C t (some h.objs.size)) := by
    rw [e, Heap.get?_update_other _ _ (Nat.ne_of_gt hlt), Heap.get?_update_self _ hx1 rfl]
  refine k h' h.objs.size ⟨?_, fun a o n q => ?_⟩ (Nat.le_refl _) hx2 (ns_one ho)
  · rw [e, Heap.size_after_update, Heap.size_after_update, Heap.size_push]; omega
  · rw [e, Heap.get?_update_other _ _ (Nat.ne_of_gt (Heap.lt_size q)), Heap.get?_update_other _ _ (fun z => n (by rw [z]; exact .head _))]
    exact Heap.get?_push_of_some _ q

/-- an exception of the text's own class is made, with no arguments -/
theorem Ev.newExc {P : Value → Heap → Prop} {nm q : Str} {bs : List Value} {hdct : Bool} {sn : List Str} {sub : List Value} {ab : Bool} {col : Option Bool} {dd : Option Addr} {k0 k1 k2 k3 k5 : Option Value} {mN : Str → Option Value}
    (hC : h.get? C = some (excClassObj nm q C N bs [.type "Exception", .type "BaseException", .type "object"] hdct sn sub ab col dd k0 k1 k2 k3 k5 "Exception.__new__")) (hn : h.Ns N mN) (hni : mN "__init__" = none)
    (k : ∀ h' e t, Keep [] h h' → h.get? e = none → h'.get? e = some (excObj C t none) → P (.ref e) h') : Ev (model prog w) A (PySem.call (.ref C) [] []) h P := by
  refine Ev.keeping (S := []) fun g d tk os => wpAny_call_exc_sub F.excBase_Exception hC hn hni fun h' e x => ⟨h', tk, rfl, fun a o _ q => x.keeps a o q, fun kp => ?_⟩
  obtain ⟨t, e1, _⟩ := x.there
  exact k h' e t kp x.new e1
end
end Mine

namespace Mine

section
variable {M : Model} {A : Around} {h : Heap} {env : Env} {P : Value → Heap → Prop} {pos p apos : Pos}
theorem keeper_builtin {id : String} : Ev M A (keeperOf (.builtin id)) h fun _ h2 => h2 = h := Ev.of_eq (a := .machine) rfl rfl
theorem keeper_type {n : String} : Ev M A (keeperOf (.type n)) h fun _ h2 => h2 = h := Ev.of_eq (a := .machine) rfl rfl
theorem keeper_fn {a : Addr} {o : Obj} {fd : FuncData} (ho : h.get? a = some o) (hd : o.data = .func fd) : Ev M A (keeperOf (.ref a)) h fun _ h2 => h2 = h := by
  intro g d tk os
  unfold keeperOf
  refine wpAny_bind (wpAny_load ho ?_)
  rw [hd]
  exact wpAny_pure ⟨h, tk, rfl, rfl⟩
/-- a class of the text's whose type is type -/
theorem keeper_cls {K : Frag} {C : Addr} {o : Obj} {cd : ClassData} (ho : h.get? C = some o) (hc : o.cls = .type "type") (hd : o.data = .cls cd) : Ev M A (keeperOf (.ref C)) h fun _ h2 => h2 = h := by
  intro g d tk os
  unfold keeperOf
  refine wpAny_bind (wpAny_load ho ?_)
  rw [hd]
  dsimp only
  refine wpAny_bind (m := specialOf (.ref C) "__call__") (wpAny_specialOf (s := ⟨h, g, d, tk, os⟩) (T := "type") ⟨o, ho, hc⟩ tc_lookup ?_)
  exact wpAny_pure ⟨h, tk, rfl, rfl⟩

theorem Ev.callN {f : Str} {args : List Expr}
    (k : Ev M A (eval (.Name f p) env) h fun fv h0 => Ev M A (spliced (backTo pos (starEach args env))) h0 fun vs h1 => Ev M A (keeperOf fv) h1 (fun _ h2 => h2 = h1) ∧ Ev M A (PySem.call fv vs []) h1 P)
    (hpl : (backTo pos (starEach args env)).any (·.1) = false := by rfl) : Ev M A (eval (.Call (.Name f p) args [] pos) env) h P := by
  have e : eval (.Call (.Name f p) args [] pos) env = (eval (.Name f p) env >>= fun fv => PySem.callWith pos fv [] (backTo pos (starEach args env)) []) := rfl
  rw [e]
  exact Ev.bind (k.mono fun fv h0 q => Ev.callWith (first := []) hpl (q.mono fun vs h1 ⟨a, b⟩ => ⟨a, by rw [List.nil_append]; exact b⟩))
theorem Ev.callM {o : Expr} {name : Str} {args : List Expr}
    (k : Ev M A (eval o env) h fun ov h0 => ∃ f first, (∀ pl, Ev M A (getMethod ov name pl) h0 fun r h2 => r = (f, first) ∧ h2 = h0) ∧
      Ev M A (spliced (backTo pos (starEach args env))) h0 fun vs h1 => Ev M A (keeperOf f) h1 (fun _ h2 => h2 = h1) ∧ Ev M A (PySem.call f (first ++ vs) []) h1 P)
    (hpl : (backTo pos (starEach args env)).any (·.1) = false := by rfl)
    (hbase : attributeBase o name env (eval o env) = eval o env := by rfl)
    (hfew : methodCallForm (args.length + ([] : List Keyword).length) (backTo pos (starEach args env)) (backToKw pos (keywordEach [] env)) = true := by rfl)
    (hline : (apos.endLine == pos.line) = true := by rfl) : Ev M A (eval (.Call (.Attribute o name apos) args [] pos) env) h P := by
  have e : eval (.Call (.Attribute o name apos) args [] pos) env = (do
    let ov ← attributeBase o name env (eval o env)
    PySem.standAt apos.atName
    methodCall o name apos pos env ov (args.length + ([] : List Keyword).length) (backTo pos (starEach args env)) (backToKw pos (keywordEach [] env))) := rfl
  rw [e, hbase]
  refine Ev.bind (k.mono fun ov h0 ⟨f, first, hg, q⟩ => Ev.bind (Ev.standAt ?_))
  have hpos : methodCallPos true o env apos pos = Pure.pure pos := by unfold methodCallPos; simp [hline]
  unfold methodCall
  rw [hfew]
  refine Ev.bind (Ev.holding ?_)
  unfold calleeOf
  simp only [if_true]
  refine (hg _).mono fun r h2 ⟨e1, e2⟩ => ?_
  subst e1 e2
  refine Ev.bind (Ev.of_eq hpos ?_)
  exact Ev.callWith hpl q
theorem ab_BinOp {l r : Expr} {op : Operator} {q : Pos} {name : Str} {whole : Sem Value} : attributeBase (.BinOp l op r q) name env whole = whole := rfl
theorem ab_Name {x : Str} {q : Pos} {name : Str} {whole : Sem Value} : attributeBase (.Name x q) name env whole = whole := rfl
theorem ab_Constant {x : Const} {k : Nat} {q : Pos} {name : Str} {whole : Sem Value} : attributeBase (.Constant x k q) name env whole = whole := rfl
theorem ab_Sub {x y : Expr} {q : Pos} {name : Str} {whole : Sem Value} : attributeBase (.Subscript x y q) name env whole = whole := rfl
theorem getMethod_plain {ov : Value} {T id : String} {name : Str} {pl : Sem Bool} (hT : ∀ g d tk os, (⟨h, g, d, tk, os⟩ : Shared).TypeIs ov T) (pa : PlainAttrs T) (slot : Slot T name id) (hty : typeOf (.builtin id) = Pure.pure (.type "method_descriptor"))
    (hd : ∀ a, ov = .ref a → ∃ ob, h.get? a = some ob ∧ ob.dict = none) : Ev M A (getMethod ov name pl) h fun r h2 => r = (.builtin id, [ov]) ∧ h2 = h :=
  fun g d tk os => getMethod_builtin (hT g d tk os) pa slot hty hd ⟨h, tk, rfl, rfl, rfl⟩
end

section
variable {prog : Program} {w : World} {A : Around} {h : Heap} {P : Value → Heap → Prop} {a b : Int} {t u : Tok}
theorem Ev.add_int (k : ∀ t, P (.int (a + b) t) h) : Ev (model prog w) A (binaryOp .Add (.int a t) (.int b u)) h P := fun g d tk os => PyProof.Rows.add_int ⟨h, _, rfl, k _⟩
theorem Ev.sub_int (k : ∀ t, P (.int (a - b) t) h) : Ev (model prog w) A (binaryOp .Sub (.int a t) (.int b u)) h P := fun g d tk os => PyProof.Rows.sub_int ⟨h, _, rfl, k _⟩
theorem Ev.mod_int (hb : b ≠ 0) (k : ∀ t, P (.int (a.fmod b) t) h) : Ev (model prog w) A (binaryOp .Mod (.int a t) (.int b u)) h P := fun g d tk os => PyProof.Rows.mod_int hb ⟨h, _, rfl, k _⟩
theorem Ev.gt_int (k : P (.bool (decide (b < a))) h) : Ev (model prog w) A (compareOp .Gt (.int a t) (.int b u)) h P := fun g d tk os => PyProof.Rows.gt_int ⟨h, tk, rfl, k⟩
theorem Ev.lt_int (k : P (.bool (decide (a < b))) h) : Ev (model prog w) A (compareOp .Lt (.int a t) (.int b u)) h P := fun g d tk os => PyProof.Rows.lt_int ⟨h, tk, rfl, k⟩
theorem Ev.le_int (k : P (.bool (decide (a ≤ b))) h) : Ev (model prog w) A (compareOp .LtE (.int a t) (.int b u)) h P := fun g d tk os => PyProof.Rows.le_int ⟨h, tk, rfl, k⟩
theorem Ev.ge_int (k : P (.bool (decide (b ≤ a))) h) : Ev (model prog w) A (compareOp .GtE (.int a t) (.int b u)) h P := fun g d tk os => PyProof.Rows.ge_int ⟨h, tk, rfl, k⟩
theorem Ev.eq_int (k : P (.bool (a == b)) h) : Ev (model prog w) A (compareOp .Eq (.int a t) (.int b u)) h P := fun g d tk os => PyProof.Rows.eq_int ⟨h, tk, rfl, k⟩
theorem Ev.ne_int (k : P (.bool (a != b)) h) : Ev (model prog w) A (compareOp .NotEq (.int a t) (.int b u)) h P := fun g d tk os => PyProof.Rows.ne_int ⟨h, tk, rfl, k⟩
theorem Ev.len_bytes {x : Array UInt8} (hx : x.size ≤ 1099511627776) (k : ∀ t, P (.int x.size t) h) : Ev (model prog w) A (PySem.call (.builtin "len") [.bytes x t] []) h P := fun g d tk os => PySem.W.len_bytes hx ⟨h, _, rfl, k _⟩
theorem Ev.len_list {l : Addr} {vs : List Value} (hl : Lst h l vs) (hfit : vs.length ≤ 1099511627776) (k : ∀ t, P (.int vs.length t) h) : Ev (model prog w) A (PySem.call (.builtin "len") [.ref l] []) h P :=
  fun g d tk os => call_len_list (s := ⟨h, g, d, tk, os⟩) hl.isList (by simp only [List.size_toArray]; omega) ⟨h, _, rfl, by simp only [List.size_toArray]; exact k _⟩
theorem Ev.append {l : Addr} {vs : List Value} {x : Value} (hl : Lst h l vs) (hfit : vs.length ≤ 16777216) (k : ∀ h', Keep [l] h h' → Lst h' l (vs ++ [x]) → P .none h') : Ev (model prog w) A (PySem.call (.builtin "list.append") [.ref l, x] []) h P := by
  obtain ⟨n, ho⟩ := hl
  exact fun g d tk os => append_at (s := ⟨h, g, d, tk, os⟩) ho (fun h' hs ho' => ⟨h', tk, rfl, k h' (.of_sameBut hs) ⟨n + 1, by rw [ho']; simp⟩⟩) (by rw [sizeLine_eq]; simpa using hfit)
end

/-- == of two bytes -/
theorem eqAt_bytes {A : Around} {s : Shared} (b c : Array UInt8) (t u : Tok) : SeqAt.EqAt A s (.bytes b t) (.bytes c u) (b.toList == c.toList) := fun prog w E Q q => by
  unfold eqBool
  refine wpAny_holding ?_
  by_cases e : (Value.bytes b t == Value.bytes c u) = true
  · have e' := eq_of_beq e
    cases e'
    rw [if_pos e]
    exact wpAny_bind (wpAny_rule (wpAny_pure (by simpa using q)))
  · rw [if_neg e]
    exact wpAny_bind (PySem.W.eq_bytes (wpAny_truthy_bool q))

section
variable {prog : Program} {w : World} {A : Around} {h : Heap} {P : Value → Heap → Prop}
def isB (b : Array UInt8) : Value → Bool
  | .bytes c _ => c.toList == b.toList
  | _ => false
theorem Ev.in_tuple_bytes {l : Addr} {vs : List Value} {b : Array UInt8} {t : Tok} (hl : h.get? l = some { cls := .type "tuple", data := .seq vs.toArray }) (hvs : ∀ v ∈ vs, ∃ c u, v = .bytes c u)
    (k : P (.bool (vs.any (isB b))) h) : Ev (model prog w) A (compareOp .In (.bytes b t) (.ref l)) h P :=
  fun g d tk os => SeqAt.in_tupleAt (s := ⟨h, g, d, tk, os⟩) (items := vs.toArray) (isB b) ⟨_, hl, rfl, 0, rfl⟩
    (fun y hy => by
      obtain ⟨c, u, rfl⟩ := hvs y (by simpa using hy)
      exact eqAt_bytes c b u t) ⟨h, tk, rfl, by simpa using k⟩
end
end Mine
namespace Mine
set_option maxHeartbeats 8000000 in
open_top hd03 for PySem.Challenge.rw_dm0149_03
end Mine

namespace Mine
abbrev Bs := Array UInt8
/-- values that are these bytes -/
inductive Bts : List Value → List Bs → Prop
  | nil : Bts [] []
  | cons {b : Bs} {t : Tok} {vs : List Value} {bs : List Bs} : Bts vs bs → Bts (.bytes b t :: vs) (b :: bs)
theorem Bts.length {vs : List Value} {bs : List Bs} (x : Bts vs bs) : vs.length = bs.length := by
  induction x with
  | nil => rfl
  | cons _ ih => simp [ih]
theorem Bts.append {vs us : List Value} {bs cs : List Bs} (x : Bts vs bs) (y : Bts us cs) : Bts (vs ++ us) (bs ++ cs) := by
  induction x with
  | nil => exact y
  | cons _ ih => exact .cons ih
theorem Bts.one (b : Bs) (t : Tok) : Bts [.bytes b t] [b] := .cons .nil

/-- a blank line -/
def blank (b : Bs) : Bool := b.toList == [13, 10] || b.toList == [10] || b.toList == []

/-- the lines that a reader takes, and the state behind them -/
inductive Take {σ : Type} (nx : σ → Bs × σ) : σ → List Bs → σ → Prop
  | last {s s' : σ} {b : Bs} : nx s = (b, s') → blank b = true → b.size ≤ 65536 → Take nx s [b] s'
  | more {s s' s'' : σ} {b : Bs} {ls : List Bs} : nx s = (b, s') → blank b = false → b.size ≤ 65536 → Take nx s' ls s'' → Take nx s (b :: ls) s''

theorem Take.inv {σ : Type} {nx : σ → Bs × σ} {s s' : σ} {ls : List Bs} (x : Take nx s ls s') :
    ∃ b st rest, nx s = (b, st) ∧ b.size ≤ 65536 ∧ ls = b :: rest ∧ ((blank b = true ∧ rest = [] ∧ st = s') ∨ (blank b = false ∧ Take nx st rest s')) := by
  cases x with
  | last e q z => exact ⟨_, _, _, e, z, rfl, .inl ⟨q, rfl, rfl⟩⟩
  | more e q z r => exact ⟨_, _, _, e, z, rfl, .inr ⟨q, r⟩⟩
/-- a source: what its readline gives -/
structure Src (prog : Program) (w : World) (K : Frag) (mg mb : Str → Option Value) (C : Addr) (n : Nat) {σ : Type} (S : List Addr) (B : Nat) (ok : Addr → Prop) (St : σ → Heap → Prop) (nx : σ → Bs × σ) (x : Addr) : Prop where
  okB : ∀ a : Nat, B ≤ a → ok a
  gd : ∀ {s h}, St s h → Gd K mg mb h
  lo : ∀ {s h}, St s h → B ≤ h.objs.size
  low : ∀ a ∈ S, a < B
  keep : ∀ {s h h' S'}, St s h → Keep S' h h' → (∀ a ∈ S', ok a) → St s h'
  rd : ∀ {s h}, St s h → ∃ t d0 m f o fd, h.get? x = some (excObj C t (some d0)) ∧ h.Ns d0 m ∧ m "readline" = some (.ref f) ∧ h.get? f = some o ∧ o.data = .func fd ∧
    ∀ A lim, Room A n → EvC (model prog w) A (.call (.ref f) ⟨[lim], []⟩) h fun v h' => ∃ tk, v = .bytes (nx s).1 tk ∧ Keep S h h' ∧ St (nx s).2 h'
end Mine

namespace Mine
noncomputable abbrev K3 (w : World) : Frag := Mine.hd03.heap_39 w.params
abbrev pg3 : Program := PySem.Challenge.rw_dm0149_03.row.prog
section
variable {w : World} {mg mb : Str → Option Value}
theorem exc3 : ∃ cd, ExcCls (K3 w) 31 30 cd := ⟨_, rfl, rfl, by kernel_rfl, by kernel_rfl, by kernel_rfl, by kernel_rfl, by kernel_rfl, rfl, by kernel_rfl⟩
theorem rl3 : findIn (K3 w) (.ref 31) "readline" = some none := by kernel_rfl

theorem read_headers3 {n : Nat} {σ : Type} {S : List Addr} {B : Nat} {ok : Addr → Prop} {St : σ → Heap → Prop} {nx : σ → Bs × σ} {x : Addr} (sr : Src pg3 w (K3 w) mg mb 31 n S B ok St nx x) {s s' : σ} {ls : List Bs} (tk : Take nx s ls s') (hls : ls.length ≤ 100)
    {h : Heap} {A : Around} (hs : St s h) (r : Room A (n + 1)) :
    EvC (model pg3 w) A (.call (.ref 21) ⟨[.ref x], []⟩) h fun v h' => ∃ a vs, v = .ref a ∧ h.objs.size ≤ a ∧ Lst h' a vs ∧ Bts vs ls ∧ Keep S h h' ∧ St s' h' := by
  have G := sr.gd hs
  have ho := G.X 21 _ rfl
  have hcd : h.CodeRec (.ref 20) (Str.ofString "_read_headers") := codeRec_of G.X (by kernel_rfl)
  have hcls := (exc3 (w := w))
  obtain ⟨cd, hcls⟩ := hcls
  refine EvC.fn (binds := [("fp", .ref x)]) r.here ho rfl G.lim hcd rfl rfl (by decide) (locs rfl) fun h1 hn1 k1 l1 => ?_
  -- headers = []
  refine Ev.cons (Ev.assign (Ev.list (Ev.items_nil ⟨by decide, fun h2 q2 k2 z2 => Ev.store (k2.ns hn1 (by simp)) fun h3 hn3 k3 => ?_⟩)))
  have hB := sr.lo hs
  have s3 : St s h3 := sr.keep (sr.keep (sr.keep hs k1 all0) k2 all0) k3 (all1 (sr.okB _ hB))
  have kk3 : Keep S h h3 := ((k1.trans k2).nil (S := S)).then k3 (all1 (.inr (Nat.le_refl _)))
  have q3 : Lst h3 h1.objs.size [] := q2.keep k3 (ni (by omega))
  refine Ev.cons (Ev.while (fun k h' => ∃ done rest st vs m, ls = done ++ rest ∧ rest.length = k ∧ Take nx st rest s' ∧ h'.Ns h.objs.size m ∧ m "fp" = some (.ref x) ∧ m "headers" = some (.ref h1.objs.size) ∧ Lst h' h1.objs.size vs ∧ Bts vs done ∧ Keep S h h' ∧ St st h')
    ls.length ⟨[], ls, s, [], _, rfl, rfl, tk, hn3, (upd_ne (by decide)).trans rfl, upd_same, q3, .nil, kk3, s3⟩ ?_)
  rintro k h4 ⟨done, rest, st, vs, m, e1, e2, tk4, hn4, hf4, hh4, q4, b4, kk4, s4⟩
  refine Ev.isTrue_bool (Ev.bool ⟨true, rfl, ?_⟩)
  rw [if_pos rfl]
  have G4 := sr.gd s4
  -- line = fp.readline(_MAXLINE + 1)
  refine Ev.cons (Ev.assign (Ev.callM (Ev.local hn4 hf4 ?_)))
  obtain ⟨t, d0, m0, f, of, fd, x1, x2, x3, x4, x5, x6⟩ := sr.rd s4
  refine ⟨.ref f, [], fun pl => Ev.getMethod_exc hcls G4.X x1 x2 x3 rl3 rfl ⟨rfl, rfl⟩, Ev.items_cons (Ev.binop (Ev.global G4 rfl (Ev.int fun t => Ev.add_int fun t => Ev.items_nil ⟨keeper_fn x4 x5, Ev.call ((x6 _ _ (r.deeper _)).mono ?_)⟩)))⟩
  rintro v h5 ⟨tkb, rfl, k5, s5⟩
  have hn5 := k5.ns hn4 (nis sr.low hB)
  refine Ev.store hn5 fun h6 hn6 k6 => ?_
  have s6 := sr.keep s5 k6 (all1 (sr.okB _ hB))
  have q6 := (q4.keep k5 (nis sr.low (by omega))).keep k6 (ni (by omega))
  have kk6 : Keep S h h6 := (kk4.trans k5).then k6 (all1 (.inr (Nat.le_refl _)))
  have G6 := sr.gd s6
  obtain ⟨b, st', rest', hb, hbsz, e3, alt⟩ := tk4.inv
  rw [hb] at s6 hn6
  dsimp only at s6 hn6
  have hlen := b4.length
  have hlen2 : done.length + rest'.length + 1 ≤ 100 := by rw [e1, e3] at hls; simp at hls; omega
  -- if len(line) > _MAXLINE
  refine Ev.cons (Ev.ite (Ev.isTrue1 (Ev.callN (Ev.builtin G6 rfl rfl (Ev.items_cons (Ev.local hn6 upd_same (Ev.items_nil ⟨keeper_builtin, Ev.len_bytes (by omega) fun t => Ev.global G6 rfl (Ev.gt_int ⟨_, rfl, ?_⟩)⟩)))))))
  rw [if_neg (by simp only [decide_eq_true_eq]; omega)]
  refine Ev.nil ?_
  -- headers.append(line)
  refine Ev.cons (Ev.expr (Ev.callM (Ev.local hn6 ((upd_ne (by decide)).trans hh4) ⟨_, _, fun pl => getMethod_plain (fun g d tk os => q6.isList.typeIs) F.plainAttrs_list F.slot_list_append F.type_list_append
    (fun a e => by cases e; obtain ⟨n, q⟩ := q6; exact ⟨_, q, rfl⟩), Ev.items_cons (Ev.local hn6 upd_same (Ev.items_nil ⟨keeper_builtin, Ev.append q6 (by omega) fun h7 k7 q7 => ⟨rfl, ?_⟩⟩))⟩)))
  have hn7 := k7.ns hn6 (ni (by omega))
  have s7 := sr.keep s6 k7 (all1 (sr.okB _ (by omega)))
  have kk7 : Keep S h h7 := kk6.then k7 (all1 (.inr (by omega)))
  have G7 := sr.gd s7
  have b7 : Bts (vs ++ [Value.bytes b tkb]) (done ++ [b]) := b4.append (.one _ _)
  -- if len(headers) > _MAXHEADERS
  refine Ev.cons (Ev.ite (Ev.isTrue1 (Ev.callN (Ev.builtin G7 rfl rfl (Ev.items_cons (Ev.local hn7 ((upd_ne (by decide)).trans hh4) (Ev.items_nil ⟨keeper_builtin, Ev.len_list q7 (by simp; omega) fun t => Ev.global G7 rfl (Ev.gt_int ⟨_, rfl, ?_⟩)⟩)))))))
  rw [if_neg (by simp only [decide_eq_true_eq, List.length_append, List.length_cons, List.length_nil]; omega)]
  refine Ev.nil ?_
  -- if line in (b'\r\n', b'\n', b''): break
  refine Ev.cons (Ev.ite (Ev.isTrue1 (Ev.local hn7 upd_same (Ev.tuple (Ev.items_cons (Ev.bytes fun t1 => Ev.items_cons (Ev.bytes fun t2 => Ev.items_cons (Ev.bytes fun t3 => Ev.items_nil ⟨by simp, ?_⟩))))))))
  refine Ev.in_tuple_bytes (Heap.get?_push_size _ rfl) ?_ ⟨_, rfl, ?_⟩
  · intro v hv
    simp only [List.mem_cons, List.not_mem_nil, or_false] at hv
    rcases hv with rfl | rfl | rfl <;> exact ⟨_, _, rfl⟩
  have hbl : ([Value.bytes [13, 10].toArray t1, Value.bytes [10].toArray t2, Value.bytes ([] : List UInt8).toArray t3].any (isB b)) = blank b := by
    simp only [List.any_cons, List.any_nil, Bool.or_false, blank, isB]
    rw [Bool.beq_comm (a := [13, 10]), Bool.beq_comm (a := [10]), Bool.beq_comm (a := []), Bool.or_assoc]
  rw [hbl]
  have k8 := Keep.push h7 { cls := .type "tuple", data := .seq [Value.bytes [13, 10].toArray t1, Value.bytes [10].toArray t2, Value.bytes ([] : List UInt8).toArray t3].toArray }
  generalize h7.push _ = h8 at k8
  have hn8 := k8.ns hn7 (by simp)
  have s8 := sr.keep s7 k8 all0
  have kk8 : Keep S h h8 := kk7.trans k8.nil
  have q8 := q7.keep k8 (by simp)
  rcases alt with ⟨bl, rfl, rfl⟩ | ⟨bl, tk8⟩
  · rw [bl, if_pos rfl]
    refine Ev.cons (Ev.brk ?_)
    refine Ev.cons (Ev.ret (Ev.local hn8 ((upd_ne (by decide)).trans hh4) ⟨_, _, rfl, Nat.le_of_lt l1, q8, ?_, kk8, s8⟩))
    rw [e1, e3]; exact b7
  · rw [bl, if_neg (by decide)]
    refine Ev.nil (Ev.nil ⟨rest'.length, ?_, done ++ [b], rest', st', _, _, ?_, rfl, tk8, hn8, (upd_ne (by decide)).trans hf4, (upd_ne (by decide)).trans hh4, q8, b7, kk8, s8⟩)
    · rw [← e2, e3]; simp
    · rw [e1, e3]; simp
end
end Mine

namespace Mine

theorem nocell {names : List (Str × NameKind)} (e : (names.all fun x => decide (x.2 ≠ .cell)) = true) : ∀ x ∈ names, x.2 ≠ .cell := fun x hx => of_decide_eq_true (List.all_eq_true.mp e x hx)
/-- no code object's record stands there -/
def NoCode (h : Heap) (a : Addr) : Prop := ∀ o, h.get? a = some o → ∀ vs q t, o.data = .fields vs → vs[1]? ≠ some (.str q t)
theorem NoCode.ns {h : Heap} {L : Addr} {m : Str → Option Value} (n : h.Ns L m) : NoCode h L := fun o e vs q t d => by
  obtain ⟨o', es, ep, ho, hd, _⟩ := n
  rw [ho] at e; cases e; rw [hd] at d; cases d
theorem NoCode.lst {h : Heap} {a : Addr} {vs : List Value} (x : Lst h a vs) : NoCode h a := fun o e us q t d => by
  obtain ⟨n, ho⟩ := x
  rw [ho] at e; cases e; cases d
theorem NoCode.exc {h : Heap} {a C t : Addr} {dd : Option Addr} (x : h.get? a = some (excObj C t dd)) : NoCode h a := fun o e us q t d => by
  rw [x] at e; cases e; cases d; simp
theorem NoCode.none {h : Heap} {a : Addr} (x : h.get? a = .none) : NoCode h a := fun o e => by rw [x] at e; cases e
theorem CodeRec.keep {S : List Addr} {h h' : Heap} {cd : Value} {q : Str} (x : h.CodeRec cd q) (k : Keep S h h') (n : ∀ a ∈ S, NoCode h a) : h'.CodeRec cd q :=
  let ⟨c, o, vs, t, e, g, d, r⟩ := x; ⟨c, o, vs, t, e, k.get c o (fun z => n c z o g vs q t d r) g, d, r⟩

/-- an object that is no code's record stands there -/
def Plain (h : Heap) (a : Addr) : Prop := ∃ o, h.get? a = some o ∧ ∀ vs q t, o.data = .fields vs → vs[1]? ≠ some (.str q t)
theorem Plain.no {h : Heap} {a : Addr} (x : Plain h a) : NoCode h a := fun o e => by obtain ⟨o', e', r⟩ := x; rw [e'] at e; cases e; exact r
theorem Plain.keep {S : List Addr} {h h' : Heap} {a : Addr} (x : Plain h a) (k : Keep S h h') (n : a ∉ S) : Plain h' a := let ⟨o, e, r⟩ := x; ⟨o, k.get _ _ n e, r⟩
theorem Plain.lt {h : Heap} {a : Nat} (x : Plain h a) : a < h.objs.size := let ⟨o, e, r⟩ := x; Heap.lt_size e
theorem Plain.ns {h : Heap} {L : Addr} {m : Str → Option Value} (n : h.Ns L m) : Plain h L := let ⟨o, es, ep, ho, hd, r⟩ := n; ⟨o, ho, NoCode.ns n o ho⟩
theorem Plain.isList {h : Heap} {a : Addr} {vs : Array Value} (x : h.IsList a vs) : Plain h a := by
  obtain ⟨o, e, _, n, d⟩ := x
  exact ⟨o, e, fun us q t d' => by rw [d] at d'; cases d'⟩
/-- the table of the inner codes: empty, or the one code of this place -/
def Tab (h : Heap) (P : Addr) (pos : Pos) (qual : Str) : Prop :=
  ∃ ps, h.get? P = some (tabObj ps) ∧ (ps = #[] ∨ ∃ c', ps = #[rawInt pos.line, rawInt pos.col, .ref c'] ∧ h.CodeRec (.ref c') qual)
theorem Tab.keep {S : List Addr} {h h' : Heap} {P : Addr} {pos : Pos} {qual : Str} (x : Tab h P pos qual) (k : Keep S h h') (hP : P ∉ S) (n : ∀ a ∈ S, NoCode h a) : Tab h' P pos qual := by
  obtain ⟨ps, e, q⟩ := x
  refine ⟨ps, k.get _ _ hP e, q.imp id fun ⟨c', e1, e2⟩ => ⟨c', e1, CodeRec.keep e2 k n⟩⟩
theorem NoCode.tab {h : Heap} {P : Addr} {pos : Pos} {qual : Str} (x : Tab h P pos qual) : NoCode h P := fun o e vs q t d => by
  obtain ⟨ps, e1, alt⟩ := x
  rw [e1] at e; cases e; cases d
  rcases alt with rfl | ⟨c', rfl, _⟩ <;> simp [rawInt]

theorem Plain.tab {h : Heap} {P : Addr} {pos : Pos} {qual : Str} (x : Tab h P pos qual) : Plain h P := let ⟨ps, e, r⟩ := x; ⟨_, e, NoCode.tab ⟨ps, e, r⟩ _ e⟩

section
variable {M : Model} {A : Around} {h : Heap} {K : Frag} {mg mb : Str → Option Value} {env : Env} {name qual : Str} {params : Arguments} {scope : Scope} {clos : List (Str × Addr)} {c P : Addr} {pos : Pos} {firstLine : Nat} {Q : Value → Heap → Prop}
theorem Gd.apart {pos : Pos} (G : Gd K mg mb h) (T : Tab h P pos qual) : mainGlobals ≠ P ∧ h.BuiltinsAt mg P := by
  obtain ⟨ps, e1, _⟩ := T
  obtain ⟨bm, ob, b1, b2, b3, b4, b5, b6⟩ := G.bmain
  refine ⟨fun q => ?_, bm, ob, b1, b2, fun q => ?_, fun q => ?_, b3, b4, b5, b6⟩
  · obtain ⟨o, es, ep, e, hd, _⟩ := G.g
    rw [q, e1] at e; cases e; cases hd
  · obtain ⟨o, es, ep, e, hd, _⟩ := G.g
    rw [q, e] at b3; cases b3; rw [hd] at b6; cases b6
  · rw [q, e1] at b3; cases b3; cases b4
/-- a def in a body -/
theorem Ev.mkFn {body : List Stmt} (G : Gd K mg mb h) (C : CodeHd h c P) (T : Tab h P pos qual) (hcode : env.code = .ref c) (hcl : closureFor scope env = Pure.pure clos) (hge0 : env.globals = mainGlobals := by rfl)
    (k : ∀ f c' ctv doc h', Keep [P] h h' → h.objs.size ≤ f → h'.get? f = some { cls := .type "function", data := .func (fnX name qual params body scope clos .none .none doc ((mg "__name__").getD .none) none (.ref c') ctv) } →
      h'.CodeRec (.ref c') qual → Tab h' P pos qual → Q (.ref f) h') :
    Ev M A (makeFunction name qual params (.stmts body) scope env [] [] [] pos firstLine) h Q := by
  have ap := G.apart T
  obtain ⟨ps, e1, alt⟩ := T
  intro g d tk os
  rcases alt with rfl | ⟨c', rfl, hrec⟩
  · refine makeFunction_K (mg := mg) (s := ⟨h, g, d, tk, os⟩) hcl hge0 G.g hcode C e1 trivial rfl ap.1 ap.2 fun c' ctv doc h' tk' hx hge hlt hrec htb => ⟨_, tk', rfl, ?_⟩
    refine k h'.objs.size c' ctv doc _ ⟨?_, fun a o n e => Heap.get?_push_of_some _ (hx a o (fun z => n (by rw [z]; exact .head _)) e)⟩ ?_ (Heap.get?_push_size _ rfl) (hrec.push _) ⟨_, Heap.get?_push_of_some _ htb, .inr ⟨c', by simp, hrec.push _⟩⟩
    · rw [Heap.size_push]; exact Nat.le_succ_of_le (Nat.le_of_lt (Nat.lt_of_le_of_lt hge hlt))
    · exact Nat.le_of_lt (Nat.lt_of_le_of_lt hge hlt)
  · refine makeFunction_hit (mg := mg) (s := ⟨h, g, d, tk, os⟩) (cv := .ref c') hcl hge0 G.g hcode C e1 (by simp [TriplesOk, rawInt]) (by simp [codeAmong, rawInt]) ap.2 fun ctv doc h' tk' hk hsz => ⟨_, tk', rfl, ?_⟩
    refine k h'.objs.size c' ctv doc _ ⟨?_, fun a o n e => Heap.get?_push_of_some _ (hk a o e)⟩ hsz (Heap.get?_push_size _ rfl) ((hrec.keeps hk).push _) ⟨_, Heap.get?_push_of_some _ (hk _ _ e1), .inr ⟨c', rfl, (hrec.keeps hk).push _⟩⟩
    rw [Heap.size_push]; exact Nat.le_succ_of_le hsz
/-- a lambda in a body -/
theorem Ev.mkLam {body : Expr} (G : Gd K mg mb h) (C : CodeHd h c P) (T : Tab h P pos qual) (hcode : env.code = .ref c) (hcl : closureFor scope env = Pure.pure clos) (hge0 : env.globals = mainGlobals := by rfl)
    (k : ∀ f c' ctv h', Keep [P] h h' → h.objs.size ≤ f → h'.get? f = some { cls := .type "function", data := .func (kla_fn name qual params body scope clos ((mg "__name__").getD .none) (.ref c') ctv) } →
      h'.CodeRec (.ref c') qual → Tab h' P pos qual → Q (.ref f) h') :
    Ev M A (makeFunction name qual params (.expr body) scope env [] [] [] pos firstLine) h Q := by
  have ap := G.apart T
  obtain ⟨ps, e1, alt⟩ := T
  intro g d tk os
  rcases alt with rfl | ⟨c', rfl, hrec⟩
  · refine kla_makeFunction (mg := mg) (s := ⟨h, g, d, tk, os⟩) hcl hge0 G.g hcode C e1 trivial rfl ap.1 ap.2 fun c' ctv h' tk' hx hge hlt hrec htb => ⟨_, tk', rfl, ?_⟩
    refine k h'.objs.size c' ctv _ ⟨?_, fun a o n e => Heap.get?_push_of_some _ (hx a o (fun z => n (by rw [z]; exact .head _)) e)⟩ ?_ (Heap.get?_push_size _ rfl) (hrec.push _) ⟨_, Heap.get?_push_of_some _ htb, .inr ⟨c', by simp, hrec.push _⟩⟩
    · rw [Heap.size_push]; exact Nat.le_succ_of_le (Nat.le_of_lt (Nat.lt_of_le_of_lt hge hlt))
    · exact Nat.le_of_lt (Nat.lt_of_le_of_lt hge hlt)
  · refine kla_makeFunctionHit (mg := mg) (s := ⟨h, g, d, tk, os⟩) (cv := .ref c') hcl hge0 G.g hcode C e1 (by simp [TriplesOk, rawInt]) (by simp [codeAmong, rawInt]) ap.2 fun ctv h' tk' hk hsz => ⟨_, tk', rfl, ?_⟩
    refine k h'.objs.size c' ctv _ ⟨?_, fun a o n e => Heap.get?_push_of_some _ (hk a o e)⟩ hsz (Heap.get?_push_size _ rfl) ((hrec.keeps hk).push _) ⟨_, Heap.get?_push_of_some _ (hk _ _ e1), .inr ⟨c', rfl, (hrec.keeps hk).push _⟩⟩
    rw [Heap.size_push]; exact Nat.le_succ_of_le hsz
theorem Ev.lambda {body : Expr} (k : Ev M A (makeFunction "<lambda>" (env.qual ++ "<lambda>") params (.expr body) scope env [] [] [] pos pos.line) h Q) (hdef : defaultsOf params env = ([], []) := by rfl) :
    Ev M A (eval (.Lambda params body scope pos) env) h Q := fun g d tk os => kla_eval hdef (k g d tk os)
theorem Ev.defn {body : List Stmt} {Q : Flow → Heap → Prop} (k : Ev M A (makeFunction name (qualnameIn env name name) params (.stmts body) scope env [] [] [] pos pos.line) h fun v h1 => Ev M A (storeName env name v) h1 fun _ h2 => Q .next h2)
    (hd0 : params.defaults = [] := by rfl) (hk0 : params.kw_defaults = [] := by rfl) (ha : annTrees params none env = [] := by rfl) :
    Ev M A (exec (.FunctionDef name params body [] none [] scope none name pos) env) h Q := fun g d tk os => nestDef_K hd0 hk0 ha (k.wp fun v h1 t1 p => p.wp fun _ h2 t2 q => ⟨h2, t2, rfl, q⟩)
theorem Ev.assignAttr {o value : Expr} {attr : Str} {pos' : Pos} {Q : Flow → Heap → Prop}
    (k : Ev M A (eval value env) h fun v h1 => Ev M A (eval o env) h1 fun ov h2 => Ev M A (setAttr ov attr v) h2 fun _ h3 => Q .next h3) (hs : swapsWith value (some (.Attribute o attr pos')) pos.line env = Pure.pure false := by rfl) :
    Ev M A (exec (.Assign [.Attribute o attr pos'] value pos) env) h Q :=
  fun g d tk os => plainObj_wpAny_Assign_Attribute (k.wp fun v h1 t1 p => p.wp fun ov h2 t2 q => q.wp fun _ h3 t3 r => ⟨h3, t3, rfl, r⟩) hs
theorem Ev.assignSub {o i value : Expr} {pos' : Pos} {Q : Flow → Heap → Prop}
    (k : Ev M A (eval value env) h fun v h1 => Ev M A (eval o env) h1 fun ov h2 => Ev M A (eval i env) h2 fun iv h3 => Ev M A (setItem ov iv v) h3 fun _ h4 => Q .next h4) (hs : swapsWith value (some (.Subscript o i pos')) pos.line env = Pure.pure false := by rfl) :
    Ev M A (exec (.Assign [.Subscript o i pos'] value pos) env) h Q :=
  fun g d tk os => wpAny_Assign_Subscript (k.wp fun v h1 t1 p => p.wp fun ov h2 t2 q => q.wp fun iv h3 t3 r => r.wp fun _ h4 t4 z => ⟨h4, t4, rfl, z⟩) hs
end

section
variable {prog : Program} {w : World} {A : Around} {h : Heap} {env : Env} {P : Value → Heap → Prop} {pos : Pos}
/-- the type is built in, and what it answers [] with -/
def Items (h : Heap) (o : Value) : Prop := ∃ T id, (∀ g d tk os, (⟨h, g, d, tk, os⟩ : Shared).TypeIs o T) ∧ typeLookup (.type T) "__getitem__" = pure (some (.builtin id))
theorem Ev.letTemp {e : Expr} {o r : Value} {Q : Unit → Heap → Prop} (k : Q () h) : Ev (model prog w) A (letTemporaryGo e o r) h Q := by
  intro g d tk os
  have go : wpAny (model prog w) A (do let _ ← PySem.holding [r] (runValue (.builtin "proto.let_go" {}))) (fun v s' => ∃ h' tk', s' = ⟨h', g, d, tk', os⟩ ∧ Q v h') (fun _ _ => False) ⟨h, g, d, tk, os⟩ :=
    wpAny_bind (wpAny_holding (wpAny_runValue (codeAny_builtin entry_let_go (wpAny_pure (wpAny_pure ⟨h, tk, rfl, k⟩)))))
  have no : wpAny (model prog w) A (Pure.pure ()) (fun v s' => ∃ h' tk', s' = ⟨h', g, d, tk', os⟩ ∧ Q v h') (fun _ _ => False) ⟨h, g, d, tk, os⟩ := wpAny_pure ⟨h, tk, rfl, k⟩
  unfold letTemporaryGo
  split
  · exact no
  · exact go
  · exact no
theorem Ev.subscript {value slice : Expr} (k : Ev (model prog w) A (eval value env) h fun o h1 => Ev (model prog w) A (eval slice env) h1 fun i h2 => Items h2 o ∧ Ev (model prog w) A (getItem o i) h2 P) :
    Ev (model prog w) A (eval (.Subscript value slice pos) env) h P := by
  intro g d tk os
  refine Subscript_ (k.wp fun o h1 t1 p => p.wp fun i h2 t2 ⟨⟨T, id, hT, hl⟩, q⟩ => ?_)
  have hT' := hT g d t2 os
  unfold subscriptTail
  refine wpAny_bind ?_
  rw [getitemInPython_of_ne hT'.not_modules]
  refine wpAny_bind (wpAny_specialOf hT' hl (wpAny_pure ?_))
  have op : ∀ l, Ev (model prog w) A (operate l (getItem o i)) h2 P := fun l g d tk os Γ p hΓ => by rw [Sem.wp_operate]; exact q g d tk os Γ p hΓ
  have fin : ∀ l, wpAny (model prog w) A (operate l (getItem o i)) (fun r s' => wpAny (model prog w) A (letTemporaryGo value o r >>= fun _ => Pure.pure r) (fun v s' => ∃ h' tk', s' = ⟨h', g, d, tk', os⟩ ∧ P v h') (fun _ _ => False) s') (fun _ _ => False) ⟨h2, g, d, t2, os⟩ :=
    fun l => (op l).wp fun r h3 t3 z => wpAny_bind ((Ev.letTemp (Q := fun _ h4 => P r h4) z).wp fun _ h4 t4 y => wpAny_pure ⟨h4, t4, rfl, y⟩)
  unfold subscripted
  split
  · exact wpAny_bind (fin _)
  · rename_i hb; cases hb
  · exact wpAny_bind (fin _)
theorem Items.isList {l : Addr} {vs : Array Value} (x : h.IsList l vs) : Items h (.ref l) := ⟨"list", _, fun g d tk os => Heap.IsList.typeIs (s := ⟨h, g, d, tk, os⟩) x, slot_list_getitem.lookup⟩
theorem Items.lst {l : Addr} {vs : List Value} (x : Lst h l vs) : Items h (.ref l) := .isList x.isList
theorem Ev.getItem_list {l : Addr} {vs : List Value} {i : Int} {t : Tok} {v : Value} (x : h.IsList l vs.toArray) (h0 : 0 ≤ i) (hv : vs[i.toNat]? = some v) (hi : vs.length ≤ 1099511627776) (k : P v h) : Ev (model prog w) A (getItem (.ref l) (.int i t)) h P := by
  have : i.toNat < vs.length := (List.getElem?_eq_some_iff.mp hv).1
  exact fun g d tk os => wpAny_getItem_list (s := ⟨h, g, d, tk, os⟩) x h0 (by omega) (by simpa using hv) ⟨h, tk, rfl, k⟩
theorem Ev.setItem_list {l : Addr} {vs : List Value} {i : Int} {t : Tok} {v : Value} {Q : Unit → Heap → Prop} (x : h.IsList l vs.toArray) (h0 : 0 ≤ i) (hv : i < vs.length) (hi : vs.length ≤ 1099511627776)
    (k : ∀ h', Keep [l] h h' → h'.IsList l (vs.set i.toNat v).toArray → Q () h') : Ev (model prog w) A (setItem (.ref l) (.int i t) v) h Q :=
  fun g d tk os => wpAny_setItem_list (s := ⟨h, g, d, tk, os⟩) x h0 (by omega) (by simpa using hv) fun h' y hs => ⟨h', tk, rfl, k h' (.of_sameBut hs) (by simpa using y)⟩
theorem isList_keep {S : List Addr} {h' : Heap} {l : Addr} {vs : Array Value} (x : h.IsList l vs) (k : Keep S h h') (n : l ∉ S) : h'.IsList l vs := let ⟨o, ho, r⟩ := x; ⟨o, k.get _ _ n ho, r⟩
theorem cell_keep {S : List Addr} {h' : Heap} {c : Addr} {v : Option Value} (x : h.IsCell c v) (k : Keep S h h') (n : c ∉ S) : h'.IsCell c v := let ⟨o, ho, r⟩ := x; ⟨o, k.get _ _ n ho, r⟩
end
end Mine

namespace Mine
open Builtin.Bytes

/-- bytes glued -/
def cat : List Bs → Bs
  | [] => #[]
  | b :: r => b ++ cat r
theorem cat_append (a b : List Bs) : cat (a ++ b) = cat a ++ cat b := by
  induction a with
  | nil => simp [cat]
  | cons x r ih => simp [cat, ih]
theorem cat_size (a : List Bs) : (cat a).size = (a.map Array.size).sum := by
  induction a with
  | nil => rfl
  | cons x r ih => simp [cat, ih]

theorem joined_eq (l : List Bs) : joined #[] l = cat l := by
  have key : ∀ (l : List Bs) (k : Nat) (acc : Bs), (l.zipIdx k).foldl (fun out (p : Bs × Nat) => (if p.2 > 0 then out ++ #[] else out) ++ p.1) acc = acc ++ cat l := by
    intro l
    induction l with
    | nil => intro k acc; simp [cat]
    | cons x r ih =>
      intro k acc
      simp only [List.zipIdx_cons, List.foldl_cons, Array.append_empty, ite_self]
      have := ih (k + 1) (acc ++ x)
      simp only [Array.append_empty, ite_self] at this
      rw [this]
      simp [cat]
  have := key l 0 #[]
  unfold joined
  simpa using this

theorem fold_sizes (bs : List Bs) : bs.foldl (fun x1 (x2 : Bs) => x1 + x2.size) 0 = (bs.map Array.size).sum := by
  have key : ∀ (bs : List Bs) (n : Nat), bs.foldl (fun x1 (x2 : Bs) => x1 + x2.size) n = n + (bs.map Array.size).sum := by
    intro bs
    induction bs with
    | nil => intro n; simp
    | cons b r ih => intro n; simp only [List.foldl_cons, List.map_cons, List.sum_cons]; rw [ih]; omega
  rw [key]; omega
theorem Bts.get {vs : List Value} {bs : List Bs} (x : Bts vs bs) (i : Nat) (hi : i < vs.length) : ∃ b t, vs[i]? = some (.bytes b t) ∧ bs[i]? = some b := by
  induction x generalizing i with
  | nil => simp at hi
  | @cons b t vs bs x ih =>
    cases i with
    | zero => exact ⟨b, t, rfl, rfl⟩
    | succ i => simpa using ih i (by simpa using hi)
theorem Bts.all {vs : List Value} {bs : List Bs} (x : Bts vs bs) : ∀ v ∈ vs, ∃ b t, v = .bytes b t := by
  induction x with
  | nil => intro v hv; cases hv
  | cons x ih =>
    intro v hv
    rcases List.mem_cons.mp hv with rfl | hv
    · exact ⟨_, _, rfl⟩
    · exact ih v hv
theorem slot_join : Slot "bytes" "join" "bytes.join" :=
  .of (owner := "bytes") (n := "join") (by rw [typeLookup_type, builtinLookup_eq_fast]; kernel_rfl) (by decide +kernel) (by decide +kernel) (by decide +kernel)
    (by first | exact .inl (by decide +kernel) | exact .inr (by decide +kernel)) (by rw [isSubtype_type]; kernel_rfl)
theorem entry_join : entryFor table "bytes.join" = some Builtin.«bytes.join» := entryFor_of_tree (by kernel_rfl)
theorem type_join : typeOf (.builtin "bytes.join") = pure (.type "method_descriptor") := by show builtinType _ = _; rw [builtinType_eq_fast]; kernel_rfl
theorem args_join (a b : Value) : argsOk "bytes.join" ⟨[a, b], []⟩ := by unfold argsOk; kernel_rfl
theorem take_eq {id : String} {b : Bs} {t : Tok} : takeBufferQuiet? id (.bytes b t) 0 = pure (some (b, none)) := by
  unfold takeBufferQuiet? takeBuffer?
  rw [KBy.special_eq KBy.look_buffer, KBy.own_buffer]
  have e : buffer? id (.bytes b t) ((0 : Int) == fullReadOnly) = pure (some b) := KBy.buffer_eq
  simp only [pure_bind, Bool.not_true, Bool.false_eq_true, if_false, e]
  rfl
theorem letGo_join {M : Model} {A : Around} {E : Value → Shared → Prop} {Q : Unit → Shared → Prop} {s : Shared} {keep : List Value} (k : Q () s) : ∀ vs : List Value, wpAny M A (joinLetGo (vs.map fun v => (v, none)) keep) Q E s
  | [] => wpAny_pure k
  | v :: r => by
    show wpAny M A (do letGo [v] _; joinLetGo (r.map fun v => (v, none)) keep) Q E s
    exact wpAny_bind (wpAny_letGo (letGo_join k r))

section
variable {prog : Program} {w : World} {A : Around} {h : Heap} {P : Value → Heap → Prop}
theorem Ev.join {l : Addr} {vs : List Value} {bs : List Bs} {t : Tok} (hl : Lst h l vs) (hb : Bts vs bs) (hz : (cat bs).size ≤ 16777216) (k : ∀ t, P (.bytes (cat bs) t) h) :
    Ev (model prog w) A (PySem.call (.builtin "bytes.join") [.bytes #[] t, .ref l] []) h P := by
  intro g d tk os
  have T : (⟨h, g, d, tk, os⟩ : Shared).TypeIs (.bytes #[] t) "bytes" := typeIs_bytes _ _ _
  refine wpAny_call_entry slot_join T entry_join ?_ (args_join _ _)
  obtain ⟨n, ho⟩ := hl
  unfold Builtin.«bytes.join» joinM
  refine wpAny_bind (m := selfAndOne _ _) (wpAny_pure ?_)
  dsimp only
  rw [if_pos (show (Kind.bytes == Kind.bytes) = true from rfl)]
  refine wpAny_bind (m := joinItems (.ref l)) ?_
  unfold joinItems
  refine wpAny_bind (wpAny_typeOf (s := ⟨h, g, d, tk, os⟩) (T := "list") ⟨_, ho, rfl⟩ ?_)
  rw [if_pos (by rfl)]
  refine wpAny_pure ?_
  refine wpAny_bind (wpAny_seqItems ho rfl ?_)
  dsimp only
  rw [if_pos (show (Kind.bytes == Kind.bytes) = true from rfl)]
  have hlen := hb.length
  rcases vs with _ | ⟨v1, _ | ⟨v2, r⟩⟩
  case cons.nil =>
    cases hb with
    | cons hb =>
      cases hb
      refine wpAny_bind (wpAny_typeOf (typeIs_bytes _ _ _) ?_)
      rw [if_pos (by rfl)]
      refine wpAny_bind (wpAny_rule (wpAny_pure ⟨_, rfl, h, tk, rfl, ?_⟩))
      have := k
      simp only [cat, Array.append_empty] at this
      exact this _
  case' nil => show wpAny _ _ (forIn [:_] _ _ >>= _) _ _ _; generalize ([] : List Value) = vs at *
  case' cons.cons => show wpAny _ _ (forIn [:_] _ _ >>= _) _ _ _; generalize v1 :: v2 :: r = vs at *
  all_goals (
    refine wpAny_bind ?_
    rw [Std.Legacy.Range.forIn_eq_forIn_range']
    refine wpAny_forIn_list _ (fun rest b s' => s' = ⟨h, g, d, tk, os⟩ ∧ ∃ j, j ≤ vs.length ∧ rest = List.range' j (vs.length - j) ∧ b.1 = (bs.take j).toArray ∧ b.2 = (vs.take j).map fun v => (v, none)) _ ?_ ?_ _ _ ?_
    · rintro i rest ⟨ps, tkn⟩ s' ⟨rfl, j, hj, e1, e2, e3⟩
      dsimp only at e2 e3
      subst e2 e3
      obtain ⟨m, hm⟩ : ∃ m, vs.length - j = m + 1 := by
        rcases hq : vs.length - j with _ | m
        · rw [hq] at e1; cases e1
        · exact ⟨m, rfl⟩
      rw [hm, List.range'_succ] at e1
      obtain ⟨rfl, rfl⟩ := List.cons.inj e1
      have hi : i < vs.length := by omega
      obtain ⟨b, u, hv, hbb⟩ := hb.get i hi
      refine wpAny_bind (wpAny_seqItems ho rfl ?_)
      dsimp only
      have hg : vs.toArray.getD i .none = .bytes b u := by
        rw [Array.getD_eq_getD_getElem?, List.getElem?_toArray, hv]; rfl
      rw [hg]
      have hany : ((List.map (fun v => (v, (none : Option Value))) (vs.take i)).any fun x => x.1.onHeap) = false := by
        rw [List.any_map, List.any_eq_false]
        intro x hx
        obtain ⟨b', u', rfl⟩ := hb.all x (List.mem_of_mem_take hx)
        exact Bool.false_ne_true
      rw [hany, if_neg (by decide)]
      refine wpAny_bind (wpAny_holding (wpAny_of_eq take_eq ?_))
      dsimp only
      refine wpAny_bind (wpAny_seqItems ho rfl ?_)
      dsimp only
      rw [if_neg (by simp)]
      refine wpAny_pure ⟨rfl, i + 1, hi, ?_, ?_, ?_⟩
      · rw [show vs.length - (i + 1) = m by omega]
      · rw [List.take_add_one, hbb]; simp
      · rw [List.take_add_one, hv]; simp
    · rintro ⟨ps, tkn⟩ s' ⟨rfl, j, hj, e1, e2, e3⟩
      dsimp only at e2 e3
      have hj' : vs.length - j = 0 := by
        have := congrArg List.length e1
        simpa using this.symm
      rw [List.take_of_length_le (by omega)] at e2 e3
      subst e2 e3
      dsimp only
      refine wpAny_bind (m := payload _) (wpAny_pure ?_)
      have hsum : Array.foldl (fun x1 (x2 : Bs) => x1 + x2.size) ((#[] : Bs).size * (bs.toArray.size - 1)) bs.toArray = (cat bs).size := by
        rw [cat_size]
        simp only [List.size_toArray, List.length_nil, Nat.zero_mul, List.foldl_toArray']
        exact fold_sizes bs
      rw [hsum, if_neg (by rw [KBy.tooLong_not hz]; exact Bool.false_ne_true), joined_eq]
      refine wpAny_bind (m := Kind.new _ _) (wpAny_mkBytes ?_ (by rw [sizeLine_eq]; exact hz))
      refine wpAny_bind (wpAny_holding (wpAny_point ?_))
      exact wpAny_bind (letGo_join (wpAny_pure ⟨_, rfl, h, _, rfl, k _⟩) vs)
    · exact ⟨rfl, 0, Nat.zero_le _, by simp, rfl, rfl⟩)
end
end Mine

namespace Mine
/-- what stands of the top, for law 03 -/
structure Top3 (w : World) (mg mb : Str → Option Value) (g0 : Heap) : Prop where
  G : Gd (K3 w) mg mb g0
  C1 : CodeHd g0 66 62
  C2 : CodeHd g0 59 55
  t1 : g0.get? 62 = none
  t2 : g0.get? 55 = none
abbrev q62 : Str := (("_law_ground" : Str) ++ ".<locals>.") ++ "_law_line"
abbrev q55 : Str := (("_law_floor" : Str) ++ ".<locals>.") ++ "<lambda>"
abbrev p62 : Pos := ⟨29, 4, 31, 69⟩
abbrev p55 : Pos := ⟨25, 22, 25, 66⟩

/-- x is a source whose readline, at any later heap, is as F tells -/
def Reader (C : Addr) (h : Heap) (x : Addr) (F : Addr → Prop) : Prop :=
  ∃ t d0 m f o fd, h.get? x = some (excObj C t (some d0)) ∧ h.Ns d0 m ∧ m "readline" = some (.ref f) ∧ h.get? f = some o ∧ o.data = .func fd ∧ F f

section
variable {w : World} {mg mb : Str → Option Value} {g0 : Heap}
theorem ns30 {h : Heap} (X : (K3 w).In h) : ∃ mN, h.Ns 30 mN ∧ mN "__init__" = none := by
  refine ⟨fun n => nsFind _ n, ⟨_, _, _, X 30 _ rfl, rfl, ?_, fun _ => rfl⟩, by kernel_rfl⟩
  intro e he
  simp only [List.mem_toArray, List.mem_cons, List.not_mem_nil, or_false] at he
  rcases he with rfl | rfl | rfl | rfl | rfl <;> exact ⟨_, _, rfl⟩
theorem ground3 (c : Top3 w mg mb g0) {h : Heap} {A : Around} {Ln Pl : Addr} (X : List Addr) (hX : ∀ a ∈ X, Plain h a) (hX2 : 62 ∉ X) (hLn : Ln ∉ X) (hPl : Ln ≠ Pl) (hgP : g0.get? Pl = none) (st : Stay g0 h) (T1 : Tab h 62 p62 q62) (r : Room A 1) :
    EvC (model pg3 w) A (.call (.ref 67) ⟨[.ref Ln, .ref Pl], []⟩) h fun v h' => ∃ x, v = .ref x ∧ Keep [62] h h' ∧ Tab h' 62 p62 q62 ∧ (∀ h2, Keep X h' h2 → Reader 31 h2 x fun f => Stay g0 h2 →
      ∀ A lim i t0 lv ls, Room A 1 → Lst h2 Ln lv → Bts lv ls → ls.length ≤ 1000 → h2.IsList Pl #[.int i t0] → 0 ≤ i →
        EvC (model pg3 w) A (.call (.ref f) ⟨[lim], []⟩) h2 fun v h' => ∃ tk, v = .bytes (ls.getD i.toNat #[]) tk ∧ Keep [Pl] h2 h' ∧ ∃ t, h'.IsList Pl #[.int (i + 1) t]) := by
  have G := c.G.keeps st
  have ho := G.X 67 _ rfl
  have hcd : h.CodeRec (.ref 66) (Str.ofString "_law_ground") := codeRec_of G.X (by kernel_rfl)
  refine EvC.fnC (binds := [("lines", .ref Ln), ("place", .ref Pl)]) r.here ho rfl G.lim hcd rfl rfl rfl (kindsX rfl _) fun h1 hn1 k1 l1 hc => ?_
  have hc1 : h1.IsCell (h.objs.size + 1) (some (.ref Ln)) := (hc "lines" (h.objs.size + 1) rfl).1
  have hc2 : h1.IsCell (h.objs.size + 2) (some (.ref Pl)) := (hc "place" (h.objs.size + 2) rfl).1
  replace hn1 : h1.Ns h.objs.size (fun _ => none) := hn1
  have st1 := st.keep' k1
  have G1 := c.G.keeps st1
  have T11 := T1.keep k1 (by simp) all0
  have h62 : (62 : Nat) < h.objs.size := let ⟨_, e, _⟩ := T1; Heap.lt_size e
  refine Ev.cons (Ev.defn (Ev.mkFn G1 (c.C1.keeps st1) T11 rfl rfl rfl fun f c' ctv doc h2 k2 lf hf2 rec2 T2 => ?_))
  have st2 := st1.keep k2 (all1 c.t1)
  refine Ev.store (k2.ns hn1 (ni (by omega))) fun h3 hn3 k3 => ?_
  have st3 := st2.keep k3 (all1 (st.none (Nat.le_refl _)))
  have G3 := c.G.keeps st3
  have hC : h3.get? 31 = _ := G3.X 31 _ rfl
  -- source = HTTPException()
  obtain ⟨cd, hcls⟩ := exc3 (w := w)
  obtain ⟨mN, hN1, hN2⟩ := ns30 G3.X
  refine Ev.cons (Ev.assign (Ev.callN (Ev.global G3 rfl (Ev.items_nil ⟨keeper_cls (K := K3 w) hC rfl rfl, Ev.newExc hC hN1 hN2 fun h4 x t k4 hx4 hx5 => ?_⟩))))
  refine Ev.store (k4.ns hn3 (by simp)) fun h5 hn5 k5 => ?_
  have st4 := st3.keep' k4
  have st5 := st4.keep k5 (all1 (st.none (Nat.le_refl _)))
  have G5 := c.G.keeps st5
  have z12 := k1.size; have z23 := k2.size; have z34 := k3.size; have z45 := k4.size
  have hxL : x ≠ h.objs.size := ne_ns hx4 hn3
  have hx6 := k5.get _ _ (ni hxL) hx5
  -- source.readline = _law_line
  refine Ev.cons (Ev.assignAttr (Ev.local hn5 ((upd_ne (by decide)).trans upd_same) (Ev.local hn5 upd_same (Ev.setAttr_exc hcls G5.X hx6 rl3 fun h6 d0 k6 ld hx7 hd7 => ?_))))
  refine Ev.cons (Ev.ret (Ev.local (k6.ns hn5 (ni hxL.symm)) upd_same ?_))
  have hL3 : (h.objs.size : Nat) < h3.objs.size := hn3.lt
  have k13 : Keep [62] h h3 := (k1.nil.trans k2).then k3 (all1 (.inr (Nat.le_refl _)))
  have x62 : x ≠ 62 := by
    obtain ⟨ps, e, _⟩ := T2
    exact ne_some hx4 (k3.get _ _ (ni (by omega)) e)
  have kall : Keep [62] h h6 := ((((k1.nil.trans k2).then k3 (all1 (.inr (Nat.le_refl _)))).trans k4.nil).then k5 (all1 (.inr (Nat.le_refl _)))).thenN k6 (all1 (.inr ?_))
  · replace T2 : Tab h2 62 p62 q62 := T2
    replace rec2 : h2.CodeRec (.ref c') q62 := rec2
    have lc1 := hc1.lt
    have lc2 := hc2.lt
    have lf2 : f < h2.objs.size := Heap.lt_size hf2
    have k13 : Keep [62] h h3 := (k1.nil.trans k2).then k3 (all1 (.inr (Nat.le_refl _)))
    have hn2 : h2.Ns h.objs.size (fun _ => none) := k2.ns hn1 (ni (by omega))
    have kb : Keep [h.objs.size, x] h2 h6 := (((k3.mono (by simp)).trans k4.nil).trans (k5.mono (by simp))).trans (k6.mono (by simp))
    have ka : Keep [62, h.objs.size, x] h1 h6 := (k2.mono (by simp)).trans (kb.mono (by simp))
    have xf : x ≠ f := ne_some hx4 (k3.get _ _ (ni (by omega)) hf2)
    have xc1 : x ≠ h.objs.size + 1 := let ⟨o, e, _⟩ := cell_keep (cell_keep hc1 k2 (ni (by omega))) k3 (ni (by omega)); ne_some hx4 e
    have xc2 : x ≠ h.objs.size + 2 := let ⟨o, e, _⟩ := cell_keep (cell_keep hc2 k2 (ni (by omega))) k3 (ni (by omega)); ne_some hx4 e
    have kXf : ∀ a ∈ X, Plain h6 a ∧ a ≠ h.objs.size + 1 ∧ a ≠ h.objs.size + 2 ∧ a ≠ f ∧ a ≠ x ∧ a ≠ d0 := fun a ha => by
      have pa := hX a ha
      have la := pa.lt
      have a62 : (a : Nat) ≠ 62 := fun q => hX2 (q ▸ ha)
      have z56 := k5.size
      refine ⟨pa.keep kall (ni a62), Nat.ne_of_lt (by omega), Nat.ne_of_lt (by omega), Nat.ne_of_lt (by omega), ?_, Nat.ne_of_lt (by omega)⟩
      obtain ⟨o, e, _⟩ := pa.keep k13 (ni a62)
      exact (ne_some hx4 e).symm
    have nX : ∀ {a : Addr}, (∀ b ∈ X, b ≠ a) → a ∉ X := fun q hq => q _ hq rfl
    refine ⟨x, rfl, kall, ?_, fun h7 k7 => ?_⟩
    · exact ((((T2.keep k3 (ni (by omega)) (all1 (.ns hn2))).keep k4 (by simp) all0).keep k5 (ni (by omega)) (all1 (.ns (k4.ns hn3 (by simp)))))).keep k6 (ni (fun q => x62 q.symm)) (all1 (.exc hx6))
    · have rec6 : h6.CodeRec (.ref c') q62 := CodeRec.keep (CodeRec.keep (CodeRec.keep (CodeRec.keep rec2 k3 (all1 (.ns hn2))) k4 all0) k5 (all1 (.ns (k4.ns hn3 (by simp))))) k6 (all1 (.exc hx6))
      have rec7 := CodeRec.keep rec6 k7 fun a ha => (kXf a ha).1.no
      have hf7 := k7.get _ _ (nX fun b hb => (kXf b hb).2.2.2.1) (kb.get _ _ (ni2 (by omega) xf.symm) hf2)
      have hc17 := cell_keep (cell_keep hc1 ka (ni3 (by omega) (by omega) xc1.symm)) k7 (nX fun b hb => (kXf b hb).2.1)
      have hc27 := cell_keep (cell_keep hc2 ka (ni3 (by omega) (by omega) xc2.symm)) k7 (nX fun b hb => (kXf b hb).2.2.1)
      refine ⟨t, d0, _, f, _, _, k7.get _ _ (nX fun b hb => (kXf b hb).2.2.2.2.1) hx7, k7.ns hd7 (nX fun b hb => (kXf b hb).2.2.2.2.2), upd_same, hf7, rfl, fun st7 A lim i t0 lv ls r7 q7 b7 hls p7 hi0 => ?_⟩
      have hlen := b7.length
      have G7 := c.G.keeps st7
      refine EvC.fn (binds := [("limit", lim)]) r7.here hf7 rfl G7.lim rec7 rfl rfl (nocell rfl) (locs rfl) fun h8 hn8 k8 l8 => ?_
      have st8 := st7.keep' k8
      have p8 := isList_keep p7 k8 (by simp)
      have c18 := cell_keep hc17 k8 (by simp)
      have c28 := cell_keep hc27 k8 (by simp)
      -- place[0] = place[0] + 1
      refine Ev.cons (Ev.assignSub (Ev.binop (Ev.subscript (Ev.free rfl c28 (Ev.int fun t => ⟨.isList p8, Ev.getItem_list (vs := [.int i t0]) p8 (by decide) rfl (by simp) (Ev.int fun t => Ev.add_int fun t1 => Ev.free rfl c28 (Ev.int fun t => Ev.setItem_list (vs := [.int i t0]) p8 (by decide) (by simp) (by simp) fun h9 k9 p9 => ?_))⟩)))))
      replace p9 : h9.IsList Pl [Value.int (i + 1) t1].toArray := p9
      have st9 := st8.keep k9 (all1 hgP)
      have G9 := c.G.keeps st9
      have q9 := (q7.keep k8 (by simp)).keep k9 (ni hPl)
      have ncell : ∀ {b : Addr} {v : Option Value}, h8.IsCell b v → b ≠ Pl := fun {b v} hb q => by
        obtain ⟨o, e, d⟩ := hb
        obtain ⟨o', e', _, n, d'⟩ := p8
        rw [q, e'] at e; cases e; rw [d'] at d; cases d
      have c19 := cell_keep c18 k9 (ni (ncell c18))
      have c29 := cell_keep c28 k9 (ni (ncell c28))
      have kfin : Keep [Pl] h7 h9 := k8.nil.trans k9
      -- return ..
      refine Ev.cons (Ev.ret (Ev.ifexp (Ev.isTrue1 (Ev.subscript (Ev.free rfl c29 (Ev.int fun t => ⟨.isList p9, Ev.getItem_list p9 (by decide) rfl (by simp) (Ev.callN (Ev.builtin G9 rfl rfl (Ev.items_cons (Ev.free rfl c19 (Ev.items_nil ⟨keeper_builtin, Ev.len_list q9 (by omega) fun t => Ev.le_int ⟨_, rfl, ?_⟩⟩)))))⟩))))))
      by_cases hle : i + 1 ≤ (lv.length : Int)
      · rw [if_pos (by simpa using hle)]
        obtain ⟨b, u, e1, e2⟩ := b7.get i.toNat (by omega)
        refine Ev.subscript (Ev.free rfl c19 (Ev.binop (Ev.subscript (Ev.free rfl c29 (Ev.int fun t => ⟨.isList p9, Ev.getItem_list p9 (by decide) rfl (by simp) (Ev.int fun t => Ev.sub_int fun t => ⟨.lst q9, Ev.getItem_list q9.isList (by omega) (by rw [show i + 1 - 1 = i by omega]; exact e1) (by omega) ?_⟩)⟩)))))
        exact ⟨u, by rw [List.getD_eq_getElem?_getD, e2]; rfl, kfin, t1, p9⟩
      · rw [if_neg (by simpa using hle)]
        refine Ev.bytes fun t => ⟨t, ?_, kfin, t1, p9⟩
        rw [List.getD_eq_getElem?_getD, List.getElem?_eq_none (by omega)]; rfl
  · exact k13.none hx4 (ni x62)
end
end Mine

namespace Mine
section
variable {w : World} {mg mb : Str → Option Value} {g0 : Heap}
set_option maxHeartbeats 1000000 in
theorem floor3 (c : Top3 w mg mb g0) {h : Heap} {A : Around} {y : Addr} (X : List Addr) (hX : ∀ a ∈ X, Plain h a) (st : Stay g0 h) (T1 : Tab h 55 p55 q55) (r : Room A 1) :
    EvC (model pg3 w) A (.call (.ref 60) ⟨[.ref y], []⟩) h fun v h' => ∃ x, v = .ref x ∧ Keep [55] h h' ∧ Tab h' 55 p55 q55 ∧ (∀ h2, Keep X h' h2 → Reader 31 h2 x fun f =>
      ∀ (n : Nat) (σ : Type) (S : List Addr) (B : Nat) (ok : Addr → Prop) (St : σ → Heap → Prop) (nx : σ → Bs × σ) (s s' : σ) (ls : List Bs) (A : Around) (lim : Value), Src pg3 w (K3 w) mg mb 31 n S B ok St nx y → Take nx s ls s' → ls.length ≤ 100 → (cat ls).size ≤ 16777216 →
        St s h2 → Room A (n + 2) → EvC (model pg3 w) A (.call (.ref f) ⟨[lim], []⟩) h2 fun v h' => ∃ tk, v = .bytes (cat ls) tk ∧ Keep S h2 h' ∧ St s' h') := by
  have G := c.G.keeps st
  have ho := G.X 60 _ rfl
  have hcd : h.CodeRec (.ref 59) (Str.ofString "_law_floor") := codeRec_of G.X (by kernel_rfl)
  refine EvC.fnC (binds := [("below", .ref y)]) r.here ho rfl G.lim hcd rfl rfl rfl (kindsX rfl _) fun h1 hn1 k1 l1 hc => ?_
  have hc1 : h1.IsCell (h.objs.size + 1) (some (.ref y)) := (hc "below" (h.objs.size + 1) rfl).1
  replace hn1 : h1.Ns h.objs.size (fun _ => none) := hn1
  have st1 := st.keep' k1
  have G1 := c.G.keeps st1
  have T11 := T1.keep k1 (by simp) all0
  have h55 : (55 : Nat) < h.objs.size := let ⟨_, e, _⟩ := T1; Heap.lt_size e
  have hC : h1.get? 31 = _ := G1.X 31 _ rfl
  obtain ⟨cd, hcls⟩ := exc3 (w := w)
  obtain ⟨mN, hN1, hN2⟩ := ns30 G1.X
  -- source = HTTPException()
  refine Ev.cons (Ev.assign (Ev.callN (Ev.global G1 rfl (Ev.items_nil ⟨keeper_cls (K := K3 w) hC rfl rfl, Ev.newExc hC hN1 hN2 fun h2 x t k2 hx1 hx2 => ?_⟩))))
  refine Ev.store (k2.ns hn1 (by simp)) fun h3 hn3 k3 => ?_
  have st2 := st1.keep' k2
  have st3 := st2.keep k3 (all1 (st.none (Nat.le_refl _)))
  have G3 := c.G.keeps st3
  have hxL : x ≠ h.objs.size := ne_ns hx1 hn1
  have hx3 := k3.get _ _ (ni hxL) hx2
  have T13 := (T11.keep k2 (by simp) all0).keep k3 (ni (by omega)) (all1 (.ns (k2.ns hn1 (by simp))))
  have x55 : x ≠ 55 := by
    obtain ⟨ps, e, _⟩ := T11
    exact ne_some hx1 e
  -- source.readline = lambda ..
  refine Ev.cons (Ev.assignAttr (Ev.lambda (Ev.mkLam G3 (c.C2.keeps st3) T13 rfl rfl rfl fun f c' ctv h4 k4 lf hf4 rec4 T4 => ?_)))
  have st4 := st3.keep k4 (all1 c.t2)
  have G4 := c.G.keeps st4
  have hn4 := k4.ns hn3 (ni (by omega))
  have hx4 := k4.get _ _ (ni x55) hx3
  refine Ev.local hn4 upd_same (Ev.setAttr_exc hcls G4.X hx4 rl3 fun h5 d0 k5 ld hx5 hd5 => ?_)
  refine Ev.cons (Ev.ret (Ev.local (k5.ns hn4 (ni hxL.symm)) upd_same ?_))
  replace T4 : Tab h4 55 p55 q55 := T4
  replace rec4 : h4.CodeRec (.ref c') q55 := rec4
  have z12 := k1.size; have z23 := k2.size; have z34 := k3.size; have z45 := k4.size
  have lc1 := hc1.lt
  have lf4 : f < h4.objs.size := Heap.lt_size hf4
  have k14 : Keep [55] h h4 := ((k1.nil.trans k2.nil).then k3 (all1 (.inr (Nat.le_refl _)))).trans k4
  have hxn : h.get? x = none := k1.none hx1 (by simp)
  have kall : Keep [55] h h5 := k14.thenN k5 (all1 (.inr hxn))
  have ka : Keep [h.objs.size, 55, x] h1 h5 := ((k2.nil.trans (k3.mono (by simp))).trans (k4.mono (by simp))).trans (k5.mono (by simp))
  have xf : x ≠ f := by have := Heap.lt_size hx3; exact Nat.ne_of_lt (Nat.lt_of_lt_of_le this lf)
  have xc1 : x ≠ h.objs.size + 1 := let ⟨o, e, _⟩ := hc1; ne_some hx1 e
  have kXf : ∀ a ∈ X, Plain h5 a ∧ a ≠ h.objs.size + 1 ∧ a ≠ f ∧ a ≠ x ∧ a ≠ d0 := fun a ha => by
    have pa := hX a ha
    have la := pa.lt
    have p5 : Plain h5 a := by
      by_cases q : a = 55
      · rw [q]; exact .tab (T4.keep k5 (ni (fun q => x55 q.symm)) (all1 (.exc hx4)))
      · exact pa.keep kall (ni q)
    refine ⟨p5, Nat.ne_of_lt (by omega), Nat.ne_of_lt (by omega), ?_, Nat.ne_of_lt (by omega)⟩
    obtain ⟨o, e, _⟩ := pa
    exact (ne_some hxn e).symm
  have nX : ∀ {a : Addr}, (∀ b ∈ X, b ≠ a) → a ∉ X := fun q hq => q _ hq rfl
  refine ⟨x, rfl, kall, T4.keep k5 (ni (fun q => x55 q.symm)) (all1 (.exc hx4)), fun h7 k7 => ?_⟩
  have rec7 := CodeRec.keep (CodeRec.keep rec4 k5 (all1 (.exc hx4))) k7 fun a ha => (kXf a ha).1.no
  have hf7 := k7.get _ _ (nX fun b hb => (kXf b hb).2.2.1) (k5.get _ _ (ni xf.symm) hf4)
  have hc17 := cell_keep (cell_keep hc1 ka (ni3 (by omega) (by omega) xc1.symm)) k7 (nX fun b hb => (kXf b hb).2.1)
  refine ⟨t, d0, _, f, _, _, k7.get _ _ (nX fun b hb => (kXf b hb).2.2.2.1) hx5, k7.ns hd5 (nX fun b hb => (kXf b hb).2.2.2.2), upd_same, hf7, rfl, fun n σ S B ok St nx s s' ls A lim sr tk hls hsz hs r7 => ?_⟩
  have G7 := sr.gd hs
  refine EvC.lam (binds := [("limit", lim)]) (r7.less (by omega : 0 + 1 ≤ n + 2)).here hf7 rfl G7.lim rec7 rfl rfl (nocell rfl) (locs rfl) fun h8 hn8 k8 l8 => ?_
  have s8 := sr.keep hs k8 all0
  have G8 := sr.gd s8
  have c18 := cell_keep hc17 k8 (by simp)
  have ho8 := G8.X 21 _ rfl
  refine Ev.callM (Ev.bytes fun tb => ⟨_, _, fun pl => getMethod_plain (fun g d tk os => typeIs_bytes _ _ _) FB.plainAttrs_bytes slot_join type_join (fun a e => nomatch e), Ev.items_cons (Ev.callN (Ev.global G8 rfl (Ev.items_cons (Ev.free rfl c18 (Ev.items_nil ⟨keeper_fn ho8 rfl,
    Ev.call ((read_headers3 sr tk hls s8 (r7.deeper _)).mono fun v h9 ⟨a, vs, e1, e2, e3, e4, e5, e6⟩ => ?_)⟩)))))⟩)
  subst e1
  exact Ev.items_nil ⟨keeper_builtin, Ev.join e3 e4 hsz fun t => ⟨t, rfl, k8.nil.trans e5, e6⟩⟩
end
end Mine

namespace Mine

/-- the place behind the first run of h blanks, r of them had ahead of p -/
inductive Gr (m : Nat → Bool) (h : Nat) : Nat → Nat → Nat → Prop
  | stop {r p : Nat} : m p = true → h ≤ r + 1 → Gr m h r p (p + 1)
  | step {r p e : Nat} : m p = true → r + 1 < h → Gr m h (r + 1) (p + 1) e → Gr m h r p e
  | zero {r p e : Nat} : m p = false → Gr m h 0 (p + 1) e → Gr m h r p e

section
variable {m : Nat → Bool} {h r p e e' j k N : Nat}
theorem Gr.lt (x : Gr m h r p e) : p < e := by
  induction x with
  | stop => omega
  | step _ _ _ ih => omega
  | zero _ _ ih => omega
theorem Gr.uniq (x : Gr m h r p e) : ∀ {e'}, Gr m h r p e' → e = e' := by
  induction x with
  | stop q l => intro e' y; cases y with
    | stop => rfl
    | step _ l' _ => omega
    | zero q' _ => rw [q] at q'; cases q'
  | step q l _ ih => intro e' y; cases y with
    | stop _ l' => omega
    | step _ _ y => exact ih y
    | zero q' _ => rw [q] at q'; cases q'
  | zero q _ ih => intro e' y; cases y with
    | stop q' _ => rw [q] at q'; cases q'
    | step q' _ _ => rw [q] at q'; cases q'
    | zero _ y => exact ih y
theorem Gr.low (x : Gr m h r p e) (hm : ∀ q, N ≤ q → m q = true) (hr : r < h) : e ≤ max p N + h ∧ (N ≤ p → e ≤ p + (h - r)) := by
  induction x with
  | stop _ _ => omega
  | @step r p e q l _ ih =>
    have := ih (by omega)
    omega
  | @zero r p e q _ ih =>
    have := ih (by omega)
    by_cases hp : N ≤ p
    · rw [hm p hp] at q; cases q
    · omega
theorem Gr.ex_far (hm : ∀ q, N ≤ q → m q = true) : ∀ (d r p : Nat), N ≤ p → r < h → h - r = d → ∃ e, Gr m h r p e
  | 0, r, p, hp, hr, hd => by omega
  | d + 1, r, p, hp, hr, hd => by
    by_cases l : h ≤ r + 1
    · exact ⟨_, .stop (hm p hp) l⟩
    · obtain ⟨e, y⟩ := Gr.ex_far hm d (r + 1) (p + 1) (by omega) (by omega) (by omega)
      exact ⟨e, .step (hm p hp) (by omega) y⟩
theorem Gr.ex (hm : ∀ q, N ≤ q → m q = true) : ∀ (d r p : Nat), N - p = d → r < h → ∃ e, Gr m h r p e
  | 0, r, p, hd, hr => Gr.ex_far hm _ r p (by omega) hr rfl
  | d + 1, r, p, hd, hr => by
    cases q : m p with
    | false =>
      obtain ⟨e, y⟩ := Gr.ex hm d 0 (p + 1) (by omega) (by omega)
      exact ⟨e, .zero q y⟩
    | true =>
      by_cases l : h ≤ r + 1
      · exact ⟨_, .stop q l⟩
      · obtain ⟨e, y⟩ := Gr.ex hm d (r + 1) (p + 1) (by omega) (by omega)
        exact ⟨e, .step q (by omega) y⟩
/-- k blanks, then one more -/
theorem Gr.up (x : Gr m k r p j) (hr : r < k) (y : Gr m (k + 1) k j e) : Gr m (k + 1) r p e := by
  induction x with
  | @stop r p q l =>
    have : r + 1 = k := by omega
    exact .step q (by omega) (this ▸ y)
  | step q l _ ih => exact .step q (by omega) (ih (by omega) y)
  | zero q _ ih => exact .zero q (ih (by omega) y)
end

section
variable (ls : List Bs)
/-- is the line at i blank (an empty one behind the last) -/
def mk3 (i : Nat) : Bool := blank (ls.getD i #[])
theorem mk3_far {i : Nat} (hi : ls.length ≤ i) : mk3 ls i = true := by
  unfold mk3
  rw [List.getD_eq_getElem?_getD, List.getElem?_eq_none hi]
  decide
/-- where a block of height h that begins at i ends -/
noncomputable def en (h i : Nat) : Nat := if q : 0 < h then Classical.choose (Gr.ex (m := mk3 ls) (N := ls.length) (h := h) (fun _ => mk3_far ls) (ls.length - i) (h - 1) i rfl (by omega)) else i + 1
theorem en_zero (i : Nat) : en ls 0 i = i + 1 := by simp [en]
theorem en_gr {h : Nat} (q : 0 < h) (i : Nat) : Gr (mk3 ls) h (h - 1) i (en ls h i) := by
  unfold en
  rw [dif_pos q]
  exact Classical.choose_spec (Gr.ex (m := mk3 ls) (N := ls.length) (h := h) (fun _ => mk3_far ls) (ls.length - i) (h - 1) i rfl (by omega))
theorem en_eq {h i e : Nat} (q : 0 < h) (x : Gr (mk3 ls) h (h - 1) i e) : en ls h i = e := (en_gr ls q i).uniq x
theorem en_lt (h i : Nat) : i < en ls h i := by
  by_cases q : 0 < h
  · exact (en_gr ls q i).lt
  · have : h = 0 := by omega
    subst this; rw [en_zero]; omega
theorem en_le (h i : Nat) : en ls h i ≤ max i ls.length + h + 1 := by
  by_cases q : 0 < h
  · have := ((en_gr ls q i).low (fun _ => mk3_far ls) (by omega)).1; omega
  · have : h = 0 := by omega
    subst this; rw [en_zero]; omega
theorem en_blank {h i : Nat} (q : mk3 ls i = true) : en ls h i = i + 1 := by
  by_cases l : 0 < h
  · exact en_eq ls l (.stop q (by omega))
  · have : h = 0 := by omega
    subst this; rw [en_zero]
/-- one block, then the next of the taller tower -/
theorem en_step {h i : Nat} (q : mk3 ls i = false) : en ls (h + 1) i = en ls (h + 1) (en ls h i) := by
  refine en_eq ls (by omega) ?_
  have y := en_gr ls (h := h + 1) (by omega) (en ls h i)
  by_cases l : 0 < h
  · have x := en_gr ls l i
    generalize en ls h i = j at x y
    cases x with
    | stop q' => rw [q] at q'; cases q'
    | step q' => rw [q] at q'; cases q'
    | zero _ x => exact .zero q (x.up l y)
  · have : h = 0 := by omega
    subst this
    rw [en_zero] at y ⊢
    exact .zero q y

/-- the lines from i to j -/
def sl (i j : Nat) : List Bs := (ls.drop i).take (j - i)
/-- what a source of k floors tells -/
noncomputable def nx3 (k i : Nat) : Bs × Nat := (cat (sl ls i (en ls k i)), en ls k i)

theorem sl_split {i j k : Nat} (h1 : i ≤ j) (h2 : j ≤ k) : sl ls i k = sl ls i j ++ sl ls j k := by
  unfold sl
  have e : k - i = (j - i) + (k - j) := by omega
  rw [e, List.take_add, List.drop_drop]
  congr 3
  omega
theorem cat_sl_one (i : Nat) : cat (sl ls i (i + 1)) = ls.getD i #[] := by
  unfold sl
  rw [show i + 1 - i = 1 by omega, List.getD_eq_getElem?_getD]
  by_cases hi : i < ls.length
  · rw [List.drop_eq_getElem_cons hi, List.getElem?_eq_getElem hi, List.take_succ_cons, List.take_zero]
    exact Array.append_empty
  · rw [List.drop_of_length_le (by omega), List.getElem?_eq_none (by omega)]
    rfl
theorem cat_sl_size {b : Nat} (hb : ∀ l ∈ ls, l.size ≤ b) (i j : Nat) : (cat (sl ls i j)).size ≤ b * ls.length := by
  have key : ∀ l : List Bs, (∀ x ∈ l, x.size ≤ b) → (cat l).size ≤ b * l.length := by
    intro l
    induction l with
    | nil => intro _; simp [cat]
    | cons x r ih =>
      intro hx
      have h1 := hx x (.head _)
      have h2 := ih fun y hy => hx y (.tail _ hy)
      simp only [cat, Array.size_append, List.length_cons, Nat.mul_add, Nat.mul_one]
      omega
  have h1 := key (sl ls i j) fun x hx => hb x (List.mem_of_mem_drop (List.mem_of_mem_take hx))
  have h2 : (sl ls i j).length ≤ ls.length := by unfold sl; simp; omega
  exact Nat.le_trans h1 (Nat.mul_le_mul_left _ h2)

/-- no line that is not blank opens what looks blank -/
def Firm : Prop := ∀ l ∈ ls, blank l = false → ∀ c : Bs, blank (l ++ c) = false
theorem blank_block (hF : Firm ls) {k i : Nat} : blank (nx3 ls k i).1 = mk3 ls i := by
  cases q : mk3 ls i with
  | true =>
    show blank (cat (sl ls i (en ls k i))) = true
    rw [en_blank ls q, cat_sl_one]; exact q
  | false =>
    show blank (cat (sl ls i (en ls k i))) = false
    have hi : i < ls.length := by
      rcases Nat.lt_or_ge i ls.length with l | l
      · exact l
      · rw [mk3_far ls l] at q; cases q
    rw [sl_split ls (Nat.le_succ i) (en_lt ls k i), cat_append, cat_sl_one]
    have e : ls.getD i #[] = ls[i] := by rw [List.getD_eq_getElem?_getD, List.getElem?_eq_getElem hi]; rfl
    have q' : blank ls[i] = false := by rw [← e]; exact q
    rw [e]
    exact hF _ (List.getElem_mem hi) q' _
/-- the blocks that a tower one taller gives -/
theorem takes (hF : Firm ls) {b : Nat} (hb : ∀ l ∈ ls, l.size ≤ b) (hN : b * ls.length ≤ 65536) (k : Nat) :
    ∀ (d i : Nat), en ls (k + 1) i - i = d → ∃ L, Take (nx3 ls k) i L (en ls (k + 1) i) ∧ L.length + i ≤ en ls (k + 1) i ∧ cat L = cat (sl ls i (en ls (k + 1) i)) := by
  intro d
  induction d using Nat.strongRecOn with
  | ind d ih =>
    intro i hd
    have hsz : (nx3 ls k i).1.size ≤ 65536 := Nat.le_trans (cat_sl_size ls hb _ _) hN
    cases q : mk3 ls i with
    | true =>
      have e : en ls (k + 1) i = en ls k i := (en_blank ls q).trans (en_blank ls q).symm
      refine ⟨[(nx3 ls k i).1], .last (by rw [e]; rfl) (by rw [blank_block ls hF, q]) hsz, ?_, ?_⟩
      · have := en_lt ls (k + 1) i
        simp; omega
      · rw [e]; simp [cat, nx3]
    | false =>
      have e := en_step ls (h := k) q
      have l1 := en_lt ls k i
      have l2 := en_lt ls (k + 1) (en ls k i)
      obtain ⟨L, h1, h2, h3⟩ := ih (en ls (k + 1) (en ls k i) - en ls k i) (by omega) (en ls k i) rfl
      refine ⟨(nx3 ls k i).1 :: L, .more rfl (by rw [blank_block ls hF, q]) hsz (by rw [e]; exact h1), ?_, ?_⟩
      · rw [e]; simp; omega
      · rw [e, sl_split ls (Nat.le_of_lt l1) (Nat.le_of_lt l2), cat_append, ← h3]
        rfl
theorem Take.pos {k i e : Nat} {L : List Bs} (x : Take (nx3 ls k) i L e) : i < e := by
  induction x with
  | last h _ _ => have := en_lt ls k; simp only [nx3, Prod.mk.injEq] at h; rw [← h.2]; exact this _
  | more h _ _ _ ih => have := en_lt ls k; simp only [nx3, Prod.mk.injEq] at h; rw [← h.2] at ih; exact Nat.lt_trans (this _) ih
end
end Mine

namespace Mine
section
variable (w : World) (mg mb : Str → Option Value) (g0 : Heap) (Ln Pl : Addr) (X : List Addr)
/-- the reader on the ground -/
def GSpec (h2 : Heap) (f : Addr) : Prop := Stay g0 h2 →
      ∀ A lim i t0 lv ls, Room A 1 → Lst h2 Ln lv → Bts lv ls → ls.length ≤ 1000 → h2.IsList Pl #[.int i t0] → 0 ≤ i →
        EvC (model pg3 w) A (.call (.ref f) ⟨[lim], []⟩) h2 fun v h' => ∃ tk, v = .bytes (ls.getD i.toNat #[]) tk ∧ Keep [Pl] h2 h' ∧ ∃ t, h'.IsList Pl #[.int (i + 1) t]
/-- a reader of the blocks of y -/
def FSpec (y : Addr) (h2 : Heap) (f : Addr) : Prop :=
      ∀ (n : Nat) (σ : Type) (S : List Addr) (B : Nat) (ok : Addr → Prop) (St : σ → Heap → Prop) (nx : σ → Bs × σ) (s s' : σ) (ls : List Bs) (A : Around) (lim : Value), Src pg3 w (K3 w) mg mb 31 n S B ok St nx y → Take nx s ls s' → ls.length ≤ 100 → (cat ls).size ≤ 16777216 →
        St s h2 → Room A (n + 2) → EvC (model pg3 w) A (.call (.ref f) ⟨[lim], []⟩) h2 fun v h' => ∃ tk, v = .bytes (cat ls) tk ∧ Keep S h2 h' ∧ St s' h'
/-- a tower of k floors over the ground -/
def Tower (h : Heap) : Nat → Addr → Prop
  | 0, x => ∀ h2, Keep X h h2 → Reader 31 h2 x (GSpec w g0 Ln Pl h2)
  | k + 1, x => ∃ y, Tower h k y ∧ ∀ h2, Keep X h h2 → Reader 31 h2 x (FSpec w mg mb y h2)
/-- the ground's state: i lines taken -/
def St3 (hT : Heap) (i : Nat) (h : Heap) : Prop := Keep X hT h ∧ Stay g0 h ∧ ∃ t, h.IsList Pl #[.int (i : Int) t]
end
section
variable {w : World} {mg mb : Str → Option Value} {g0 : Heap} {Ln Pl L : Addr} {X : List Addr}
theorem Tower.keep {h h' : Heap} (kp : Keep X h h') : ∀ {k : Nat} {x : Addr}, Tower w mg mb g0 Ln Pl X h k x → Tower w mg mb g0 Ln Pl X h' k x
  | 0, _, t => fun h2 k2 => t h2 (kp.trans k2)
  | k + 1, _, ⟨y, a, b⟩ => ⟨y, Tower.keep kp a, fun h2 k2 => b h2 (kp.trans k2)⟩
theorem tower_src (c : Top3 w mg mb g0) {hT : Heap} {lv : List Value} {ls : List Bs} (hl : Lst hT Ln lv) (hb : Bts lv ls) (hz : ls.length ≤ 68) (hsz : ∀ l ∈ ls, l.size ≤ 4) (hF : Firm ls) (hLn : Ln ∉ X) (hPX : Pl ∈ X) (hLX : L ∈ X) (hPL : Pl ≠ L) (hPlt : (Pl : Nat) < hT.objs.size)
    (hgP : g0.get? Pl = none) (hgL : g0.get? L = none) (stT : Stay g0 hT) :
    ∀ {k : Nat} {x : Addr}, k ≤ 10 → Tower w mg mb g0 Ln Pl X hT k x → Src pg3 w (K3 w) mg mb 31 (1 + 2 * k) [Pl] hT.objs.size (fun a => a = L ∨ hT.objs.size ≤ a) (St3 g0 Pl X hT) (nx3 ls k) x := by
  have base : ∀ {n : Nat} {nx : Nat → Bs × Nat} {x : Addr}, (∀ {s h}, St3 g0 Pl X hT s h → ∃ t d0 m f o fd, h.get? x = some (excObj 31 t (some d0)) ∧ h.Ns d0 m ∧ m "readline" = some (.ref f) ∧ h.get? f = some o ∧ o.data = .func fd ∧
      ∀ A lim, Room A n → EvC (model pg3 w) A (.call (.ref f) ⟨[lim], []⟩) h fun v h' => ∃ tk, v = .bytes (nx s).1 tk ∧ Keep [Pl] h h' ∧ St3 g0 Pl X hT (nx s).2 h') →
      Src pg3 w (K3 w) mg mb 31 n [Pl] hT.objs.size (fun a => a = L ∨ hT.objs.size ≤ a) (St3 g0 Pl X hT) nx x := fun rd =>
    { okB := fun a l => .inr l
      gd := fun {s h} q => c.G.keeps q.2.1
      lo := fun {s h} q => q.1.size
      low := all1 hPlt
      keep := fun {s h h' S'} ⟨k1, st, t, p⟩ kp hok => by
        have nP : Pl ∉ S' := fun q => (hok _ q).elim hPL fun l => absurd hPlt (Nat.not_lt.mpr l)
        refine ⟨k1.thenN kp fun a ha => ?_, st.keep kp fun a ha => ?_, t, isList_keep p kp nP⟩
        · rcases hok a ha with rfl | l
          · exact .inl hLX
          · exact .inr (get_none l)
        · rcases hok a ha with rfl | l
          · exact hgL
          · exact stT.none l
      rd := rd }
  intro k
  induction k with
  | zero =>
    intro x _ T
    refine base fun {s h} hs => ?_
    obtain ⟨k1, st, t0, p⟩ := hs
    obtain ⟨t, d0, m, f, o, fd, x1, x2, x3, x4, x5, x6⟩ := T h k1
    refine ⟨t, d0, m, f, o, fd, x1, x2, x3, x4, x5, fun A lim r => ?_⟩
    refine (x6 st A lim s t0 lv ls r (hl.keep k1 hLn) hb (by omega) p (by omega)).mono fun v h' ⟨tk, e, k2, t2, p2⟩ => ⟨tk, ?_, k2, k1.trans (k2.mono (all1 hPX)), st.keep k2 (all1 hgP), t2, ?_⟩
    · rw [e]
      show Value.bytes (ls.getD (s : Int).toNat #[]) tk = Value.bytes (cat (sl ls s (en ls 0 s))) tk
      rw [en_zero, cat_sl_one]; simp
    · show h'.IsList Pl #[.int ((en ls 0 s : Nat) : Int) t2]
      rw [en_zero]
      exact p2
  | succ k ih =>
    intro x hk T
    obtain ⟨y, Ty, R⟩ := T
    have sr := ih (by omega) Ty
    have e : 1 + 2 * (k + 1) = (1 + 2 * k) + 2 := by omega
    rw [e]
    refine base fun {s h} hs => ?_
    obtain ⟨t, d0, m, f, o, fd, x1, x2, x3, x4, x5, x6⟩ := R h hs.1
    refine ⟨t, d0, m, f, o, fd, x1, x2, x3, x4, x5, fun A lim r => ?_⟩
    obtain ⟨Lb, tk, h1, h2⟩ := takes ls hF hsz (by omega) k _ s rfl
    have h3 := en_le ls (k + 1) s
    have h4 := cat_sl_size ls hsz s (en ls (k + 1) s)
    refine (x6 _ _ _ _ _ _ _ s _ Lb A lim sr tk (by omega) (by rw [h2]; omega) hs r).mono fun v h' ⟨tk, e, k2, s2⟩ => ⟨tk, ?_, k2, s2⟩
    rw [e, h2]; rfl
end
end Mine

namespace Mine
theorem find_gr {m : Nat → Bool} {h at0 : Nat} (hh : 0 < h) (M : Nat → Bool) (hM : ∀ J, h - 1 ≤ J → M J = m (at0 + (J - (h - 1)))) {r p e : Nat} (x : Gr m h r p e) :
    ∀ J, h - 1 ≤ J → p = at0 + (J - (h - 1)) → r < h → r ≤ J → (∀ q, J - r ≤ q → q < J → M q = true) → (r = J ∨ M (J - r - 1) = false) → (∀ i, i + h ≤ J → ∃ q, q < h ∧ M (i + q) = false) →
      ∃ E, e = at0 + (E - (h - 1)) ∧ J < E ∧ (∀ q, q < h → M (E - h + q) = true) ∧ ∀ i, i + h < E → ∃ q, q < h ∧ M (i + q) = false := by
  induction x with
  | @stop r p q l =>
    intro J hJ hp hr rJ run edge no
    have hm : M J = true := by rw [hM J hJ, ← hp]; exact q
    refine ⟨J + 1, by omega, by omega, fun k hk => ?_, fun i hi => no i (by omega)⟩
    by_cases e : J + 1 - h + k = J
    · rw [e]; exact hm
    · exact run _ (by omega) (by omega)
  | @step r p e q l _ ih =>
    intro J hJ hp hr rJ run edge no
    have hm : M J = true := by rw [hM J hJ, ← hp]; exact q
    obtain ⟨E, h1, h2, h3, h4⟩ := ih (J + 1) (by omega) (by omega) (by omega) (by omega)
      (fun k h1 h2 => by
        by_cases e : k = J
        · rw [e]; exact hm
        · exact run k (by omega) (by omega))
      (edge.imp (by omega) (by intro z; rw [show J + 1 - (r + 1) - 1 = J - r - 1 by omega]; exact z))
      (fun i hi => by
        by_cases e : i + h ≤ J
        · exact no i e
        · rcases edge with z | z
          · omega
          · by_cases rJ' : r = J
            · omega
            · exact ⟨J - r - 1 - i, by omega, by rw [show i + (J - r - 1 - i) = J - r - 1 by omega]; exact z⟩)
    exact ⟨E, h1, by omega, h3, h4⟩
  | @zero r p e q _ ih =>
    intro J hJ hp hr rJ run edge no
    have hm : M J = false := by rw [hM J hJ, ← hp]; exact q
    obtain ⟨E, h1, h2, h3, h4⟩ := ih (J + 1) (by omega) (by omega) (by omega) (by omega) (fun k h1 h2 => by omega)
      (.inr (by simpa using hm))
      (fun i hi => by
        by_cases e : i + h ≤ J
        · exact no i e
        · exact ⟨J - i, by omega, by rw [show i + (J - i) = J by omega]; exact hm⟩)
    exact ⟨E, h1, by omega, h3, h4⟩

/-- the marks of the lines -/
def marked (b : Bool) : Nat := if b then 66 else 46
theorem find_end (ls : List Bs) {h at0 : Nat} (hh : 0 < h) :
    Txt.find ⟨(List.replicate (h - 1) 66 ++ (ls.map fun l => marked (blank l)).drop at0 ++ List.replicate h 66).toArray⟩ ⟨(List.replicate h 66).toArray⟩ + at0 + 1 = (en ls h at0 : Nat) := by
  generalize hs : List.replicate (h - 1) 66 ++ (ls.map fun l => marked (blank l)).drop at0 ++ List.replicate h 66 = s
  have hlen : s.length = (h - 1) + (ls.length - at0) + h := by rw [← hs]; simp; omega
  let M : Nat → Bool := fun J => if J < h - 1 then true else mk3 ls (at0 + (J - (h - 1)))
  have hM : ∀ J, h - 1 ≤ J → M J = mk3 ls (at0 + (J - (h - 1))) := fun J hJ => if_neg (by omega)
  have hsM : ∀ J, J < s.length → s[J]? = some (marked (M J)) := by
    intro J hJ
    rw [← hs]
    by_cases h1 : J < h - 1
    · rw [List.append_assoc, List.getElem?_append_left (by simpa using h1), List.getElem?_replicate, if_pos h1]
      simp [M, h1, marked]
    · rw [hM J (by omega)]
      by_cases h2 : J < (h - 1) + (ls.length - at0)
      · rw [List.getElem?_append_left (by simp; omega), List.getElem?_append_right (by simp; omega), List.getElem?_drop, List.getElem?_map]
        simp only [List.length_replicate]
        rw [List.getElem?_eq_getElem (by omega)]
        simp only [Option.map_some, mk3]
        rw [List.getD_eq_getElem?_getD, List.getElem?_eq_getElem (by omega)]
        rfl
      · rw [List.getElem?_append_right (by simp; omega), List.getElem?_replicate, if_pos (by simp; omega), mk3_far ls (by omega)]
        rfl
  have at_iff : ∀ i, StrLaws.At ⟨s.toArray⟩ ⟨(List.replicate h 66).toArray⟩ s.length i ↔ i + h ≤ s.length ∧ ∀ q, q < h → M (i + q) = true := by
    intro i
    unfold StrLaws.At
    rw [StrLaws.subAt_eq]
    simp only [Str.length, List.size_toArray, List.length_replicate]
    refine and_congr_right fun hi => ?_
    rw [beq_iff_eq]
    constructor
    · intro e q hq
      have e1 : ((s.drop i).take h)[q]? = some 66 := by
        have := congrArg (fun l : List Nat => l[q]?) e
        simpa [List.getElem?_replicate, hq] using this
      rw [List.getElem?_take, if_pos hq, List.getElem?_drop, hsM (i + q) (by omega)] at e1
      cases z : M (i + q) with
      | true => rfl
      | false => rw [z] at e1; simp [marked] at e1
    · intro e
      apply List.ext_getElem?
      intro q
      by_cases hq : q < h
      · rw [List.getElem?_take, if_pos hq, List.getElem?_drop, hsM (i + q) (by omega), e q hq, List.getElem?_replicate, if_pos hq]
        rfl
      · rw [List.getElem?_eq_none (by simp; omega), List.getElem?_eq_none (by simp; omega)]
  obtain ⟨E, h1, h2, h3, h4⟩ := find_gr hh M hM (en_gr ls hh at0) (h - 1) (by omega) (by omega) (by omega) (by omega)
    (fun q _ hq => by simp [M, hq]) (.inl rfl) (fun i hi => by omega)
  have hE : E ≤ s.length := by
    by_cases ha : ls.length ≤ at0
    · have := en_blank ls (h := h) (mk3_far ls ha)
      omega
    · have := ((en_gr ls hh at0).low (fun _ => mk3_far ls) (by omega)).1
      omega
  have first : StrLaws.At ⟨s.toArray⟩ ⟨(List.replicate h 66).toArray⟩ s.length (E - h) := (at_iff _).mpr ⟨by omega, h3⟩
  have hl : (⟨s.toArray⟩ : Str).length = s.length := by simp [Str.length]
  unfold Txt.find
  rcases StrLaws.occ_head ⟨s.toArray⟩ ⟨(List.replicate h 66).toArray⟩ 1 (Nat.le_refl _) with ⟨_, no⟩ | ⟨i, r, e, ha, hno⟩
  · rw [hl] at no; exact absurd first (no _)
  · rw [e]
    rw [hl] at ha hno
    have hi : i = E - h := by
      rcases Nat.lt_trichotomy i (E - h) with l | l | l
      · obtain ⟨q, hq, z⟩ := h4 i (by omega)
        rw [((at_iff i).mp ha).2 q hq] at z; cases z
      · exact l
      · exact absurd first (hno _ l)
    subst hi
    dsimp only
    omega
end Mine

namespace Mine
abbrev sliceObj (l u s : Value) : Obj := { cls := .type "slice", data := .fields #[l, u, s] }
section
variable {M : Model} {A : Around} {h : Heap} {env : Env} {P : Value → Heap → Prop} {pos : Pos}
theorem Ev.part_none (k : P .none h) : Ev M A (evalPart none env) h P := Ev.pure k
theorem Ev.part_some {e : Expr} (k : Ev M A (eval e env) h P) : Ev M A (evalPart (some e) env) h P := k
theorem Ev.slice {lower upper step : Option Expr} (k : Ev M A (evalPart lower env) h fun l h1 => Ev M A (evalPart upper env) h1 fun u h2 => Ev M A (evalPart step env) h2 fun s h3 =>
      ∀ h4, h4.get? h3.objs.size = some (sliceObj l u s) → Keep [] h3 h4 → P (.ref h3.objs.size) h4) : Ev M A (eval (.Slice lower upper step pos) env) h P :=
  fun g d tk os => wpAny_Slice (k.wp fun l h1 t1 p => p.wp fun u h2 t2 q => q.wp fun s h3 t3 r => ⟨_, t3, rfl, r _ (Heap.get?_push_size _ rfl) (.push _ _)⟩)
end
section
variable {prog : Program} {w : World} {A : Around} {h : Heap} {env : Env} {P : Value → Heap → Prop} {pos : Pos}
theorem Items.str {x : Str} {t : Tok} : Items h (.str x t) := ⟨"str", _, fun g d tk os => typeIs_str _ _ _, F.slot_str_getitem.lookup⟩
def strSliceIndices' (x : Str) (i : Nat) : List Nat := Builtin.Str.strSliceIndices (some (i : Int)) none 1 x.length
/-- a text from a place on -/
theorem Ev.strFrom {x : Str} {t ui : Tok} {a : Addr} {i : Nat} (ha : h.get? a = some (sliceObj (.int i ui) .none .none)) (hz : x.length ≤ 16777216) (k : ∀ t, P (.str ⟨(x.cps.toList.drop i).toArray⟩ t) h) :
    Ev (model prog w) A (getItem (.str x t) (.ref a)) h P := by
  intro g d tk os
  have key : StrLaws.sliceText x (some (i : Int)) none = ⟨(x.cps.toList.drop i).toArray⟩ := by
    by_cases hi : (i : Int) ≤ x.cps.toList.length
    · rw [StrLaws.sliceText_from ⟨by omega, hi⟩]
      congr 2
      rw [show ((i : Int)).toNat = i by omega]
      exact List.take_of_length_le (by simp)
    · have e : StrLaws.sliceText x (some (i : Int)) none = StrLaws.sliceText x (some (x.cps.toList.length : Int)) none := by
        unfold StrLaws.sliceText
        have e2 : strSliceIndices' x i = strSliceIndices' x x.cps.toList.length := by
          unfold strSliceIndices'
          simp only [Builtin.Str.strSliceIndices]
          have h1 : ¬ ((i : Int) < 0) := by omega
          have h2 : ¬ ((x.cps.toList.length : Int) < 0) := by omega
          have h3 : x.length = x.cps.toList.length := by simp [Str.length]
          simp only [h1, h2, if_false, h3, show ((1 : Int) > 0) = True from by simp, if_true]
          congr 1
          omega
        unfold strSliceIndices' at e2
        rw [e2]
      rw [e, StrLaws.sliceText_from ⟨by omega, Int.le_refl _⟩]
      rw [List.drop_of_length_le (by omega), List.drop_of_length_le (by omega), List.take_nil]
  refine wpAny_getItem_str_slice (s := ⟨h, g, d, tk, os⟩) (l := some (i, ui)) (u := none) (st := none) ⟨_, ha, rfl, rfl⟩ rfl ?_
  have hq : ∀ t', P (.str (StrLaws.sliceText x (some (i : Int)) none) t') h := fun t' => by rw [key]; exact k t'
  exact post_val_or_str ⟨Nat.le_trans (Txt.slice_le x _ _) (by rw [sizeLine_eq]; exact hz), fun t' k' => ⟨h, k', rfl, hq t'⟩⟩
theorem Ev.add_str {x y : Str} {t u : Tok} (hz : x.length + y.length ≤ 16777216) (k : ∀ t, P (.str (x ++ y) t) h) : Ev (model prog w) A (binaryOp .Add (.str x t) (.str y u)) h P :=
  fun g d tk os => PyProof.Rows.add_str (s := ⟨h, g, d, tk, os⟩) (fun t' tk' => ⟨h, tk', rfl, k t'⟩) (by rw [sizeLine_eq]; exact hz)
theorem mulB : ∀ n : Nat, n ≤ 8 → Txt.mul (Str.ofString "B") (n : Int) = ⟨(List.replicate n 66).toArray⟩ := by decide +kernel
theorem mulOkB : ∀ n : Nat, n ≤ 8 → MulOk (Str.ofString "B") (n : Int) := fun n hn => mulOk_of 16 1048576 (by decide) (by omega) (by omega) (by decide) (by decide)
theorem Ev.mulB {n : Nat} {t u : Tok} (hn : n ≤ 8) (k : ∀ t, P (.str ⟨(List.replicate n 66).toArray⟩ t) h) : Ev (model prog w) A (binaryOp .Mult (.str (Str.ofString "B") t) (.int (n : Int) u)) h P :=
  fun g d tk os => SB.mul (s := ⟨h, g, d, tk, os⟩) (mulOkB n hn) fun t' k' => ⟨h, k', rfl, by rw [Mine.mulB n hn]; exact k t'⟩
theorem Ev.find {x y : Str} {t u : Tok} (k : ∀ t, P (.int (Txt.find x y) t) h) : Ev (model prog w) A (PySem.call (.builtin "str.find") [.str x t, .str y u] []) h P :=
  fun g d tk os => SC.find (s := ⟨h, g, d, tk, os⟩) ⟨h, _, rfl, k _⟩
end
end Mine

namespace Mine
section
variable {w : World} {mg mb : Str → Option Value} {g0 : Heap}
/-- the marks as a text -/
def marks3 (ls : List Bs) : Str := ⟨(ls.map fun l => marked (blank l)).toArray⟩
theorem end3 (c : Top3 w mg mb g0) {h : Heap} {A : Around} (st : Stay g0 h) (r : Room A 1) {ls : List Bs} {at0 hh : Nat} {tm ta th : Tok} (g1 : 0 < hh) (g2 : hh ≤ 8) (hz : ls.length ≤ 1000) :
    EvC (model pg3 w) A (.call (.ref 74) ⟨[.str (marks3 ls) tm, .int at0 ta, .int hh th], []⟩) h fun v h' => (∃ t, v = .int (en ls hh at0 : Nat) t) ∧ Keep [] h h' := by
  have G := c.G.keeps st
  have ho := G.X 74 _ rfl
  have hcd : h.CodeRec (.ref 73) (Str.ofString "_law_end") := codeRec_of G.X (by kernel_rfl)
  refine EvC.fn (binds := [("marks", .str (marks3 ls) tm), ("at", .int at0 ta), ("height", .int hh th)]) r.here ho rfl G.lim hcd rfl rfl (by decide) (locs rfl) fun h1 hn1 k1 l1 => ?_
  refine Ev.cons (Ev.ret (Ev.binop (Ev.binop (Ev.local hn1 rfl (Ev.callM (hbase := ab_BinOp) (Ev.binop (Ev.binop (Ev.binop (Ev.str fun t => Ev.binop (Ev.local hn1 rfl (Ev.int fun t => Ev.sub_int fun t => ?_)))))))))))
  have e : ((hh : Int) - 1) = ((hh - 1 : Nat) : Int) := by omega
  rw [e]
  refine Ev.mulB (by omega) fun t => ?_
  refine Ev.subscript (Ev.local hn1 rfl (Ev.slice (Ev.part_some (Ev.local hn1 rfl (Ev.part_none (Ev.part_none fun h2 ha2 k2 => ⟨.str, Ev.strFrom ha2 (by simp [marks3, Str.length]; omega) fun t => ?_⟩))))))
  have hn2 := k2.ns hn1 (by simp)
  refine Ev.add_str (by simp [marks3, Str.length]; omega) fun t => ?_
  refine Ev.binop (Ev.str fun t => Ev.local hn2 rfl (Ev.mulB g2 fun t => ?_))
  refine Ev.add_str (by rw [Str.length_append]; simp [marks3, Str.length]; omega) fun t => ?_
  refine ⟨_, _, fun pl => getMethod_plain (fun g d tk os => typeIs_str _ _ _) F.plainAttrs_str F.slot_str_find F.type_str_find (fun a e => nomatch e), Ev.items_cons (Ev.binop (Ev.str fun t => Ev.local hn2 rfl (Ev.mulB g2 fun t => Ev.items_nil ⟨keeper_builtin, Ev.find fun t => Ev.add_int fun t => Ev.int fun t => Ev.add_int fun t => ?_⟩)))⟩
  refine ⟨⟨t, ?_⟩, k1.trans k2⟩
  have key := find_end ls (at0 := at0) g1
  show Value.int _ t = Value.int _ t
  congr 1
  rw [← key]
  have e2 : (({ cps := (List.replicate (hh - 1) 66).toArray } : Str) ++ { cps := (List.drop at0 (marks3 ls).cps.toList).toArray } ++ { cps := (List.replicate hh 66).toArray }) =
      ⟨(List.replicate (hh - 1) 66 ++ (ls.map fun l => marked (blank l)).drop at0 ++ List.replicate hh 66).toArray⟩ := by
    apply Str.ext'
    simp only [Str.cps_append, marks3]
    simp
  rw [e2]
  omega
end
end Mine

namespace Mine
section
variable {prog : Program} {w : World} {A : Around} {h : Heap} {env : Env} {P : Flow → Heap → Prop} {x : Str} {px pos : Pos} {iter : Expr} {body : List Stmt}
/-- one turn of a loop's body -/
def Turn (prog : Program) (w : World) (A : Around) (env : Env) (x : Str) (body : List Stmt) (fix : List Addr) (v : Value) (h : Heap) (N : Heap → Prop) (P : Flow → Heap → Prop) : Prop :=
  Ev (model prog w) A (storeName env x v) h fun _ h' => Ev (model prog w) A (execs body env) h' fun f h'' => match f with
    | .next | .cont => (∃ S, Keep S h h'' ∧ ∀ a ∈ fix, a ∉ S) ∧ N h''
    | .brk => P .next h''
    | .ret v => P (.ret v) h''
theorem Ev.forCore (e : Ev (model prog w) A (eval iter env) h fun xv h1 => Ev (model prog w) A (pyIter xv) h1 fun itv h2 => ∃ (it : Addr) (n : Nat) (It I : Nat → Heap → Prop) (val : Nat → Value → Prop) (fix : List Addr), itv = .ref it ∧ It 0 h2 ∧ I 0 h2 ∧
      (∀ i h, i < n → It i h → Ev (model prog w) A (pyNext (.ref it)) h fun r h' => ∃ v, r = some v ∧ val i v ∧ It (i + 1) h' ∧ Keep [it] h h') ∧
      (∀ h, It n h → Ev (model prog w) A (pyNext (.ref it)) h fun r h' => r = none ∧ Keep [it] h h') ∧
      (∀ i h h' S, It i h → Keep S h h' → (∀ a ∈ fix, a ∉ S) → It i h') ∧
      (∀ i h h', It i h → I i h → Keep [it] h h' → I i h') ∧
      (∀ i v h, i < n → val i v → It (i + 1) h → I i h → Turn prog w A env x body fix v h (I (i + 1)) P) ∧ (∀ h, I n h → P .next h))
    (hs : ∀ x, foldedSetIterable iter env x = Pure.pure x := by intro _; rfl) (ht : ∀ it v, letOwnedTupleGo (.Name x px) it v = Pure.pure () := by intro _ _; rfl) :
    Ev (model prog w) A (exec (.For (.Name x px) iter body [] pos) env) h P := by
  intro g d tk os
  refine wpAny_For (e.wp fun xv h1 t1 e1 => e1.wp fun itv h2 t2 e2 => ?_) hs
  obtain ⟨it, n, It, I, val, fix, rfl, i0, j0, step, stop, stab, cl, turn, fin⟩ := e2
  refine codeAny_forLoop (fun m s => ∃ i h tk, s = ⟨h, g, d, tk, os⟩ ∧ m = n - i ∧ i ≤ n ∧ It i h ∧ I i h) (fun m s hI => ?_) n ⟨0, h2, t2, rfl, by omega, by omega, i0, j0⟩ (ht _)
  obtain ⟨i, h3, t3, rfl, hm, hi, a1, a2⟩ := hI
  by_cases hin : i < n
  · refine (step i h3 hin a1).wp fun r h4 t4 q => ?_
    obtain ⟨v, rfl, q1, q2, q3⟩ := q
    have a4 := cl i h3 h4 a1 a2 q3
    refine wpAny_assign_Name ((turn i v h4 hin q1 q2 a4).wp fun _ h5 t5 p5 => p5.wp fun f h6 t6 p6 => ?_)
    cases f with
    | next => obtain ⟨⟨S, k1, k2⟩, k3⟩ := p6; exact ⟨n - (i + 1), by omega, i + 1, h6, t6, rfl, rfl, by omega, stab _ _ _ _ q2 k1 k2, k3⟩
    | cont => obtain ⟨⟨S, k1, k2⟩, k3⟩ := p6; exact ⟨n - (i + 1), by omega, i + 1, h6, t6, rfl, rfl, by omega, stab _ _ _ _ q2 k1 k2, k3⟩
    | brk => exact ⟨h6, t6, rfl, p6⟩
    | ret v => exact ⟨h6, t6, rfl, p6⟩
  · have : i = n := by omega
    subst this
    refine (stop h3 a1).wp fun r h4 t4 q => ?_
    obtain ⟨rfl, q3⟩ := q
    exact wpAny_execs_nil ⟨h4, t4, rfl, fin _ (cl i h3 h4 a1 a2 q3)⟩

/-- over a list that stands -/
theorem Ev.forList {vs : List Value} (hh : A.handled = none) (e : Ev (model prog w) A (eval iter env) h fun xv h1 => ∃ (l : Addr) (I : Nat → Heap → Prop), xv = .ref l ∧ h1.IsList l vs.toArray ∧
      (∀ h2, Keep [] h1 h2 → h2.objs.size = h1.objs.size + 1 → I 0 h2) ∧ (∀ i h h', I i h → Keep [h1.objs.size] h h' → I i h') ∧
      (∀ i v h, vs[i]? = some v → I i h → Turn prog w A env x body [h1.objs.size, l] v h (I (i + 1)) P) ∧ (∀ h, I vs.length h → P .next h))
    (hs : ∀ x, foldedSetIterable iter env x = Pure.pure x := by intro _; rfl) (ht : ∀ it v, letOwnedTupleGo (.Name x px) it v = Pure.pure () := by intro _ _; rfl) :
    Ev (model prog w) A (exec (.For (.Name x px) iter body [] pos) env) h P := by
  refine Ev.forCore (e.mono fun xv h1 ⟨l, I, e1, hl, i0, cl, turn, fin⟩ => ?_) hs ht
  subst e1
  intro g d tk os
  refine wpAny_pyIter_list (s := ⟨h1, g, d, tk, os⟩) hl ⟨_, tk, rfl, h1.objs.size, vs.length, fun i h => h.IsListIter h1.objs.size l i ∧ h.IsList l vs.toArray, I, fun i v => vs[i]? = some v, [h1.objs.size, l], rfl,
    ⟨⟨_, Heap.get?_push_size _ rfl, rfl, rfl⟩, hl.push _⟩, i0 _ (.push _ _) (Heap.size_push ..), ?_, ?_, ?_, fun i h h' _ => cl i h h', fun i v h _ hv _ => turn i v h hv, fin⟩
  · rintro i h3 hi ⟨q1, q2⟩ g d tk os
    have e0 : vs.toArray[i]? = some vs[i] := by simp [hi]
    refine wpAny_pyNext_list_item (s := ⟨h3, g, d, tk, os⟩) q1 q2 e0 fun h' r1 r2 => ⟨h', tk, rfl, _, rfl, by simp [hi], ⟨r1, ?_⟩, .of_sameBut r2⟩
    have ne : l ≠ h1.objs.size := by
      intro q
      obtain ⟨o, ho, hc, _⟩ := q1
      obtain ⟨o', ho', hc', _⟩ := q2
      rw [q, ho] at ho'
      cases ho'
      rw [hc] at hc'
      exact absurd hc' (by decide)
    exact isList_keep q2 (.of_sameBut r2) (ni ne)
  · rintro h3 ⟨q1, q2⟩
    refine Ev.keeping (S := [h1.objs.size]) fun g d tk os => wpAny_pyNext_list_end (s := ⟨h3, g, d, tk, os⟩) hh q1 q2 (by simp) fun h' r => ⟨h', tk, rfl, fun a o n e => r a o (fun z => n (by rw [z]; exact .head _)) e, fun k => ⟨rfl, k⟩⟩
  · rintro i h3 h4 S ⟨q1, q2⟩ k n
    obtain ⟨o, ho, r⟩ := q1
    exact ⟨⟨o, k.get _ _ (n _ (by simp)) ho, r⟩, isList_keep q2 k (n _ (by simp))⟩
/-- over a range of step 1 -/
theorem Ev.forRange (hh : A.handled = none) (e : Ev (model prog w) A (eval iter env) h fun xv h1 => ∃ (r : Addr) (a b : Int) (t u v : Tok) (I : Nat → Heap → Prop), xv = .ref r ∧ IsRange h1 r a b 1 t u v ∧ a ≤ b ∧ -1000000 ≤ a ∧ b ≤ 1000000 ∧
      (∀ h2, Keep [] h1 h2 → h2.objs.size = h1.objs.size + 1 → I 0 h2) ∧ (∀ i h h', (∃ x y, IsRangeIter h h1.objs.size x y 1) → I i h → Keep [h1.objs.size] h h' → I i h') ∧
      (∀ (i : Nat) tk h, (i : Int) < b - a → (∃ x y, IsRangeIter h h1.objs.size x y 1) → I i h → Turn prog w A env x body [h1.objs.size] (.int (a + i) tk) h (I (i + 1)) P) ∧ (∀ h, I (b - a).toNat h → P .next h))
    (hs : ∀ x, foldedSetIterable iter env x = Pure.pure x := by intro _; rfl) (ht : ∀ it v, letOwnedTupleGo (.Name x px) it v = Pure.pure () := by intro _ _; rfl) :
    Ev (model prog w) A (exec (.For (.Name x px) iter body [] pos) env) h P := by
  refine Ev.forCore (e.mono fun xv h1 ⟨r, a, b, t, u, v, I, e1, hr, hab, ha, hb, i0, cl, turn, fin⟩ => ?_) hs ht
  subst e1
  intro g d tk os
  refine wpAny_pyIter_range (s := ⟨h1, g, d, tk, os⟩) hr (small_one (by omega) (by omega) (by omega) (by omega)) ⟨_, tk, rfl, h1.objs.size, (b - a).toNat, fun i h => IsRangeIter h h1.objs.size (a + i) (b - a - i) 1, I, fun i v => ∃ tk, v = .int (a + i) tk, [h1.objs.size], rfl,
    ?_, i0 _ (.push _ _) (Heap.size_push ..), ?_, ?_, ?_, fun i h h' it => cl i h h' ⟨_, _, it⟩, fun i v h hi ⟨tk, e⟩ it hI => e ▸ turn i tk h (by omega) ⟨_, _, it⟩ hI, fin⟩
  · have e : Builtin.Range.rangeSize a b 1 = b - a := by rw [rangeSize_one]; split <;> omega
    rw [e]
    simp only [Int.add_zero, Int.sub_zero, Int.ofNat_zero]
    exact Heap.get?_push_size _ rfl
  · rintro i h3 hi q1 g d tk os
    refine wpAny_pyNext_range_item (s := ⟨h3, g, d, tk, os⟩) q1 (by omega) fun h' r1 r2 => ⟨h', _, rfl, _, rfl, ⟨_, rfl⟩, ?_, .of_sameBut r2⟩
    show IsRangeIter h' h1.objs.size (a + ((i + 1 : Nat) : Int)) (b - a - ((i + 1 : Nat) : Int)) 1
    rw [show a + ((i + 1 : Nat) : Int) = a + i + 1 by omega, show b - a - ((i + 1 : Nat) : Int) = b - a - i - 1 by omega]
    exact r1
  · rintro h3 q1
    refine Ev.keeping (S := [h1.objs.size]) fun g d tk os => wpAny_pyNext_range_end (s := ⟨h3, g, d, tk, os⟩) hh q1 (by omega) fun h' r => ⟨h', tk, rfl, fun a o n e => r a o (fun z => n (by rw [z]; exact .head _)) e, fun k => ⟨rfl, k⟩⟩
  · rintro i h3 h4 S q1 k n
    exact k.get _ _ (n _ (by simp)) q1
end
end Mine

namespace Mine
section
variable {prog : Program} {w : World} {A : Around} {h : Heap} {env : Env} {P : Value → Heap → Prop} {pos : Pos}
theorem Ev.range1 {n : Int} {t : Tok} (k : ∀ h' t' u', Keep [] h h' → h.objs.size < h'.objs.size → IsRange h' h.objs.size 0 n 1 t' t u' → P (.ref h.objs.size) h') : Ev (model prog w) A (PySem.call (.type "range") [.int n t] []) h P :=
  fun g d tk os => call_range_1 (s := ⟨h, g, d, tk, os⟩) ⟨_, _, rfl, k _ _ _ (.push _ _) (by rw [Heap.size_push]; exact Nat.lt_succ_self _) (.new _ _ _ _ _ _ _)⟩
theorem Ev.range2 {a b : Int} {t u : Tok} (k : ∀ h' v', Keep [] h h' → h.objs.size < h'.objs.size → IsRange h' h.objs.size a b 1 t u v' → P (.ref h.objs.size) h') : Ev (model prog w) A (PySem.call (.type "range") [.int a t, .int b u] []) h P :=
  fun g d tk os => call_range_2 (s := ⟨h, g, d, tk, os⟩) ⟨_, _, rfl, k _ _ (.push _ _) (by rw [Heap.size_push]; exact Nat.lt_succ_self _) (.new _ _ _ _ _ _ _)⟩
theorem Ev.fdiv_int {a b : Int} {t u : Tok} (hb : b ≠ 0) (hs : b.natAbs < 1073741824) (k : ∀ t, P (.int (a.fdiv b) t) h) : Ev (model prog w) A (binaryOp .FloorDiv (.int a t) (.int b u)) h P :=
  fun g d tk os => floordiv_int hb ⟨h, _, rfl, k _⟩ (.inl (PyProof.noPylong_small hs))
theorem Ev.add_bytes {b c : Array UInt8} {t u : Tok} (hz : b.size + c.size ≤ 16777216) (k : ∀ t, P (.bytes (b ++ c) t) h) : Ev (model prog w) A (binaryOp .Add (.bytes b t) (.bytes c u)) h P :=
  fun g d tk os => KBy.add_bytes (s := ⟨h, g, d, tk, os⟩) hz fun t' k' => ⟨h, k', rfl, k t'⟩
/-- bytes of a list of one int -/
theorem Ev.bytes1 {l : Addr} {n : Int} {t : Tok} (hh : A.handled = none) (hl : Lst h l [.int n t]) (h0 : 0 ≤ n) (h1 : n < 256) (k : ∀ h' t, Keep [] h h' → P (.bytes #[n.toNat.toUInt8] t) h') : Ev (model prog w) A (PySem.call (.type "bytes") [.ref l] []) h P :=
  Ev.keeping (S := []) fun g d tk os => call_bytes_ints (s := ⟨h, g, d, tk, os⟩) (ns := [n]) hl.isList (.cons _ _ .nil) (by simpa using ⟨h0, h1⟩) (by rw [sizeLine_eq]; simp) hh fun h' t k' hk => ⟨h', k', rfl, fun a o _ e => hk a o e, fun kk => k h' t kk⟩
/-- a part of a list -/
theorem Ev.getSlice {l sl : Addr} {vs : List Value} {vl vu vst : Value} {lo hi st : Option Int} (hl : h.IsList l vs.toArray) (hs : h.get? sl = some (sliceObj vl vu vst)) (pl : IsPart vl lo) (pu : IsPart vu hi) (ps : IsPart vst st) (h0 : st ≠ some 0) (hz : vs.length ≤ 16777216)
    {us : List Value} (e : slicePick vs.toArray lo hi st = us.toArray) (k : ∀ h', Lst h' h.objs.size us → Keep [] h h' → h'.objs.size = h.objs.size + 1 → P (.ref h.objs.size) h') : Ev (model prog w) A (getItem (.ref l) (.ref sl)) h P :=
  fun g d tk os => wpAny_getItem_list_slice (s := ⟨h, g, d, tk, os⟩) hl ⟨_, hs, rfl, rfl⟩ pl pu ps h0 ⟨_, tk, rfl, by rw [e]; exact k _ (.new _ _) (.push _ _) (Heap.size_push ..)⟩ (by rw [sizeLine_eq]; simpa using hz)
theorem Ev.item_str {x : Str} {i : Int} {t u : Tok} (h0 : 0 ≤ i) (h1 : i < x.length) (hz : x.length ≤ 16777216) (k : ∀ t, P (.str (Txt.item x i) t) h) : Ev (model prog w) A (getItem (.str x t) (.int i u)) h P := by
  intro g d tk os
  obtain ⟨T, id, _, _, q⟩ := PyProof.Rows.SBL.item (prog := prog) (w := w) (A := A) (E := fun _ _ => False) (t := t) (u := u) (s := ⟨h, g, d, tk, os⟩) (Q := fun v s' => ∃ h' tk', s' = ⟨h', g, d, tk', os⟩ ∧ P v h') (x := x) (i := i) (by omega) (by omega) (by omega) (fun _ => ⟨h, _, rfl, k _⟩)
  exact q
/-- lists of bytes: are they the same -/
theorem Ev.ne_lists {l b : Addr} {vs us : List Value} {xs ys : List Bs} (hl : Lst h l vs) (hb : Lst h b us) (x : Bts vs xs) (y : Bts us ys) (hu : A.units < cLine) (e : xs = ys) (k : P (.bool false) h) : Ev (model prog w) A (compareOp .NotEq (.ref l) (.ref b)) h P := by
  subst e
  intro g d tk os
  have hlen : vs.length = us.length := x.length.trans y.length.symm
  have key := SeqAt.RcNeAt.lists (A := A) (s := ⟨h, g, d, tk, os⟩) (e := fun _ => true) hl.isList hb.isList (by simpa using hlen) hu (fun j h1 h2 => by
    have h1' : j < vs.length := by simpa using h1
    have h2' : j < us.length := by simpa using h2
    obtain ⟨b1, t1, e1, e2⟩ := x.get j h1'
    obtain ⟨b2, t2, e3, e4⟩ := y.get j h2'
    rw [e2] at e4; cases e4
    have f1 : vs.toArray[j] = .bytes b1 t1 := by
      have := List.getElem?_eq_getElem h1'
      rw [e1] at this
      simpa using this.symm
    have f2 : us.toArray[j] = .bytes b1 t2 := by
      have := List.getElem?_eq_getElem h2'
      rw [e3] at this
      simpa using this.symm
    rw [f1, f2]
    have := eqAt_bytes (A := A.in1) (s := ⟨h, g, d, tk, os⟩) b1 b1 t1 t2
    simpa using this)
  refine key prog w _ _ ⟨h, tk, rfl, ?_⟩
  have e : (!(List.range vs.toArray.size).all fun _ => true) = false := by simp
  rw [e]; exact k
theorem Bts.take {vs : List Value} {bs : List Bs} (x : Bts vs bs) (n : Nat) : Bts (vs.take n) (bs.take n) := by
  induction x generalizing n with
  | nil => simp; exact .nil
  | cons x ih => cases n with
    | zero => exact .nil
    | succ n => exact .cons (ih n)
theorem Bts.drop {vs : List Value} {bs : List Bs} (x : Bts vs bs) (n : Nat) : Bts (vs.drop n) (bs.drop n) := by
  induction x generalizing n with
  | nil => simp; exact .nil
  | cons x ih => cases n with
    | zero => exact .cons x
    | succ n => exact ih n
end
end Mine

namespace Mine
/-- parts of the text -/
def fnParts : Stmt → Option (List Stmt × Scope)
  | .FunctionDef _ _ body _ _ _ scope _ _ _ => some (body, scope)
  | _ => none
def subs : Stmt → List Stmt
  | .For _ _ b _ _ => b
  | .While _ b _ _ => b
  | _ => []
def nth (l : List Stmt) (i : Nat) : Stmt := l.getD i (.Break ⟨0, 0, 0, 0⟩)
def law3 : Option (List Stmt × Scope) := pg3.main.body.getLast?.bind fnParts

/-- lines that are as wanted -/
structure Good (ls : List Bs) : Prop where
  sz : ∀ l ∈ ls, l.size ≤ 4
  firm : Firm ls
def Firm1 (b : Bs) : Prop := blank b = false → ∀ c : Bs, blank (b ++ c) = false
theorem Good.add {ls : List Bs} {b : Bs} (g : Good ls) (h1 : b.size ≤ 4) (h2 : Firm1 b) : Good (ls ++ [b]) := by
  refine ⟨fun l hl => ?_, fun l hl => ?_⟩
  · rcases List.mem_append.mp hl with q | q
    · exact g.sz l q
    · rw [List.mem_singleton.mp q]; exact h1
  · rcases List.mem_append.mp hl with q | q
    · exact g.firm l q
    · rw [List.mem_singleton.mp q]; exact h2
theorem Good.nil : Good [] := ⟨fun _ h => (nomatch h), fun _ h => (nomatch h)⟩
abbrev start3 : List Bs := [#[97, 10], #[10], #[32, 10], #[13, 10], #[10]]
theorem firm_one {x : UInt8} {r : List UInt8} (h1 : x ≠ 13) (h2 : x ≠ 10) : Firm1 (x :: r).toArray := fun _ c => by
  simp [blank, h1, h2]
theorem firm_blank {b : Bs} (h : blank b = true) : Firm1 b := fun q => by rw [h] at q; cases q
theorem good_start : Good start3 := by
  have : start3 = ((((([] ++ [#[97, 10]]) ++ [#[10]]) ++ [#[32, 10]]) ++ [#[13, 10]]) ++ [#[10]] : List Bs) := rfl
  rw [this]
  refine Good.add (Good.add (Good.add (Good.add (Good.add .nil ?_ ?_) ?_ ?_) ?_ ?_) ?_ ?_) ?_ ?_
  · decide
  · exact firm_one (x := 97) (r := [10]) (by decide) (by decide)
  · decide
  · exact firm_blank (by decide)
  · decide
  · exact firm_one (x := 32) (r := [10]) (by decide) (by decide)
  · decide
  · exact firm_blank (by decide)
  · decide
  · exact firm_blank (by decide)
theorem marks_start : Str.ofString ".B.BB" = marks3 start3 := by decide +kernel
theorem marks_add (ls : List Bs) (b : Bs) : marks3 (ls ++ [b]) = marks3 ls ++ ⟨#[marked (blank b)]⟩ := by
  apply Str.ext'
  simp [marks3, Str.cps_append]
abbrev near3 : List Bs := [#[100, 13, 10], #[32, 10], #[9, 13, 10], #[13, 13, 10], #[10, 10], #[11, 10], #[32], #[0]]
theorem near_ok : ∀ b ∈ near3, b.size ≤ 4 ∧ Firm1 b ∧ blank b = false := by
  intro b hb
  simp only [List.mem_cons, List.not_mem_nil, or_false] at hb
  rcases hb with rfl | rfl | rfl | rfl | rfl | rfl | rfl | rfl
  · exact ⟨by decide, firm_one (x := 100) (r := [13, 10]) (by decide) (by decide), by decide⟩
  · exact ⟨by decide, firm_one (x := 32) (r := [10]) (by decide) (by decide), by decide⟩
  · exact ⟨by decide, firm_one (x := 9) (r := [13, 10]) (by decide) (by decide), by decide⟩
  · exact ⟨by decide, fun _ c => by simp [blank], by decide⟩
  · exact ⟨by decide, fun _ c => by simp [blank], by decide⟩
  · exact ⟨by decide, firm_one (x := 11) (r := [10]) (by decide) (by decide), by decide⟩
  · exact ⟨by decide, firm_one (x := 32) (r := []) (by decide) (by decide), by decide⟩
  · exact ⟨by decide, firm_one (x := 0) (r := []) (by decide) (by decide), by decide⟩
theorem c_ok (u : UInt8) : (#[99, 58, 32] ++ #[u] : Bs).size ≤ 4 ∧ Firm1 (#[99, 58, 32] ++ #[u]) ∧ blank (#[99, 58, 32] ++ #[u]) = false :=
  ⟨by simp, firm_one (x := 99) (r := [58, 32, u]) (by decide) (by decide), by simp [blank]⟩
/-- the mark that is added -/
theorem item_mark : ∀ i : Fin 4, Txt.item (Str.ofString "BB..") (i.val : Int) = ⟨#[marked (decide (i.val < 2))]⟩ := by decide +kernel
/-- the four lines -/
theorem pick4 {b2 b3 : Bs} (h2 : b2.size ≤ 4 ∧ Firm1 b2 ∧ blank b2 = false) (h3 : b3.size ≤ 4 ∧ Firm1 b3 ∧ blank b3 = false) {i : Nat} (hi : i < 4) :
    ∃ b, ([#[10], #[13, 10], b2, b3] : List Bs)[i]? = some b ∧ b.size ≤ 4 ∧ Firm1 b ∧ blank b = decide (i < 2) := by
  match i, hi with
  | 0, _ => exact ⟨_, rfl, by decide, firm_blank (by decide), by decide⟩
  | 1, _ => exact ⟨_, rfl, by decide, firm_blank (by decide), by decide⟩
  | 2, _ => exact ⟨_, rfl, h2.1, h2.2.1, h2.2.2⟩
  | 3, _ => exact ⟨_, rfl, h3.1, h3.2.1, h3.2.2⟩
theorem IntsAre.take63 {vs : List Value} {ns : List Int} (x : IntsAre vs ns) (i : Nat) (v : Value) (h : vs[i]? = some v) : ∃ n t, v = .int n t := by
  induction x generalizing i with
  | nil => simp at h
  | cons n t x ih => cases i with
    | zero => simp at h; exact ⟨n, t, h.symm⟩
    | succ i => exact ih i (by simpa using h)
theorem ltN {h : Heap} {L : Nat} {m : Str → Option Value} (n : h.Ns L m) : L < h.objs.size := n.lt
section
variable {w : World} {mg mb : Str → Option Value} {g0 : Heap} {A : Around} {h : Heap} {body : List Stmt} {scope : Scope} {L fa : Addr} {cd : Value} {P : Flow → Heap → Prop}
/-- the lines are laid -/
theorem loop1 (hd : law3 = some (body, scope)) (c : Top3 w mg mb g0) (r : Room A 20) {m : Str → Option Value} {scr Ln Nr : Addr} {vs lv nv : List Value} {ns : List Int} {tm : Tok}
    (hn : h.Ns L m) (st : Stay g0 h) (hgL : g0.get? L = none) (hs : m "script" = some (.ref scr)) (hsl : g0.IsList scr vs.toArray) (hvs : IntsAre vs ns) (hlen : vs.length ≤ 63) (hl : m "lines" = some (.ref Ln)) (hm : m "marks" = some (.str (marks3 start3) tm)) (hne : m "near" = some (.ref Nr))
    (ql : Lst h Ln lv) (bl : Bts lv start3) (qn : Lst h Nr nv) (bn : Bts nv near3) (hLnL : Ln ≠ L) (hNrL : Nr ≠ L) (hLnNr : Ln ≠ Nr) (hgLn : g0.get? Ln = none)
    (k : ∀ h' m' lv' ls, Keep [L, Ln] h h' → h'.Ns L m' → m' "lines" = some (.ref Ln) → (∃ tm, m' "marks" = some (.str (marks3 ls) tm)) → Lst h' Ln lv' → Bts lv' ls → ls.length ≤ 68 → Good ls → P .next h') :
    Ev (model pg3 w) A (exec (nth body 3) (envOf "law" scope L fa cd)) h P := by
  obtain ⟨rfl, rfl⟩ := Prod.mk.inj (Option.some.inj (show some (_, _) = some (body, scope) from hd))
  refine Ev.forList (vs := vs) r.handled ?_
  refine Ev.subscript (Ev.local hn hs (Ev.slice (Ev.part_none (Ev.part_some (Ev.int fun t => Ev.part_none fun h1 ha1 k1 => ?_)))))
  have sl1 : h1.IsList scr vs.toArray := isList_keep (let ⟨o, ho, r⟩ := hsl; ⟨o, st _ _ ho, r⟩) k1 (by simp)
  refine ⟨.isList sl1, Ev.getSlice (us := vs) sl1 ha1 .none (.int 63 t) .none (by simp) (by omega) (by rw [show ((63 : Int)) = ((63 : Nat) : Int) from rfl, slicePick_upto']; simp [List.take_of_length_le hlen]) fun h2 q2 k2 z2 => ?_⟩
  have z1 := k1.size
  have ll := ql.lt
  have lr := qn.lt
  have lL := ltN hn
  refine ⟨h1.objs.size, fun i h' => ∃ m' lv' ls, Keep [L, Ln] h h' ∧ h'.Ns L m' ∧ m' "lines" = some (.ref Ln) ∧ m' "near" = some (.ref Nr) ∧ (∃ tm, m' "marks" = some (.str (marks3 ls) tm)) ∧ Lst h' Ln lv' ∧ Lst h' Nr nv ∧ Bts lv' ls ∧ ls.length = 5 + i ∧ Good ls, rfl, q2.isList, ?_, ?_, ?_, ?_⟩
  · intro h3 k3 z3
    exact ⟨m, lv, start3, (k1.nil.trans k2.nil).trans k3.nil, k3.ns (k2.ns (k1.ns hn (by simp)) (by simp)) (by simp), hl, hne, ⟨tm, hm⟩, ((ql.keep k1 (by simp)).keep k2 (by simp)).keep k3 (by simp), ((qn.keep k1 (by simp)).keep k2 (by simp)).keep k3 (by simp), bl, rfl, good_start⟩
  · rintro i h3 h4 ⟨m', lv', ls, a1, a2, a3, a4, a5, a6, a7, a8, a9, a10⟩ k4
    exact ⟨m', lv', ls, a1.then k4 (all1 (.inr (by omega))), k4.ns a2 (ni (by omega)), a3, a4, a5, a6.keep k4 (ni (by omega)), a7.keep k4 (ni (by omega)), a8, a9, a10⟩
  · rintro i v h3 hv ⟨m', lv', ls, a1, a2, a3, a4, ⟨tm', a5⟩, a6, a7, a8, a9, a10⟩
    obtain ⟨n, tn, rfl⟩ := IntsAre.take63 hvs i v hv
    have hi : i < vs.length := (List.getElem?_eq_some_iff.mp hv).1
    unfold Turn
    refine Ev.store a2 fun h4 hn4 k4 => ?_
    have st4 : Stay g0 h4 := (st.keep a1 (all2 hgL hgLn)).keep k4 (all1 hgL)
    have G4 := c.G.keeps st4
    have q4 := a6.keep k4 (ni hLnL)
    have r4 := a7.keep k4 (ni hNrL)
    have hlv := a8.length
    -- lines.append(..)
    refine Ev.cons (Ev.expr (Ev.callM (Ev.local hn4 ((upd_ne (by decide)).trans a3) ⟨_, _, fun pl => getMethod_plain (fun g d tk os => q4.isList.typeIs) F.plainAttrs_list F.slot_list_append F.type_list_append
      (fun a e => by cases e; obtain ⟨n, q⟩ := q4; exact ⟨_, q, rfl⟩), Ev.items_cons (Ev.subscript (Ev.list (Ev.items_cons (Ev.bytes fun t0 => Ev.items_cons (Ev.bytes fun t1 => Ev.items_cons (Ev.binop (Ev.bytes fun tc => ?_)))))))⟩)))
    refine Ev.callN (Ev.builtin G4 rfl rfl (Ev.items_cons (Ev.list (Ev.items_cons (Ev.binop (Ev.binop (Ev.local hn4 upd_same (Ev.int fun t => Ev.fdiv_int (by decide) (by decide) fun t => Ev.int fun t => Ev.mod_int (by decide) fun t => ?_))))))))
    refine Ev.items_nil ⟨by simp, fun h5 q5 k5 z5 => Ev.items_nil ⟨keeper_type, Ev.bytes1 r.handled q5 (fmod_lo _ (by decide)) (fmod_hi _ (by decide)) fun h6 tb k6 => Ev.add_bytes (by simp) fun tc' => ?_⟩⟩
    have hn6 := k6.ns (k5.ns hn4 (by simp)) (by simp)
    have r6 := (r4.keep k5 (by simp)).keep k6 (by simp)
    refine Ev.items_cons (Ev.subscript (Ev.local hn6 ((upd_ne (by decide)).trans a4) (Ev.binop (Ev.binop (Ev.local hn6 upd_same (Ev.int fun t => Ev.fdiv_int (by decide) (by decide) fun t => Ev.int fun t => Ev.mod_int (by decide) fun t => ?_))))))
    have f0 : 0 ≤ (n.fdiv 4).fmod 8 := fmod_lo _ (by decide)
    have f1 : (n.fdiv 4).fmod 8 < 8 := fmod_hi _ (by decide)
    have e0 : 0 ≤ n.fmod 4 := fmod_lo _ (by decide)
    have e1 : n.fmod 4 < 4 := fmod_hi _ (by decide)
    have hnl := bn.length
    have hnl' : nv.length = 8 := hnl
    obtain ⟨b3, t3, v1, v2⟩ := bn.get ((n.fdiv 4).fmod 8).toNat (by omega)
    refine ⟨.lst r6, Ev.getItem_list r6.isList f0 v1 (by omega) (Ev.items_nil ⟨by simp, fun h7 q7 k7 z7 => ?_⟩)⟩
    have hn7 := k7.ns hn6 (by simp)
    refine Ev.binop (Ev.local hn7 upd_same (Ev.int fun t => Ev.mod_int (by decide) fun t => ?_))
    have okc := c_ok (((n.fdiv 4).fmod 256).toNat.toUInt8)
    obtain ⟨b, w1, w2, w3, w4⟩ := pick4 okc (near_ok b3 (List.mem_of_getElem? v2)) (i := (n.fmod 4).toNat) (by omega)
    have hb : Bts [Value.bytes [10].toArray t0, Value.bytes [13, 10].toArray t1, Value.bytes ([99, 58, 32].toArray ++ #[((n.fdiv 4).fmod 256).toNat.toUInt8]) tc', Value.bytes b3 t3] [#[10], #[13, 10], #[99, 58, 32] ++ #[((n.fdiv 4).fmod 256).toNat.toUInt8], b3] := .cons (.cons (.cons (.cons .nil)))
    obtain ⟨b', tb', x1, x2⟩ := hb.get (n.fmod 4).toNat (by simp; omega)
    rw [w1] at x2; cases x2
    refine ⟨.lst q7, Ev.getItem_list q7.isList e0 x1 (by simp) (Ev.items_nil ⟨keeper_builtin, ?_⟩)⟩
    have q7' := ((q4.keep k5 (by simp)).keep k6 (by simp)).keep k7 (by simp)
    refine Ev.append q7' (by omega) fun h8 k8 q8 => ⟨rfl, ?_⟩
    have hn8 := k8.ns hn7 (ni hLnL.symm)
    -- marks = marks + ..
    refine Ev.cons (Ev.assign (Ev.binop (Ev.local hn8 ((upd_ne (by decide)).trans a5) (Ev.subscript (Ev.str fun t => Ev.binop (Ev.local hn8 upd_same (Ev.int fun t => Ev.mod_int (by decide) fun t => ⟨.str, Ev.item_str e0 (by show n.fmod 4 < 4; omega) (by decide) fun t => ?_⟩)))))))
    have im : Txt.item (Str.ofString "BB..") (n.fmod 4) = ⟨#[marked (blank b)]⟩ := by
      have := item_mark ⟨(n.fmod 4).toNat, by omega⟩
      rw [w4]
      simpa [Int.toNat_of_nonneg e0] using this
    rw [im]
    refine Ev.add_str (by simp [marks3, Str.length]; omega) fun t => Ev.store hn8 fun h9 hn9 k9 => Ev.nil ?_
    rw [← marks_add] at hn9
    have k48 : Keep [L, Ln] h3 h9 := (((((k4.mono (by simp)).trans k5.nil).trans k6.nil).trans k7.nil).trans (k8.mono (by simp))).trans (k9.mono (by simp))
    refine ⟨⟨[L, Ln], k48, all2 (ni2 (by omega) (by omega)) (ni2 (by omega) (by omega))⟩, _, _, ls ++ [b], a1.trans k48, hn9, (upd_ne (by decide)).trans ((upd_ne (by decide)).trans a3), (upd_ne (by decide)).trans ((upd_ne (by decide)).trans a4), ⟨_, upd_same⟩, q8.keep k9 (ni hLnL), ?_, a8.append (.one _ _), by simp; omega, a10.add w2 w3⟩
    exact ((r6.keep k7 (by simp)).keep k8 (ni hLnNr.symm)).keep k9 (ni hNrL)
  · rintro h3 ⟨m', lv', ls, a1, a2, a3, a4, a5, a6, a7, a8, a9, a10⟩
    exact k h3 m' lv' ls a1 a2 a3 a5 a6 a8 (by omega) a10
end
end Mine

namespace Mine
theorem pick_part (vs : List Value) (a b : Nat) : slicePick vs.toArray (some (a : Int)) (some (b : Int)) none = ((vs.drop a).take (b - a)).toArray := by
  rw [slicePick_plain]
  simp only [Option.elim, clipAt_nat, List.size_toArray]
  congr 1
  by_cases h1 : a ≤ vs.length
  · rw [Nat.min_eq_left h1]
    by_cases h2 : b ≤ vs.length
    · rw [Nat.min_eq_left h2]
    · rw [Nat.min_eq_right (by omega), List.take_of_length_le (by simp), List.take_of_length_le (by simp; omega)]
  · have e : min a vs.length = vs.length := by omega
    rw [e, List.drop_of_length_le (l := vs) (i := a) (by omega)]
    simp
theorem all3 {b c d : Nat} {P : Nat → Prop} (p : P b) (q : P c) (r : P d) : ∀ a ∈ [b, c, d], P a := fun a h => by
  rcases List.mem_cons.mp h with rfl | h
  · exact p
  · exact all2 q r a h
theorem all4 {b c d e : Nat} {P : Nat → Prop} (p : P b) (q : P c) (r : P d) (s : P e) : ∀ a ∈ [b, c, d, e], P a := fun a h => by
  rcases List.mem_cons.mp h with rfl | h
  · exact p
  · exact all3 q r s a h
theorem Plain.range {h : Heap} {it : Addr} (x : ∃ x y, IsRangeIter h it x y 1) : Plain h it := by
  obtain ⟨a, b, e⟩ := x
  refine ⟨_, e, fun vs q t d => ?_⟩
  cases d
  simp [rawInt]
section
variable {w : World} {mg mb : Str → Option Value} {g0 : Heap} {A : Around} {h : Heap} {body : List Stmt} {scope : Scope} {L fa : Addr} {cd : Value} {P : Flow → Heap → Prop}
/-- the tower is built -/
theorem loopD (hd : law3 = some (body, scope)) (c : Top3 w mg mb g0) (r : Room A 20) {m : Str → Option Value} {Ln Pl x0 : Addr} {hh : Nat} {th : Tok} (g1 : 1 ≤ hh) (g2 : hh ≤ 4)
    (hn : h.Ns L m) (st : Stay g0 h) (hgL : g0.get? L = none) (hL55 : L ≠ 55) (hhe : m "height" = some (.int hh th)) (hs : m "source" = some (.ref x0)) (T : Tower w mg mb g0 Ln Pl [Pl, L, 55] h 0 x0) (pl : Plain h Pl) (hPL : Pl ≠ L) (T2 : Tab h 55 p55 q55) (hP55 : Pl ≠ 55)
    (k : ∀ h' m' x it, Keep [L, 55] h h' → h'.Ns L m' → (∀ y : Str, y ≠ "level" → y ≠ "source" → m' y = m y) → m' "source" = some (.ref x) → h.objs.size ≤ it → it < h'.objs.size → Tower w mg mb g0 Ln Pl [Pl, L, 55, it] h' (hh - 1) x → Tab h' 55 p55 q55 → Stay g0 h' → P .next h') :
    Ev (model pg3 w) A (exec (nth (subs (nth body 4)) 2) (envOf "law" scope L fa cd)) h P := by
  obtain ⟨rfl, rfl⟩ := Prod.mk.inj (Option.some.inj (show some (_, _) = some (body, scope) from hd))
  have G := c.G.keeps st
  have lL := ltN hn
  have lP := pl.lt
  refine Ev.forRange r.handled (Ev.callN (Ev.builtin G rfl rfl (Ev.items_cons (Ev.binop (Ev.local hn hhe (Ev.int fun t => Ev.sub_int fun t => Ev.items_nil ⟨keeper_type, Ev.range1 fun h1 t1 u1 k1 z1 q1 => ?_⟩))))))
  have l55 : (55 : Nat) < h.objs.size := (Plain.tab T2).lt
  refine ⟨_, _, _, _, _, _, fun i h' => ∃ m' x, Keep [L, 55] h h' ∧ h'.Ns L m' ∧ (∀ y : Str, y ≠ "level" → y ≠ "source" → m' y = m y) ∧ m' "source" = some (.ref x) ∧ h1.objs.size < h'.objs.size ∧ Tower w mg mb g0 Ln Pl [Pl, L, 55, h1.objs.size] h' i x ∧ Tab h' 55 p55 q55 ∧ Stay g0 h' ∧ Plain h' Pl, rfl, q1, by omega, by omega, by omega, ?_, ?_, ?_, ?_⟩
  · intro h2 k2 z2
    refine ⟨m, x0, (k1.nil.trans k2.nil), k2.ns (k1.ns hn (by simp)) (by simp), fun _ _ _ => rfl, hs, by omega, fun h3 k3 => T h3 ((k1.nil.trans k2.nil).then k3 (all4 (.inl (by simp)) (.inl (by simp)) (.inl (by simp)) (.inr (by omega)))), (T2.keep k1 (by simp) all0).keep k2 (by simp) all0, (st.keep' k1).keep' k2, (pl.keep k1 (by simp)).keep k2 (by simp)⟩
  · rintro i h2 h3 it ⟨m', x, a1, a2, a3, a4, a5, a6, a7, a8, a9⟩ k3
    have z3 := k3.size
    refine ⟨m', x, a1.then k3 (all1 (.inr (by omega))), k3.ns a2 (ni (by omega)), a3, a4, by omega, a6.keep (k3.mono (all1 (by simp))), a7.keep k3 (ni (by omega)) (all1 (Plain.range it).no), a8.keep k3 (all1 (st.none (by omega))), a9.keep k3 (ni (by omega))⟩
  · rintro i tk h2 hi it ⟨m', x, a1, a2, a3, a4, a5, a6, a7, a8, a9⟩
    unfold Turn
    refine Ev.store a2 fun h3 hn3 k3 => ?_
    have st3 := a8.keep k3 (all1 hgL)
    have G3 := c.G.keeps st3
    have ho := G3.X 60 _ rfl
    have t3 := a7.keep k3 (ni hL55.symm) (all1 (.ns a2))
    have p3 := a9.keep k3 (ni hPL)
    have i3 : Plain h3 h1.objs.size := (Plain.range it).keep k3 (ni (by omega))
    refine Ev.cons (Ev.assign (Ev.callN (Ev.global G3 rfl (Ev.items_cons (Ev.local hn3 ((upd_ne (by decide)).trans a4) (Ev.items_nil ⟨keeper_fn ho rfl, Ev.call ((floor3 c [Pl, L, 55, h1.objs.size] (all4 p3 (.ns hn3) (.tab t3) i3) st3 t3 (r.less (by omega))).mono ?_)⟩))))))
    rintro v h4 ⟨x', rfl, k4, t4, rd4⟩
    refine Ev.store (k4.ns hn3 (ni hL55)) fun h5 hn5 k5 => Ev.nil ?_
    have k25 : Keep [L, 55] h2 h5 := ((k3.mono (by simp)).trans (k4.mono (by simp))).trans (k5.mono (by simp))
    have k25' : Keep [Pl, L, 55, h1.objs.size] h2 h5 := k25.mono (all2 (by simp) (by simp))
    have hn4 := k4.ns hn3 (ni hL55)
    refine ⟨⟨[L, 55], k25, all1 (ni2 (by omega) (by omega))⟩, _, x', a1.trans k25, hn5, fun y y1 y2 => (upd_ne y2).trans ((upd_ne y1).trans (a3 y y1 y2)), upd_same, Nat.lt_of_lt_of_le a5 k25.size, ⟨x, a6.keep k25', fun h6 k6 => rd4 h6 ((k5.mono (all1 (by simp))).trans k6)⟩, t4.keep k5 (ni hL55.symm) (all1 (.ns hn4)), (st3.keep k4 (all1 c.t2)).keep k5 (all1 hgL), (p3.keep k4 (ni hP55)).keep k5 (ni hPL)⟩
  · rintro h2 ⟨m', x, a1, a2, a3, a4, a5, a6, a7, a8, a9⟩
    have e : ((hh : Int) - 1 - 0).toNat = hh - 1 := by omega
    rw [e] at a6
    exact k h2 m' x h1.objs.size a1 a2 a3 a4 (Nat.le_of_lt z1) a5 a6 a7 a8
set_option maxHeartbeats 2000000 in
/-- what is due is cut -/
theorem loopB (hd : law3 = some (body, scope)) (c : Top3 w mg mb g0) (r : Room A 20) {m : Str → Option Value} {Ln D : Addr} {lv : List Value} {ls Lb : List Bs} {hh at0 e : Nat} {th ta te tm : Tok} (g1 : 1 ≤ hh) (g2 : hh ≤ 4)
    (hn : h.Ns L m) (st : Stay g0 h) (hgL : g0.get? L = none) (hgD : g0.get? D = none) (hDL : D ≠ L) (hLL : Ln ≠ L) (hLD : Ln ≠ D) (hhe : m "height" = some (.int hh th)) (hli : m "lines" = some (.ref Ln)) (hma : m "marks" = some (.str (marks3 ls) tm)) (hdu : m "due" = some (.ref D))
    (hat : m "at" = some (.int at0 ta)) (hen : m "end" = some (.int e te)) (ql : Lst h Ln lv) (bl : Bts lv ls) (hz : ls.length ≤ 68) (gd : Good ls) (qd : Lst h D []) (tk : Take (nx3 ls (hh - 1)) at0 Lb e) (hLb : Lb.length ≤ 100)
    (k : ∀ h' m' dv, Keep [L, D] h h' → h'.Ns L m' → (∀ y : Str, y ≠ "cut" → y ≠ "at" → m' y = m y) → (∃ t, m' "at" = some (.int e t)) → Lst h' D dv → Bts dv Lb → P .next h') :
    Ev (model pg3 w) A (exec (nth (subs (nth (subs (nth body 4)) 5)) 3) (envOf "law" scope L fa cd)) h P := by
  obtain ⟨rfl, rfl⟩ := Prod.mk.inj (Option.some.inj (show some (_, _) = some (body, scope) from hd))
  have lL := ltN hn
  have lD := qd.lt
  have lLn := ql.lt
  refine Ev.while (fun n h' => ∃ m' dv done rest a, n = rest.length ∧ Lb = done ++ rest ∧ Keep [L, D] h h' ∧ h'.Ns L m' ∧ (∀ y : Str, y ≠ "cut" → y ≠ "at" → m' y = m y) ∧ (∃ t, m' "at" = some (.int (a : Nat) t)) ∧ Lst h' D dv ∧ Bts dv done ∧ ((rest = [] ∧ a = e) ∨ Take (nx3 ls (hh - 1)) a rest e))
    Lb.length ⟨m, [], [], Lb, at0, rfl, rfl, .refl _ _, hn, fun _ _ _ => rfl, ⟨_, hat⟩, qd, .nil, .inr tk⟩ ?_
  rintro n h1 ⟨m', dv, done, rest, a, rfl, e1, k1, hn1, f1, ⟨t1, a1⟩, d1, b1, alt⟩
  have he1 := (f1 "end" (by decide) (by decide)).trans hen
  refine Ev.isTrue1 (Ev.local hn1 a1 (Ev.local hn1 he1 (Ev.lt_int ⟨_, rfl, ?_⟩)))
  rcases alt with ⟨rfl, rfl⟩ | tk1
  · rw [if_neg (by simp)]
    exact k h1 m' dv k1 hn1 f1 ⟨_, a1⟩ d1 (by rw [e1, List.append_nil]; exact b1)
  · have lt := Take.pos ls tk1
    rw [if_pos (by simpa using lt)]
    obtain ⟨b, s', rest', hb, hbz, e2, alt2⟩ := tk1.inv
    have hb1 : cat (sl ls a (en ls (hh - 1) a)) = b := congrArg Prod.fst hb
    have hb2 : en ls (hh - 1) a = s' := congrArg Prod.snd hb
    have st1 := st.keep k1 (all2 hgL hgD)
    have G1 := c.G.keeps st1
    have hh1 := (f1 "height" (by decide) (by decide)).trans hhe
    have hm1 := (f1 "marks" (by decide) (by decide)).trans hma
    have hl1 := (f1 "lines" (by decide) (by decide)).trans hli
    have hd1 := (f1 "due" (by decide) (by decide)).trans hdu
    -- cut = ..
    refine Ev.cons (Ev.assign ((?cut : Ev (model pg3 w) A _ h1 fun v h2 => (∃ t, v = .int (en ls (hh - 1) a : Nat) t) ∧ Keep [] h1 h2).mono ?go))
    case cut =>
      refine Ev.ifexp (Ev.isTrue1 (Ev.local hn1 hh1 (Ev.int fun t => Ev.gt_int ⟨_, rfl, ?_⟩)))
      by_cases q : 1 < hh
      · rw [if_pos (by simp; omega)]
        have ho := G1.X 74 _ rfl
        refine Ev.callN (Ev.global G1 rfl (Ev.items_cons (Ev.local hn1 hm1 (Ev.items_cons (Ev.local hn1 a1 (Ev.items_cons (Ev.binop (Ev.local hn1 hh1 (Ev.int fun t => Ev.sub_int fun t => Ev.items_nil ⟨keeper_fn ho rfl, Ev.call ?_⟩)))))))))
        have e3 : ((hh : Int) - 1) = ((hh - 1 : Nat) : Int) := by omega
        rw [e3]
        exact end3 c st1 (r.less (by omega)) (by omega) (by omega) (by omega)
      · rw [if_neg (by simp; omega)]
        have e3 : hh - 1 = 0 := by omega
        refine Ev.binop (Ev.local hn1 a1 (Ev.int fun t => Ev.add_int fun t => ⟨⟨t, ?_⟩, .refl _ _⟩))
        rw [e3, en_zero]
        rfl
    case go =>
      rintro v h2 ⟨⟨t2, rfl⟩, k2⟩
      rw [hb2]
      refine Ev.store (k2.ns hn1 (by simp)) fun h3 hn3 k3 => ?_
      have d3 := (d1.keep k2 (by simp)).keep k3 (ni hDL)
      have l3 := ((ql.keep k1 (ni2 hLL hLD)).keep k2 (by simp)).keep k3 (ni hLL)
      have hlv := bl.length
      have hdv := b1.length
      have hdone : done.length ≤ 100 := by rw [e1] at hLb; simp at hLb; omega
      -- due.append(b''.join(lines[at:cut]))
      refine Ev.cons (Ev.expr (Ev.callM (Ev.local hn3 ((upd_ne (by decide)).trans hd1) ⟨_, _, fun pl => getMethod_plain (fun g d tk os => d3.isList.typeIs) F.plainAttrs_list F.slot_list_append F.type_list_append
        (fun a e => by cases e; obtain ⟨n, q⟩ := d3; exact ⟨_, q, rfl⟩), Ev.items_cons (Ev.callM (Ev.bytes fun tb => ⟨_, _, fun pl => getMethod_plain (fun g d tk os => typeIs_bytes _ _ _) FB.plainAttrs_bytes slot_join type_join (fun a e => nomatch e), Ev.items_cons ?_⟩))⟩)))
      refine Ev.subscript (Ev.local hn3 ((upd_ne (by decide)).trans hl1) (Ev.slice (Ev.part_some (Ev.local hn3 ((upd_ne (by decide)).trans a1) (Ev.part_some (Ev.local hn3 upd_same (Ev.part_none fun h4 s4 k4 => ?_)))))))
      have l4 := l3.keep k4 (by simp)
      refine ⟨.lst l4, Ev.getSlice l4.isList s4 (.int _ _) (.int _ _) .none (by simp) (by omega) (pick_part lv a s') fun h5 q5 k5 z5 => Ev.items_nil ⟨keeper_builtin, ?_⟩⟩
      have bj : Bts ((lv.drop a).take (s' - a)) (sl ls a s') := (bl.drop a).take _
      have hcat : cat (sl ls a s') = b := by rw [← hb2]; exact hb1
      refine Ev.join q5 bj (by rw [hcat]; omega) fun tj => Ev.items_nil ⟨keeper_builtin, ?_⟩
      have d5 := (d3.keep k4 (by simp)).keep k5 (by simp)
      refine Ev.append d5 (by omega) fun h6 k6 q6 => ⟨rfl, ?_⟩
      have hn6 := k6.ns (k5.ns (k4.ns hn3 (by simp)) (by simp)) (ni hDL.symm)
      -- at = cut
      refine Ev.cons (Ev.assign (Ev.local hn6 upd_same (Ev.store hn6 fun h7 hn7 k7 => Ev.nil ?_)))
      rw [hcat] at q6
      refine ⟨rest'.length, by rw [e2]; simp, _, _, done ++ [b], rest', s', rfl, by rw [e1, e2]; simp, ?_, hn7, fun y y1 y2 => (upd_ne y2).trans ((upd_ne y1).trans (f1 y y1 y2)), ⟨_, upd_same⟩, q6.keep k7 (ni hDL), b1.append (.one _ _), ?_⟩
      · exact (((((k1.trans k2.nil).trans (k3.mono (by simp))).trans k4.nil).trans k5.nil).trans (k6.mono (by simp))).trans (k7.mono (by simp))
      · rcases alt2 with ⟨_, q1, q2⟩ | ⟨_, q1⟩
        · exact .inl ⟨q1, q2⟩
        · exact .inr q1
end
end Mine

namespace Mine
/-- names that stay -/
structure Same (m m' : Str → Option Value) : Prop where
  lines : m' "lines" = m "lines"
  marks : m' "marks" = m "marks"
  height : m' "height" = m "height"
  source : m' "source" = m "source"
  place : m' "place" = m "place"
theorem Same.upd {m m' : Str → Option Value} {x : Str} {v : Value} (s : Same m m') (h1 : (x : Str) ≠ "lines" := by decide) (h2 : (x : Str) ≠ "marks" := by decide) (h3 : (x : Str) ≠ "height" := by decide) (h4 : (x : Str) ≠ "source" := by decide) (h5 : (x : Str) ≠ "place" := by decide) : Same m (Mine.upd m' x v) :=
  ⟨(upd_ne h1.symm).trans s.lines, (upd_ne h2.symm).trans s.marks, (upd_ne h3.symm).trans s.height, (upd_ne h4.symm).trans s.source, (upd_ne h5.symm).trans s.place⟩
theorem natlt {a b : Nat} (x : a < b) : a < b := x
theorem Same.refl (m : Str → Option Value) : Same m m := ⟨rfl, rfl, rfl, rfl, rfl⟩
section
variable {w : World} {mg mb : Str → Option Value} {g0 : Heap} {A : Around} {hT : Heap} {body : List Stmt} {scope : Scope} {L fa : Addr} {cd : Value} {P : Flow → Heap → Prop}
set_option maxHeartbeats 4000000 in
/-- a tower is read -/
theorem loopC (hd : law3 = some (body, scope)) (c : Top3 w mg mb g0) (r : Room A 20) {m : Str → Option Value} {Ln Pl x : Addr} {X : List Addr} {lv : List Value} {ls : List Bs} {hh : Nat} {th ta tm tp : Tok} (g1 : 1 ≤ hh) (g2 : hh ≤ 4)
    (hn : hT.Ns L m) (st : Stay g0 hT) (hgL : g0.get? L = none) (hgP : g0.get? Pl = none) (hhe : m "height" = some (.int hh th)) (hli : m "lines" = some (.ref Ln)) (hma : m "marks" = some (.str (marks3 ls) tm)) (hso : m "source" = some (.ref x)) (hpl : m "place" = some (.ref Pl))
    (hat : m "at" = some (.int 0 ta)) (hed : m "ended" = some (.bool false)) (ql : Lst hT Ln lv) (bl : Bts lv ls) (hz : ls.length ≤ 68) (gd : Good ls) (hLX0 : Ln ∉ X) (hPX : Pl ∈ X) (hLX : L ∈ X) (hPL : Pl ≠ L) (hPlt : (Pl : Nat) < hT.objs.size) (hLP : Ln ≠ Pl) (hLL : Ln ≠ L)
    (T : Tower w mg mb g0 Ln Pl X hT (hh - 1) x) (pl : hT.IsList Pl #[.int 0 tp])
    (k : ∀ h' m', Keep [Pl, L] hT h' → h'.Ns L m' → Same m m' → Stay g0 h' → P .next h') :
    Ev (model pg3 w) A (exec (nth (subs (nth body 4)) 5) (envOf "law" scope L fa cd)) hT P := by
  have sr := tower_src c ql bl hz gd.sz gd.firm hLX0 hPX hLX hPL hPlt hgP hgL st (by omega : hh - 1 ≤ 10) T
  have lL := ltN hn
  have lLn := ql.lt
  have lP := natlt hPlt
  have hd' := hd
  obtain ⟨rfl, rfl⟩ := Prod.mk.inj (Option.some.inj (show some (_, _) = some (body, scope) from hd))
  refine Ev.while (fun n h' => ∃ m' a ended, n = (if ended = true then 0 else ls.length - a + 1) ∧ Keep [Pl, L] hT h' ∧ h'.Ns L m' ∧ Same m m' ∧ (∃ t, m' "at" = some (.int (a : Nat) t)) ∧ m' "ended" = some (.bool ended) ∧ St3 g0 Pl X hT a h')
    (ls.length - 0 + 1) ⟨m, 0, false, rfl, .refl _ _, hn, .refl _, ⟨_, hat⟩, hed, .refl _ _, st, tp, pl⟩ ?_
  rintro n h1 ⟨m1, a, ended, rfl, k1, hn1, sm1, ⟨t1, a1⟩, e1, s1⟩
  refine Ev.isTrue_not (Ev.isTrue_bool (Ev.local hn1 e1 ⟨_, rfl, ?_⟩))
  have st1 : Stay g0 h1 := s1.2.1
  cases ended with
  | true =>
    rw [if_neg (by decide)]
    exact k h1 m1 k1 hn1 sm1 st1
  | false =>
    rw [if_pos (by decide)]
    have G1 := c.G.keeps st1
    have q1 := ql.keep k1 (ni2 hLP hLL)
    have hlv := bl.length
    -- ended = at >= len(lines)
    refine Ev.cons (Ev.assign (Ev.compare1 (Ev.local hn1 a1 (Ev.callN (Ev.builtin G1 rfl rfl (Ev.items_cons (Ev.local hn1 (sm1.lines.trans hli) (Ev.items_nil ⟨keeper_builtin, Ev.len_list q1 (by omega) fun t => Ev.ge_int (Ev.store hn1 fun h2 hn2 k2 => ?_)⟩))))))))
    have s2 := sr.keep s1 k2 (all1 (.inl rfl))
    have kk2 : Keep [Pl, L] hT h2 := k1.trans (k2.mono (by simp))
    have sm2 := sm1.upd (x := "ended") (v := .bool (decide ((lv.length : Int) ≤ a)))
    have st2 : Stay g0 h2 := s2.2.1
    have G2 := c.G.keeps st2
    have ho := G2.X 74 _ rfl
    -- end = _law_end(marks, at, height)
    refine Ev.cons (Ev.assign (Ev.callN (Ev.global G2 rfl (Ev.items_cons (Ev.local hn2 (sm2.marks.trans hma) (Ev.items_cons (Ev.local hn2 ((upd_ne (by decide)).trans a1) (Ev.items_cons (Ev.local hn2 (sm2.height.trans hhe) (Ev.items_nil ⟨keeper_fn ho rfl, Ev.call ((end3 c st2 (r.less (by omega)) (ls := ls) (at0 := a) (hh := hh) (by omega) (by omega) (by omega)).mono ?_)⟩))))))))))
    rintro v h3 ⟨⟨t3, rfl⟩, k3⟩
    refine Ev.store (k3.ns hn2 (by simp)) fun h4 hn4 k4 => ?_
    have s4 := sr.keep (sr.keep s2 k3 all0) k4 (all1 (.inl rfl))
    have kk4 : Keep [Pl, L] hT h4 := (kk2.trans k3.nil).trans (k4.mono (by simp))
    have sm4 := sm2.upd (x := "end") (v := .int (en ls hh a : Nat) t3)
    -- due = []
    refine Ev.cons (Ev.assign (Ev.list (Ev.items_nil ⟨by simp, fun h5 q5 k5 z5 => Ev.store (k5.ns hn4 (by simp)) fun h6 hn6 k6 => ?_⟩)))
    have s6 := sr.keep (sr.keep s4 k5 all0) k6 (all1 (.inl rfl))
    have kk6 : Keep [Pl, L] hT h6 := (kk4.trans k5.nil).trans (k6.mono (by simp))
    have sm6 := sm4.upd (x := "due") (v := .ref h4.objs.size)
    have zz4 := kk4.size
    have q6 := q5.keep k6 (ni (by omega))
    have st6 : Stay g0 h6 := s6.2.1
    obtain ⟨Lb, tk, l1, l2⟩ := takes ls gd.firm gd.sz (by omega) (hh - 1) _ a rfl
    have e2 : hh - 1 + 1 = hh := by omega
    rw [e2] at tk l1 l2
    have l3 := en_le ls hh a
    -- while at < end
    refine Ev.cons (loopB hd' c r g1 g2 hn6 st6 hgL (st.none zz4) (Nat.ne_of_gt (by omega)) hLL (Nat.ne_of_lt (by omega)) (sm6.height.trans hhe) (sm6.lines.trans hli) (sm6.marks.trans hma) upd_same ((upd_ne (by decide)).trans ((upd_ne (by decide)).trans ((upd_ne (by decide)).trans a1))) ((upd_ne (by decide)).trans upd_same) (ql.keep kk6 (ni2 hLP hLL)) bl hz gd q6 tk (by omega) fun h7 m7 dv k7 hn7 f7 at7 d7 b7 => ?_)
    obtain ⟨t7, at7⟩ := at7
    have s7 := sr.keep s6 k7 (all2 (.inl rfl) (.inr zz4))
    have kk7 : Keep [Pl, L] hT h7 := kk6.then k7 (all2 (.inl (by simp)) (.inr zz4))
    have sm7 : Same m m7 := ⟨(f7 "lines" (by decide) (by decide)).trans sm6.lines, (f7 "marks" (by decide) (by decide)).trans sm6.marks, (f7 "height" (by decide) (by decide)).trans sm6.height, (f7 "source" (by decide) (by decide)).trans sm6.source, (f7 "place" (by decide) (by decide)).trans sm6.place⟩
    have st7 : Stay g0 h7 := s7.2.1
    have G7 := c.G.keeps st7
    have ho7 := G7.X 21 _ rfl
    have lD := d7.lt
    have ed7 : m7 "ended" = some (.bool (decide ((lv.length : Int) ≤ a))) := (f7 "ended" (by decide) (by decide)).trans ((upd_ne (by decide)).trans ((upd_ne (by decide)).trans upd_same))
    have du7 : m7 "due" = some (.ref h4.objs.size) := (f7 "due" (by decide) (by decide)).trans upd_same
    -- if _read_headers(source) != due or place[0] != at
    refine Ev.cons (Ev.ite (Ev.isTrue_or2 (Ev.isTrue1 (Ev.callN (Ev.global G7 rfl (Ev.items_cons (Ev.local hn7 (sm7.source.trans hso) (Ev.items_nil ⟨keeper_fn ho7 rfl, Ev.call ((read_headers3 sr tk (by omega) s7 (r.less (by omega))).mono ?_)⟩))))))))
    rintro v h8 ⟨y, ys, rfl, ly, q8, b8, k8, s8⟩
    have hn8 := k8.ns hn7 (ni hPL.symm)
    have d8 := d7.keep k8 (ni (by omega))
    have kk8 : Keep [Pl, L] hT h8 := kk7.trans (k8.mono (by simp))
    have st8 : Stay g0 h8 := s8.2.1
    obtain ⟨t8, p8⟩ := s8.2.2
    refine Ev.local hn8 du7 (Ev.ne_lists q8 d8 b8 b7 (by have := r.line; omega) rfl ⟨_, rfl, ?_⟩)
    rw [if_neg (by decide)]
    refine Ev.isTrue1 (Ev.subscript (Ev.local hn8 (sm7.place.trans hpl) (Ev.int fun t => ⟨.isList p8, Ev.getItem_list (vs := [.int (en ls hh a : Nat) t8]) p8 (by decide) rfl (by simp) (Ev.local hn8 at7 (Ev.ne_int ⟨_, rfl, ?_⟩))⟩)))
    rw [if_neg (by simp)]
    refine Ev.nil (Ev.nil ⟨_, ?_, m7, en ls hh a, _, rfl, kk8, hn8, sm7, ⟨_, at7⟩, ed7, s8⟩)
    have := en_lt ls hh a
    by_cases q : (lv.length : Int) ≤ a
    · rw [if_pos (by simpa using q)]
      simp
    · rw [if_neg (by simpa using q)]
      simp only [Bool.false_eq_true, if_false]
      omega
end
end Mine

namespace Mine
theorem lst_tab {h : Heap} {a b : Addr} {vs : List Value} {p : Pos} {q : Str} (x : Lst h a vs) (y : Tab h b p q) : a ≠ b := by
  rintro rfl
  obtain ⟨n, e⟩ := x
  obtain ⟨ps, e', _⟩ := y
  rw [e] at e'
  cases e'
theorem ns_tab {h : Heap} {a b : Addr} {m : Str → Option Value} {p : Pos} {q : Str} (x : h.Ns a m) (y : Tab h b p q) : a ≠ b := by
  rintro rfl
  obtain ⟨o, es, ep, e, hd, _⟩ := x
  obtain ⟨ps, e', _⟩ := y
  rw [e] at e'
  cases e'
  cases hd
theorem ni4 {a b c d e : Nat} (n1 : a ≠ b) (n2 : a ≠ c) (n3 : a ≠ d) (n4 : a ≠ e) : a ∉ [b, c, d, e] := by simp [n1, n2, n3, n4]
/-- a bytes literal -/
def bconst (x : List UInt8 × Pos) : Expr := .Constant (.bytes x.1) 0 x.2
theorem items_bconst {M : Model} {A : Around} {env : Env} {pos : Pos} {h : Heap} : ∀ (l : List (List UInt8 × Pos)) {P : List Value → Heap → Prop} (k : ∀ vs, Bts vs (l.map fun x => x.1.toArray) → P vs h), Ev M A (spliced (backTo pos (starEach (l.map bconst) env))) h P
  | [], P, k => Ev.items_nil (k _ .nil)
  | (i, p) :: l, P, k => Ev.items_cons (e := .Constant (.bytes i) 0 p) (Ev.bytes fun t => items_bconst l fun vs b => k _ (.cons b))
theorem sw_List {elts : List Expr} {p : Pos} {t : Option Expr} {l : Nat} {env : Env} : swapsWith (.List elts p) t l env = Pure.pure false := rfl
/-- a list of bytes literals is laid under a name -/
theorem Ev.assignBytes {prog : Program} {w : World} {A : Around} {h : Heap} {env : Env} {L : Addr} {x : Str} {p0 p1 p2 : Pos} {l : List (List UInt8 × Pos)} {bs : List Bs} {m : Str → Option Value} {P : Flow → Heap → Prop} (e : l.map (fun x => x.1.toArray) = bs) (hz : bs.length ≤ 16777216) (hn : h.Ns L m)
    (hL : env.locals = L) (hk : env.scope.kind = .function) (hl : env.kindOf x = some .local)
    (k : ∀ vs h1 h2, Bts vs bs → Lst h1 h.objs.size vs → Keep [] h h1 → h1.objs.size = h.objs.size + 1 → h2.Ns L (upd m x (.ref h.objs.size)) → Keep [L] h1 h2 → P .next h2) :
    Ev (model prog w) A (exec (.Assign [.Name x p0] (.List (l.map bconst) p1) p2) env) h P := by
  subst e
  exact Ev.assign (hs := sw_List) (Ev.list (items_bconst l fun vs b => ⟨by rw [b.length]; exact hz, fun h1 q1 k1 z1 => Ev.store (k1.ns hn (by simp)) (hL := hL) (hk := hk) (hl := hl) fun h2 hn2 k2 => k vs h1 h2 b q1 k1 z1 hn2 k2⟩))
section
variable {w : World} {mg mb : Str → Option Value} {g0 : Heap} {A : Around} {h : Heap} {body : List Stmt} {scope : Scope} {L fa : Addr} {cd : Value} {P : Flow → Heap → Prop}
set_option maxHeartbeats 4000000 in
/-- the towers are read, one after the other -/
theorem loopE (hd : law3 = some (body, scope)) (c : Top3 w mg mb g0) (r : Room A 20) {m : Str → Option Value} {Ln : Addr} {lv : List Value} {ls : List Bs} {tm : Tok}
    (hn : h.Ns L m) (st : Stay g0 h) (hgL : g0.get? L = none) (hli : m "lines" = some (.ref Ln)) (hma : m "marks" = some (.str (marks3 ls) tm))
    (ql : Lst h Ln lv) (bl : Bts lv ls) (hz : ls.length ≤ 68) (gd : Good ls) (hLL : Ln ≠ L) (T1 : Tab h 62 p62 q62) (T2 : Tab h 55 p55 q55)
    (k : ∀ h' m', h'.Ns L m' → Stay g0 h' → Tab h' 62 p62 q62 → Tab h' 55 p55 q55 → Keep [L, 62, 55] h h' → P .next h') :
    Ev (model pg3 w) A (exec (nth body 4) (envOf "law" scope L fa cd)) h P := by
  have hd' := hd
  obtain ⟨rfl, rfl⟩ := Prod.mk.inj (Option.some.inj (show some (_, _) = some (body, scope) from hd))
  have G := c.G.keeps st
  have lL := ltN hn
  have lLn := ql.lt
  have hL62 : L ≠ 62 := ns_tab hn T1
  have hL55 : L ≠ 55 := ns_tab hn T2
  have hN62 : Ln ≠ 62 := lst_tab ql T1
  have hN55 : Ln ≠ 55 := lst_tab ql T2
  have l62 := (Plain.tab T1).lt
  have l55 := (Plain.tab T2).lt
  refine Ev.forRange r.handled (Ev.callN (Ev.builtin G rfl rfl (Ev.items_cons (Ev.int fun t => Ev.items_cons (Ev.int fun t => Ev.items_nil ⟨keeper_type, Ev.range2 fun h1 v1 k1 z1 q1 => ?_⟩)))))
  refine ⟨_, _, _, _, _, _, fun i h' => ∃ m', Keep [L, 62, 55] h h' ∧ h'.Ns L m' ∧ m' "lines" = m "lines" ∧ m' "marks" = m "marks" ∧ Lst h' Ln lv ∧ Tab h' 62 p62 q62 ∧ Tab h' 55 p55 q55 ∧ Stay g0 h' ∧ h1.objs.size < h'.objs.size, rfl, q1, by omega, by omega, by omega, ?_, ?_, ?_, ?_⟩
  · intro h2 k2 z2
    exact ⟨m, k1.nil.trans k2.nil, k2.ns (k1.ns hn (by simp)) (by simp), rfl, rfl, (ql.keep k1 (by simp)).keep k2 (by simp), (T1.keep k1 (by simp) all0).keep k2 (by simp) all0, (T2.keep k1 (by simp) all0).keep k2 (by simp) all0, (st.keep' k1).keep' k2, by omega⟩
  · rintro i h2 h3 it ⟨m', a1, a2, a3, a4, a5, a6, a7, a8, a9⟩ k3
    exact ⟨m', a1.then k3 (all1 (.inr (by omega))), k3.ns a2 (ni (by omega)), a3, a4, a5.keep k3 (ni (by omega)), a6.keep k3 (ni (by omega)) (all1 (Plain.range it).no), a7.keep k3 (ni (by omega)) (all1 (Plain.range it).no), a8.keep k3 (all1 (st.none (by omega))), Nat.lt_of_lt_of_le a9 k3.size⟩
  · rintro i tk h2 hi it ⟨m', a1, a2, a3, a4, a5, a6, a7, a8, a9⟩
    have hi4 : i < 4 := by omega
    rw [show (1 : Int) + (i : Int) = ((i + 1 : Nat) : Int) by omega]
    unfold Turn
    refine Ev.store a2 fun h3 hn3 k3 => ?_
    have st3 := a8.keep k3 (all1 hgL)
    -- place = [0]
    refine Ev.cons (Ev.assign (Ev.list (Ev.items_cons (Ev.int fun tp => Ev.items_nil ⟨by simp, fun h4 q4 k4 z4 => Ev.store (k4.ns hn3 (by simp)) fun h5 hn5 k5 => ?_⟩))))
    have z3 := k3.size
    have lP : h3.objs.size < h4.objs.size := by omega
    have lL3 := ltN hn3
    have q5 := q4.keep k5 (ni (by omega))
    have st5 := (st3.keep' k4).keep k5 (all1 hgL)
    have hgP : g0.get? h3.objs.size = none := st3.none (Nat.le_refl _)
    have k25 : Keep [L] h2 h5 := (k3.trans k4.nil).trans k5
    have t15 := a6.keep k25 (ni hL62.symm) (all1 (.ns a2))
    have t25 := a7.keep k25 (ni hL55.symm) (all1 (.ns a2))
    have l5 := a5.keep k25 (ni hLL)
    have G5 := c.G.keeps st5
    have ho := G5.X 67 _ rfl
    have z2 := a1.size
    -- source = _law_ground(lines, place)
    refine Ev.cons (Ev.assign (Ev.callN (Ev.global G5 rfl (Ev.items_cons (Ev.local hn5 ((upd_ne (by decide)).trans ((upd_ne (by decide)).trans (a3.trans hli))) (Ev.items_cons (Ev.local hn5 upd_same (Ev.items_nil ⟨keeper_fn ho rfl, Ev.call ((ground3 c [h3.objs.size, L, 55] (all3 (.isList q5.isList) (.ns hn5) (.tab t25)) (ni3 (by omega) hL62.symm (by decide)) (ni3 (by omega) hLL hN55) (Nat.ne_of_lt (by omega)) hgP st5 t15 (r.less (by omega))).mono ?_)⟩))))))))
    rintro v h6 ⟨x, rfl, k6, t16, rd6⟩
    refine Ev.store (k6.ns hn5 (ni hL62)) fun h7 hn7 k7 => ?_
    have hn6 := k6.ns hn5 (ni hL62)
    have st7 := (st5.keep k6 (all1 c.t1)).keep k7 (all1 hgL)
    have t17 := t16.keep k7 (ni hL62.symm) (all1 (.ns hn6))
    have t27 := (t25.keep k6 (ni (by decide)) (all1 (.tab t15))).keep k7 (ni hL55.symm) (all1 (.ns hn6))
    have q7 := (q5.keep k6 (ni (by omega))).keep k7 (ni (by omega))
    have k27 : Keep [L, 62] h2 h7 := ((k25.mono (by simp)).trans (k6.mono (by simp))).trans (k7.mono (by simp))
    have l7 := a5.keep k27 (ni2 hLL hN62)
    have T7 : Tower w mg mb g0 Ln h3.objs.size [h3.objs.size, L, 55] h7 0 x := fun h8 k8 => rd6 h8 ((k7.mono (all1 (by simp))).trans k8)
    -- for level in range(height - 1)
    refine Ev.cons (loopD hd' c r (hh := i + 1) (by omega) (by omega) hn7 st7 hgL hL55 ((upd_ne (by decide)).trans ((upd_ne (by decide)).trans upd_same)) upd_same T7 (.isList q7.isList) (Nat.ne_of_gt (by omega)) t27 (Nat.ne_of_gt (by omega)) fun h8 m8 y it8 k8 hn8 f8 s8 li8 lj8 T8 t28 st8 => ?_)
    have k28 : Keep [L, 62, 55] h2 h8 := (k27.mono (by simp)).trans (k8.mono (by simp))
    have z5 := k25.size
    have z67 := k6.size
    have z7 := k7.size
    have z8 := k8.size
    have z45 := k5.size
    have q8 := q7.keep k8 (ni2 (by omega) (by omega))
    have l8 := l7.keep k8 (ni2 hLL hN55)
    have t18 := t17.keep k8 (ni2 hL62.symm (by decide)) (all2 (.ns hn7) (.tab t27))
    -- at = 0
    refine Ev.cons (Ev.assign (Ev.int fun ta => Ev.store hn8 fun h9 hn9 k9 => ?_))
    -- ended = False
    refine Ev.cons (Ev.assign (Ev.bool (Ev.store hn9 fun hT hnT kT => ?_)))
    have k8T : Keep [L] h8 hT := k9.trans kT
    have stT := st8.keep k8T (all1 hgL)
    have qT := q8.keep k8T (ni (by omega))
    have lT := l8.keep k8T (ni hLL)
    have t1T := t18.keep k8T (ni hL62.symm) (all1 (.ns hn8))
    have t2T := t28.keep k8T (ni hL55.symm) (all1 (.ns hn8))
    have zT := k8T.size
    have nm : ∀ y : Str, y ≠ "level" → y ≠ "source" → y ≠ "at" → y ≠ "ended" → y ≠ "place" → y ≠ "height" → upd (upd m8 "at" (.int 0 ta)) "ended" (.bool false) y = m' y := fun y y1 y2 y3 y4 y5 y6 =>
      (upd_ne y4).trans ((upd_ne y3).trans ((f8 y y1 y2).trans ((upd_ne y2).trans ((upd_ne y5).trans (upd_ne y6)))))
    have nl := (nm "lines" (by decide) (by decide) (by decide) (by decide) (by decide) (by decide)).trans a3
    have nk := (nm "marks" (by decide) (by decide) (by decide) (by decide) (by decide) (by decide)).trans a4
    have nh : upd (upd m8 "at" (.int 0 ta)) "ended" (.bool false) "height" = some (.int ((i + 1 : Nat) : Int) tk) := (upd_ne (by decide)).trans ((upd_ne (by decide)).trans ((f8 "height" (by decide) (by decide)).trans ((upd_ne (by decide)).trans ((upd_ne (by decide)).trans upd_same))))
    have np : upd (upd m8 "at" (.int 0 ta)) "ended" (.bool false) "place" = some (.ref h3.objs.size) := (upd_ne (by decide)).trans ((upd_ne (by decide)).trans ((f8 "place" (by decide) (by decide)).trans ((upd_ne (by decide)).trans upd_same)))
    have ns : upd (upd m8 "at" (.int 0 ta)) "ended" (.bool false) "source" = some (.ref y) := (upd_ne (by decide)).trans ((upd_ne (by decide)).trans s8)
    -- while not ended
    refine Ev.cons (loopC hd' c r (hh := i + 1) (by omega) (by omega) hnT stT hgL hgP nh (nl.trans hli) (nk.trans hma) ns np ((upd_ne (by decide)).trans upd_same) upd_same lT bl hz gd (X := [h3.objs.size, L, 55, it8]) (ni4 (by omega) hLL hN55 (by omega)) (by simp) (by simp) (Nat.ne_of_gt (by omega)) (Nat.lt_of_lt_of_le lP (by omega)) (Nat.ne_of_lt (by omega)) hLL (T8.keep (k8T.mono (all1 (by simp)))) qT.isList fun hE mE kE hnE smE stE => Ev.nil ?_)
    have k2T : Keep [L, 62, 55] h2 hT := k28.trans (k8T.mono (by simp))
    have k2E : Keep [L, 62, 55] h2 hE := k2T.then kE (all2 (.inr (by omega)) (.inl (by simp)))
    refine ⟨⟨[L, 62, 55], k2E, all1 (ni3 (by omega) (by omega) (by omega))⟩, mE, a1.trans k2E, hnE, smE.lines.trans nl, smE.marks.trans nk, lT.keep kE (ni2 (by omega) hLL), t1T.keep kE (ni2 (by omega) hL62.symm) (all2 (.lst qT) (.ns hnT)), t2T.keep kE (ni2 (by omega) hL55.symm) (all2 (.lst qT) (.ns hnT)), stE, Nat.lt_of_lt_of_le a9 k2E.size⟩
  · rintro h2 ⟨m', a1, a2, a3, a4, a5, a6, a7, a8, a9⟩
    exact k h2 m' a2 a8 a6 a7 a1
theorem body3 (hd : law3 = some (body, scope)) : body = [nth body 0, nth body 1, nth body 2, nth body 3, nth body 4, nth body 5] := by
  obtain ⟨rfl, rfl⟩ := Prod.mk.inj (Option.some.inj (show some (_, _) = some (body, scope) from hd))
  rfl
theorem first3 (hd : law3 = some (body, scope)) : ∃ (l : List (List UInt8 × Pos)) (p0 p1 p2 : Pos), nth body 0 = .Assign [.Name "lines" p0] (.List (l.map bconst) p1) p2 ∧ l.map (fun x => x.1.toArray) = start3 := by
  obtain ⟨rfl, rfl⟩ := Prod.mk.inj (Option.some.inj (show some (_, _) = some (body, scope) from hd))
  exact ⟨[([97, 10], _), ([10], _), ([32, 10], _), ([13, 10], _), ([10], _)], _, _, _, rfl, rfl⟩
theorem third3 (hd : law3 = some (body, scope)) : ∃ (l : List (List UInt8 × Pos)) (p0 p1 p2 : Pos), nth body 2 = .Assign [.Name "near" p0] (.List (l.map bconst) p1) p2 ∧ l.map (fun x => x.1.toArray) = near3 := by
  obtain ⟨rfl, rfl⟩ := Prod.mk.inj (Option.some.inj (show some (_, _) = some (body, scope) from hd))
  exact ⟨[([100, 13, 10], _), ([32, 10], _), ([9, 13, 10], _), ([13, 13, 10], _), ([10, 10], _), ([11, 10], _), ([32], _), ([0], _)], _, _, _, rfl, rfl⟩
theorem kind3 (hd : law3 = some (body, scope)) : (envOf "law" scope L fa cd).scope.kind = .function ∧ (envOf "law" scope L fa cd).kindOf "lines" = some .local ∧ (envOf "law" scope L fa cd).kindOf "near" = some .local := by
  obtain ⟨-, rfl⟩ := Prod.mk.inj (Option.some.inj (show some (_, _) = some (body, scope) from hd))
  exact ⟨rfl, rfl, rfl⟩
theorem lines3 (hd : law3 = some (body, scope)) {m : Str → Option Value} {P : Flow → Heap → Prop} (hn : h.Ns L m)
    (k : ∀ vs h1 h2, Bts vs start3 → Lst h1 h.objs.size vs → Keep [] h h1 → h1.objs.size = h.objs.size + 1 → h2.Ns L (upd m "lines" (.ref h.objs.size)) → Keep [L] h1 h2 → P .next h2) :
    Ev (model pg3 w) A (exec (nth body 0) (envOf "law" scope L fa cd)) h P := by
  obtain ⟨l, p0, p1, p2, e, eb⟩ := first3 hd
  have kd := kind3 (L := L) (fa := fa) (cd := cd) hd
  rw [e]
  exact Ev.assignBytes eb (by decide) hn rfl kd.1 kd.2.1 k
theorem nears3 (hd : law3 = some (body, scope)) {m : Str → Option Value} {P : Flow → Heap → Prop} (hn : h.Ns L m)
    (k : ∀ vs h1 h2, Bts vs near3 → Lst h1 h.objs.size vs → Keep [] h h1 → h1.objs.size = h.objs.size + 1 → h2.Ns L (upd m "near" (.ref h.objs.size)) → Keep [L] h1 h2 → P .next h2) :
    Ev (model pg3 w) A (exec (nth body 2) (envOf "law" scope L fa cd)) h P := by
  obtain ⟨l, p0, p1, p2, e, eb⟩ := third3 hd
  have kd := kind3 (L := L) (fa := fa) (cd := cd) hd
  rw [e]
  exact Ev.assignBytes eb (by decide) hn rfl kd.1 kd.2.2 k
theorem marksSt3 (hd : law3 = some (body, scope)) {m : Str → Option Value} {P : Flow → Heap → Prop} (hn : h.Ns L m)
    (k : ∀ tm h2, h2.Ns L (upd m "marks" (.str (Str.ofString ".B.BB") tm)) → Keep [L] h h2 → P .next h2) :
    Ev (model pg3 w) A (exec (nth body 1) (envOf "law" scope L fa cd)) h P := by
  obtain ⟨rfl, rfl⟩ := Prod.mk.inj (Option.some.inj (show some (_, _) = some (body, scope) from hd))
  exact Ev.assign (Ev.str fun tm => Ev.store hn fun h3 hn3 k3 => k tm h3 hn3 k3)
theorem ret3 (hd : law3 = some (body, scope)) {P : Flow → Heap → Prop} (k : P (.ret (.bool true)) h) : Ev (model pg3 w) A (exec (nth body 5) (envOf "law" scope L fa cd)) h P := by
  obtain ⟨rfl, rfl⟩ := Prod.mk.inj (Option.some.inj (show some (_, _) = some (body, scope) from hd))
  exact Ev.ret (Ev.bool k)
set_option maxHeartbeats 4000000 in
/-- the law's body -/
theorem walk3 (hd : law3 = some (body, scope)) (c : Top3 w mg mb g0) (r : Room A 20) {m : Str → Option Value} {scr : Addr} {vs : List Value} {ns : List Int} {P : Flow → Heap → Prop}
    (hn : h.Ns L m) (st : Stay g0 h) (hgL : g0.get? L = none) (hs : m "script" = some (.ref scr)) (hsl : g0.IsList scr vs.toArray) (hvs : IntsAre vs ns) (hlen : vs.length ≤ 63) (T1 : Tab h 62 p62 q62) (T2 : Tab h 55 p55 q55)
    (k : ∀ h' m', h'.Ns L m' → Stay g0 h' → Tab h' 62 p62 q62 → Tab h' 55 p55 q55 → Keep [L, 62, 55] h h' → P (.ret (.bool true)) h') :
    Ev (model pg3 w) A (execs body (envOf "law" scope L fa cd)) h P := by
  rw [body3 hd]
  have lL := ltN hn
  have hL62 : L ≠ 62 := ns_tab hn T1
  have hL55 : L ≠ 55 := ns_tab hn T2
  have l62 := (Plain.tab T1).lt
  have l55 := (Plain.tab T2).lt
  refine Ev.cons (lines3 hd hn fun lv0 h1 h2 c1 q1 k1 z1 hn2 k2 => ?_)
  refine Ev.cons (marksSt3 hd hn2 fun tm h3 hn3 k3 => ?_)
  refine Ev.cons (nears3 hd hn3 fun nv0 h4 h5 c4 q4 k4 z4 hn5 k5 => ?_)
  have z2 := k2.size
  have z3 := k3.size
  have z5 := k5.size
  have q3 := (q1.keep k2 (ni (by omega))).keep k3 (ni (by omega))
  have q5 := (q3.keep k4 (by simp)).keep k5 (ni (by omega))
  have n5 := q4.keep k5 (ni (by omega))
  have k05 : Keep [L] h h5 := (((k1.nil.trans k2).trans k3).trans k4.nil).trans k5
  have st5 := st.keep k05 (all1 hgL)
  have hma : upd (upd (upd m "lines" (.ref h.objs.size)) "marks" (.str (Str.ofString ".B.BB") tm)) "near" (.ref h3.objs.size) "marks" = some (.str (marks3 start3) tm) := by rw [upd_ne (by decide), upd_same, marks_start]
  refine Ev.cons (loop1 hd c r hn5 st5 hgL ((upd_ne (by decide)).trans ((upd_ne (by decide)).trans ((upd_ne (by decide)).trans hs))) hsl hvs hlen ((upd_ne (by decide)).trans ((upd_ne (by decide)).trans upd_same)) hma upd_same q5 c1 n5 c4
    (Nat.ne_of_gt (by omega)) (Nat.ne_of_gt (by omega)) (Nat.ne_of_lt (by omega)) (st.none (Nat.le_refl _)) fun h6 m6 lv ls k6 hn6 li6 ma6 q6 b6 hz gd => ?_)
  obtain ⟨tm6, ma6⟩ := ma6
  have k06 : Keep [L] h h6 := k05.then k6 (all2 (.inl (by simp)) (.inr (Nat.le_refl _)))
  have st6 := st.keep k06 (all1 hgL)
  have T16 := T1.keep k06 (ni hL62.symm) (all1 (.ns hn))
  have T26 := T2.keep k06 (ni hL55.symm) (all1 (.ns hn))
  refine Ev.cons (loopE hd c r hn6 st6 hgL li6 ma6 q6 b6 hz gd (Nat.ne_of_gt (by omega)) T16 T26 fun h7 m7 hn7 st7 t17 t27 k7 => ?_)
  exact Ev.cons (ret3 hd (k h7 m7 hn7 st7 t17 t27 ((k06.mono (by simp)).trans k7)))
end
end Mine

namespace Mine
theorem close3 {w : World} {s₁ : Shared} {tk : Nat} {g0 h₁ : Heap} {L fa scr : Addr} {cd : Value} {mg mb : Str → Option Value} {vs : List Value} {ns : List Int} {p : Program} {loose : List Str} {mean : ExcName → Option Value} {body : List Stmt} {scope : Scope}
    {Q : Flow → Shared → Prop} {E : Value → Shared → Prop} (hd : law3 = some (body, scope)) (X : (Mine.hd03.heap_39 w.params).In g0) (T : Top p loose mean mg mb g0) (F : Fr g0 L h₁ (fun x => List.lookup x [((Str.ofString "script"), Value.ref scr)])) (C1 : CodeHd g0 66 62) (C2 : CodeHd g0 59 55)
    (N : News g0 L h₁ [(62, tabObj #[]), (55, tabObj #[])]) (l : g0.IsList scr vs.toArray) (hI : IntsAre vs ns) (hc : ¬ ((63 : Int) < ns.length))
    (hQ : ∀ h' tk', Stay g0 h' → GrownAt 62 h' → GrownAt 55 h' → Q (.ret (.bool true)) { s₁ with heap := h', toks := tk' }) :
    wpAny (model pg3 w) (callerA.deeper (envOf "law" scope L fa cd)) (execs body (envOf "law" scope L fa cd)) Q E { s₁ with heap := h₁, toks := tk } := by
  have n1 := N _ (.head _)
  have n2 := N _ (.tail _ (.head _))
  have hlen : vs.length ≤ 63 := by rw [hI.length]; omega
  refine (walk3 (P := fun f h' => f = .ret (.bool true) ∧ Stay g0 h' ∧ GrownAt 62 h' ∧ GrownAt 55 h') hd ⟨⟨X, T.g, T.b, T.nolimit, T.builtins, T.bmain⟩, C1, C2, n1.2.2, n2.2.2⟩ ⟨rfl, of_decide_eq_true rfl, of_decide_eq_true rfl⟩ F.ns F.keep (Heap.get?_none_of_le F.above) rfl l hI hlen ⟨#[], n1.1, .inl rfl⟩ ⟨#[], n2.1, .inl rfl⟩ fun h' m' _ st t1 t2 _ => ⟨rfl, st, let ⟨ps, e, _⟩ := t1; ⟨ps, e⟩, let ⟨ps, e, _⟩ := t2; ⟨ps, e⟩⟩).wp ?_
  rintro v h' tk' ⟨rfl, st, t1, t2⟩
  exact hQ h' tk' st t1 t2
end Mine
set_option maxHeartbeats 8000000 in
theorem PySem.Challenge.cw_dm0149_03_holds : PySem.Challenge.rw_dm0149_03.Holds := by
  refine Mine.hd03 ?_
  k_go0
  refine @Mine.close3 _ _ _ _ _ _ _ _ _ _ _ _ _ _ _ _ _ _ _ _ rfl (by assumption) (by assumption) (by assumption) (by assumption) (by assumption) (by assumption) (by assumption) (by assumption) (by assumption) ?_
  intro h' tk' st g1 g2
  refine ⟨⟨.inl ⟨_, .bool true, [], rfl, fun _ => rfl, .bool true, (by wrow_post), fun _ => ⟨List.nodup_nil, fun _ q => nomatch q⟩⟩, st, rfl, by assumption⟩, g1, g2, trivial⟩
