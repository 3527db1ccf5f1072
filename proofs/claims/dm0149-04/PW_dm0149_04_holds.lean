import PyProof.Rows.All
import Wide.All
import OpenK.AllK
import Wide.FinOn
import PySem.Challenge.RW_dm0149_04
open PySem PySem.W PyProof.Rows PySem.Calls
set_option Elab.async false
set_option maxRecDepth 100000
set_option linter.unusedVariables false

namespace Mine

/-- from heap h the tree ends well: value v and heap h' in P; nothing else of the state turns but the tokens -/
def Ev {α : Type} (M : Model) (A : Around) (t : Sem α) (h : Heap) (P : α → Heap → Prop) : Prop :=
  ∀ g d tk os, wpAny M A t (fun v s' => ∃ h' tk', s' = ⟨h', g, d, tk', os⟩ ∧ P v h') (fun _ _ => False) ⟨h, g, d, tk, os⟩

/-- the same of a code that is run to its return -/
def EvC (M : Model) (A : Around) (c : Code) (h : Heap) (P : Value → Heap → Prop) : Prop :=
  ∀ g d tk os, codeAny M A c (fun r s' => ∃ v h' tk', r = .ok (.ret v) ∧ s' = ⟨h', g, d, tk', os⟩ ∧ P v h') ⟨h, g, d, tk, os⟩

section
variable {α β : Type} {M : Model} {A : Around} {h : Heap}

theorem Ev.wp {t : Sem α} {P : α → Heap → Prop} (e : Ev M A t h P) {g d tk os} {Q : α → Shared → Prop} {E : Value → Shared → Prop}
    (k : ∀ v h' tk', P v h' → Q v ⟨h', g, d, tk', os⟩) : wpAny M A t Q E ⟨h, g, d, tk, os⟩ :=
  wpAny_mono (e g d tk os) (fun v s' ⟨h', tk', hs, p⟩ => hs ▸ k v h' tk' p) fun _ _ x => x.elim

theorem Ev.mono {t : Sem α} {P P' : α → Heap → Prop} (e : Ev M A t h P) (k : ∀ v h', P v h' → P' v h') : Ev M A t h P' :=
  fun _ _ _ _ => e.wp fun v h' tk' p => ⟨h', tk', rfl, k v h' p⟩

theorem Ev.pure {a : α} {P : α → Heap → Prop} (k : P a h) : Ev M A (pure a) h P := fun _ _ tk _ => wpAny_pure ⟨h, tk, rfl, k⟩
theorem Ev.bind {m : Sem α} {f : α → Sem β} {P : β → Heap → Prop} (e : Ev M A m h fun a h' => Ev M A (f a) h' P) : Ev M A (m >>= f) h P :=
  fun _ _ _ _ => wpAny_bind (e.wp fun v h' tk' p => p _ _ tk' _)
theorem Ev.of_eq {t : Sem α} {a : α} {P : α → Heap → Prop} (e : t = Pure.pure a) (k : P a h) : Ev M A t h P := e ▸ Ev.pure k
theorem Ev.congr {t t' : Sem α} {P : α → Heap → Prop} (e : t = t') (k : Ev M A t' h P) : Ev M A t h P := e ▸ k
theorem Ev.holding {vs : List Value} {m : Sem α} {P : α → Heap → Prop} (e : Ev M A m h P) : Ev M A (holding vs m) h P := fun g d tk os => wpAny_holding (e g d tk os)
theorem Ev.standAt {p : Pos} {P : Unit → Heap → Prop} (k : P () h) : Ev M A (standAt p) h P := fun _ _ tk _ => wpAny_standAt ⟨h, tk, rfl, k⟩
theorem Ev.point {P : Unit → Heap → Prop} (k : P () h) : Ev M A point h P := fun _ _ tk _ => wpAny_point ⟨h, tk, rfl, k⟩
theorem Ev.call {f : Value} {pos : List Value} {kw : List (Str × Value)} {P : Value → Heap → Prop} (e : EvC M A (.call f ⟨pos, kw⟩) h P) : Ev M A (call f pos kw) h P :=
  fun g d tk os => wpAny_call (codeAny_mono (e g d tk os) fun r s' ⟨v, h', tk', hr, hs, p⟩ => by subst hr; exact ⟨h', tk', hs, p⟩)
theorem EvC.mono {c : Code} {P P' : Value → Heap → Prop} (e : EvC M A c h P) (k : ∀ v h', P v h' → P' v h') : EvC M A c h P' :=
  fun g d tk os => codeAny_mono (e g d tk os) fun _ _ ⟨v, h', tk', hr, hs, p⟩ => ⟨v, h', tk', hr, hs, k v h' p⟩
/-- a rule of the library's, laid over a tree -/
theorem Ev.of {t : Sem α} {P : α → Heap → Prop}
    (k : ∀ g d tk os (Q : α → Shared → Prop), (∀ v h' tk', P v h' → Q v ⟨h', g, d, tk', os⟩) → wpAny M A t Q (fun _ _ => False) ⟨h, g, d, tk, os⟩) : Ev M A t h P :=
  fun g d tk os => k g d tk os _ fun _ h' tk' p => ⟨h', tk', rfl, p⟩
end

/-! heaps -/
structure Keep (S : List Addr) (h h' : Heap) : Prop where
  size : h.objs.size ≤ h'.objs.size
  get : ∀ a o, a ∉ S → h.get? a = some o → h'.get? a = some o
def Stay (g h : Heap) : Prop := ∀ a o, g.get? a = some o → h.get? a = some o

section
variable {S S' : List Addr} {h h' h'' g : Heap} {a L : Addr} {o : Obj} {m : Str → Option Value}
theorem Keep.refl (S : List Addr) (h : Heap) : Keep S h h := ⟨Nat.le_refl _, fun _ _ _ e => e⟩
theorem Keep.trans (x : Keep S h h') (y : Keep S h' h'') : Keep S h h'' := ⟨Nat.le_trans x.size y.size, fun a o n e => y.get a o n (x.get a o n e)⟩
theorem Keep.mono (x : Keep S h h') (k : ∀ a ∈ S, a ∈ S') : Keep S' h h' := ⟨x.size, fun a o n e => x.get a o (fun q => n (k a q)) e⟩
/-- what is turned beside S is new -/
theorem Keep.less (x : Keep S' h h') (k : ∀ a ∈ S', a ∈ S ∨ h.objs.size ≤ a) : Keep S h h' :=
  ⟨x.size, fun a o n e => x.get a o (fun q => (k a q).elim n fun l => absurd (Heap.lt_size e) (Nat.not_lt.mpr l)) e⟩
theorem Keep.then (x : Keep S h h') (y : Keep S' h' h'') (k : ∀ a ∈ S', a ∈ S ∨ h.objs.size ≤ a) : Keep S h h'' :=
  ⟨Nat.le_trans x.size y.size, fun a o n e => y.get a o (fun q => (k a q).elim n fun l => absurd (Heap.lt_size e) (Nat.not_lt.mpr l)) (x.get a o n e)⟩
theorem Keep.thenN (x : Keep S h h') (y : Keep S' h' h'') (k : ∀ a ∈ S', a ∈ S ∨ h.get? a = none) : Keep S h h'' :=
  ⟨Nat.le_trans x.size y.size, fun a o n e => y.get a o (fun q => (k a q).elim n fun l => by rw [l] at e; cases e) (x.get a o n e)⟩
theorem Keep.none (x : Keep S h h') {b : Addr} (e : h'.get? b = none) (n : b ∉ S) : h.get? b = .none := by
  cases q : h.get? b with
  | none => rfl
  | some o => rw [x.get b o n q] at e; cases e
theorem Keep.push (h : Heap) (o : Obj) : Keep [] h (h.push o) := ⟨by rw [Heap.size_push]; omega, fun _ _ _ e => Heap.get?_push_of_some _ e⟩
theorem Keep.of_sameBut (x : Heap.SameBut a h h') : Keep [a] h h' := ⟨Nat.le_of_eq x.1.symm, fun b o n e => (x.2 b fun q => n (by rw [q]; exact .head _)).trans e⟩
theorem Keep.update (h : Heap) (a : Addr) (f : Obj → Obj) : Keep [a] h (h.update a f) := .of_sameBut (.update h a f)
theorem Keep.ns (x : Keep S h h') (n : h.Ns L m) (hL : L ∉ S) : h'.Ns L m := let ⟨o, es, ep, ho, r⟩ := n; ⟨o, es, ep, x.get _ _ hL ho, r⟩
theorem Keep.all (x : Keep [] h h') : ∀ b o, h.get? b = some o → h'.get? b = some o := fun b o e => x.get b o List.not_mem_nil e
theorem Keep.nil (x : Keep [] h h') : Keep S h h' := x.mono fun _ q => nomatch q
theorem Stay.refl (h : Heap) : Stay h h := fun _ _ e => e
theorem Stay.keep (s : Stay g h) (x : Keep S h h') (k : ∀ a ∈ S, g.get? a = none) : Stay g h' :=
  fun a o e => x.get a o (fun q => by rw [k a q] at e; cases e) (s a o e)
theorem Stay.keep' (s : Stay g h) (x : Keep [] h h') : Stay g h' := s.keep x fun _ q => nomatch q
theorem Stay.none (s : Stay g h) {a : Nat} (l : h.objs.size ≤ a) : g.get? a = .none := by
  cases q : g.get? a with
  | none => rfl
  | some o => exact absurd (Heap.lt_size (s _ _ q)) (Nat.not_lt.mpr l)
theorem ne_some {h : Heap} {a b : Addr} {o : Obj} (x : h.get? a = .none) (y : h.get? b = some o) : a ≠ b := fun q => by rw [q, y] at x; cases x
theorem ne_ns {h : Heap} {a L : Addr} {m : Str → Option Value} (x : h.get? a = .none) (y : h.Ns L m) : a ≠ L := let ⟨_, _, _, e, _⟩ := y; ne_some x e
theorem get_none (hs : g.objs.size ≤ a) : g.get? a = none := Heap.get?_none_of_le hs
end

theorem ni {a L : Nat} (n : a ≠ L) : a ∉ [L] := by simpa using n
theorem ni2 {a b c : Nat} (n1 : a ≠ b) (n2 : a ≠ c) : a ∉ [b, c] := by simp [n1, n2]
theorem ni3 {a b c d : Nat} (n1 : a ≠ b) (n2 : a ≠ c) (n3 : a ≠ d) : a ∉ [b, c, d] := by simp [n1, n2, n3]
theorem all2 {b c : Nat} {P : Nat → Prop} (p : P b) (q : P c) : ∀ a ∈ [b, c], P a := fun a h => by
  rcases List.mem_cons.mp h with rfl | h
  · exact p
  · rw [List.mem_singleton.mp h]; exact q
theorem all1 {L : Nat} {P : Nat → Prop} (p : P L) : ∀ a ∈ [L], P a := fun a q => by rw [List.mem_singleton.mp q]; exact p
theorem all0 {P : Nat → Prop} : ∀ a ∈ ([] : List Nat), P a := fun a q => nomatch q
theorem nis {a B : Nat} {S : List Nat} (low : ∀ b ∈ S, b < B) (l : B ≤ a) : a ∉ S := fun q => absurd (low a q) (by omega)
/-- the ground: the written part, the names of the module and of the built-ins -/
structure Gd (K : Frag) (mg mb : Str → Option Value) (h : Heap) : Prop where
  X : K.In h
  g : h.Ns mainGlobals mg
  b : h.Ns builtinsNs mb
  lim : h.NoLimit
  bi : ∀ x : Str, x ≠ "__name__" → mb x = bootBuiltins x
  bmain : ∃ bm ob, mg "__builtins__" = some (.ref bm) ∧ bm ≠ builtinsNs ∧ h.get? bm = some ob ∧ ob.cls = .type "module" ∧ ob.dict = some builtinsNs ∧ ob.data = .plain
theorem Gd.keeps {K : Frag} {mg mb : Str → Option Value} {h h' : Heap} (G : Gd K mg mb h) (s : Stay h h') : Gd K mg mb h' :=
  ⟨G.X.keeps s, G.g.keeps s, G.b.keeps s, G.lim.keeps s, G.bi, let ⟨bm, ob, h1, h2, h3, r⟩ := G.bmain; ⟨bm, ob, h1, h2, s _ _ h3, r⟩⟩

/-- room for k more calls -/
structure Room (A : Around) (k : Nat) : Prop where
  handled : A.handled = none
  depth : A.depth + k < 900
  units : A.units + 12 * k < 9000
theorem Room.here {A : Around} {k : Nat} (r : Room A (k + 1)) : A.depth < recursionLimit := by have := r.depth; simp only [recursionLimit]; omega
theorem Room.deeper {A : Around} {k : Nat} (r : Room A (k + 1)) (env : Env) : Room (A.deeper env) k := ⟨r.handled, by have := r.depth; show A.depth + 1 + k < 900; omega, by have := r.units; show A.units + 3 + 12 * k < 9000; omega⟩
theorem Room.less {A : Around} {k k' : Nat} (r : Room A k) (l : k' ≤ k) : Room A k' := ⟨r.handled, by have := r.depth; omega, by have := r.units; omega⟩
theorem Room.line {A : Around} {k : Nat} (r : Room A k) : A.units + 100 < cLine := by have := r.units; rw [cLine_is]; omega

/-- names -/
def upd (m : Str → Option Value) (x : Str) (v : Value) : Str → Option Value := fun y => if y = x then some v else m y
theorem upd_same {m : Str → Option Value} {x : Str} {v : Value} : upd m x v x = some v := if_pos rfl
theorem upd_ne {m : Str → Option Value} {x y : Str} {v : Value} (n : y ≠ x) : upd m x v y = m y := if_neg n

section
variable {M : Model} {A : Around} {h : Heap} {env : Env} {x : Str} {pos : Pos} {v : Value} {P : Value → Heap → Prop} {m mg mb : Str → Option Value} {K : Frag}
theorem Ev.local {L : Addr} (hn : h.Ns L m) (hv : m x = some v) (k : P v h) (hL : env.locals = L := by rfl) (hk : env.scope.kind = .function := by rfl) (hl : env.kindOf x = some .local := by rfl)
    (hd : (x == ("__debug__" : Str)) = false := by decide) : Ev M A (eval (.Name x pos) env) h P :=
  fun _ _ tk _ => wpAny_Name (wpAny_loadName_local hk hl (by rw [hL]; exact hn) hv ⟨h, tk, rfl, k⟩) hd
theorem Ev.free {c : Addr} (hc : env.cells.lookup x = some c) (hv : h.IsCell c (some v)) (k : P v h) (hk : env.scope.kind = .function := by rfl) (hl : env.kindOf x = some .free := by rfl)
    (hd : (x == ("__debug__" : Str)) = false := by decide) (hn : (x == ("__classdict__" : Str)) = false := by decide) : Ev M A (eval (.Name x pos) env) h P :=
  fun _ _ tk _ => wpAny_Name (wpAny_loadName_free hk hl hc hv ⟨h, tk, rfl, k⟩ hn) hd
theorem Ev.cell {c : Addr} (hc : env.cells.lookup x = some c) (hv : h.IsCell c (some v)) (k : P v h) (hk : env.scope.kind = .function := by rfl) (hl : env.kindOf x = some .cell := by rfl)
    (hd : (x == ("__debug__" : Str)) = false := by decide) : Ev M A (eval (.Name x pos) env) h P :=
  fun _ _ tk _ => wpAny_Name (wpAny_loadName_cell hk hl hc hv ⟨h, tk, rfl, k⟩) hd
theorem Ev.global (G : Gd K mg mb h) (e : nsIn K mainGlobals x = some (some v)) (k : P v h) (hg : env.globals = mainGlobals := by rfl) (hk : env.scope.kind = .function := by rfl)
    (hl : env.kindOf x = some .globalImplicit := by rfl) (hd : (x == ("__debug__" : Str)) = false := by decide) : Ev M A (eval (.Name x pos) env) h P :=
  fun _ _ tk _ => Name_function_global hk hl (loadGlobal_global (by rw [hg]; exact G.g) (mg_of G.X G.g e) ⟨h, tk, rfl, k⟩) hd
theorem Ev.builtin (G : Gd K mg mb h) (e : nsIn K mainGlobals x = some none) (hv : bootBuiltins x = some v) (k : P v h) (hx : x ≠ "__name__" := by decide) (hg : env.globals = mainGlobals := by rfl) (hb : env.builtins = builtinsNs := by rfl)
    (hk : env.scope.kind = .function := by rfl) (hl : env.kindOf x = some .globalImplicit := by rfl) (hd : (x == ("__debug__" : Str)) = false := by decide) : Ev M A (eval (.Name x pos) env) h P :=
  fun _ _ tk _ => Name_function_global hk hl (loadGlobal_builtin (by rw [hg]; exact G.g) (mg_none_of G.X G.g e) (by rw [hb]; exact G.b) ((G.bi x hx).trans hv) ⟨h, tk, rfl, k⟩) hd
theorem Ev.int {i : Int} {k0 : Nat} (k : ∀ t, P (.int i t) h) : Ev M A (eval (.Constant (.int i) k0 pos) env) h P := fun _ _ tk _ => wpAny_Constant_int ⟨h, _, rfl, k _⟩
theorem Ev.str {i : Str} {k0 : Nat} (k : ∀ t, P (.str i t) h) : Ev M A (eval (.Constant (.str i) k0 pos) env) h P := fun _ _ tk _ => wpAny_Constant_str ⟨h, _, rfl, k _⟩
theorem Ev.bool {i : Bool} {k0 : Nat} (k : P (.bool i) h) : Ev M A (eval (.Constant (.bool i) k0 pos) env) h P := fun _ _ tk _ => wpAny_Constant_bool ⟨h, tk, rfl, k⟩
theorem Ev.bytes {i : List UInt8} {k0 : Nat} (k : ∀ t, P (.bytes i.toArray t) h) : Ev M A (eval (.Constant (.bytes i) k0 pos) env) h P := fun _ _ tk _ => fun _ _ _ => ⟨h, _, rfl, k _⟩
end

section
variable {M : Model} {A : Around} {h : Heap} {env : Env} {P : Flow → Heap → Prop} {m : Str → Option Value} {x : Str} {pos pos' : Pos}
theorem Ev.store {v : Value} {L : Addr} {P : Unit → Heap → Prop} (hn : h.Ns L m) (k : ∀ h', h'.Ns L (upd m x v) → Keep [L] h h' → P () h') (hL : env.locals = L := by rfl) (hk : env.scope.kind = .function := by rfl)
    (hl : env.kindOf x = some .local := by rfl) : Ev M A (storeName env x v) h P := by
  subst hL
  exact fun _ _ _ _ => wpAny_storeName_local hl hn (fun h' hn' hs => ⟨h', _, rfl, k h' hn' (.of_sameBut hs)⟩) (by rw [hk]; rfl)
theorem Ev.nil (k : P .next h) : Ev M A (execs [] env) h P := fun _ _ tk _ => wpAny_execs_nil ⟨h, tk, rfl, k⟩
theorem Ev.cons {st : Stmt} {rest : List Stmt} (e : Ev M A (exec st env) h fun f h' => match f with | .next => Ev M A (execs rest env) h' P | f => P f h') : Ev M A (execs (st :: rest) env) h P :=
  fun g d tk os => wpAny_execs_cons (e.wp fun f h' tk' p => by
    cases f with
    | next => exact p g d tk' os
    | _ => exact ⟨h', tk', rfl, p⟩)
theorem Ev.assign {value : Expr} (e : Ev M A (eval value env) h fun v h' => Ev M A (storeName env x v) h' fun _ h'' => P .next h'')
    (hs : swapsWith value (some (.Name x pos')) pos.line env = Pure.pure false := by rfl) : Ev M A (exec (.Assign [.Name x pos'] value pos) env) h P :=
  fun g d tk os => wpAny_Assign_Name (e.wp fun v h' tk' p => p.wp fun _ h'' tk'' q => ⟨h'', tk'', rfl, q⟩) hs
theorem Ev.expr {e0 : Expr} (e : Ev M A (eval e0 env) h fun v h' => v = .none ∧ P .next h') (hi : interactive env = false := by rfl) (hs : swapsWith e0 none pos.line env = Pure.pure false := by rfl) :
    Ev M A (exec (.Expr e0 pos) env) h P :=
  fun g d tk os => wpAny_Expr (e.wp fun v h' tk' ⟨q, p⟩ => by subst q; exact ⟨h', tk', rfl, p⟩) hi hs
theorem Ev.ret {e0 : Expr} (e : Ev M A (eval e0 env) h fun v h' => P (.ret v) h') : Ev M A (exec (.Return (some e0) pos) env) h P :=
  fun g d tk os => wpAny_Return_some (e.wp fun v h' tk' p => ⟨h', tk', rfl, p⟩)
theorem Ev.brk (k : P .brk h) : Ev M A (exec (.Break pos) env) h P := fun _ _ tk _ => wpAny_Break ⟨h, tk, rfl, k⟩
theorem Ev.ite {test : Expr} {body orelse : List Stmt} (e : Ev M A (isTrue test env (eval test env)) h fun b h' => if b then Ev M A (execs body env) h' P else Ev M A (execs orelse env) h' P) :
    Ev M A (exec (.If test body orelse pos) env) h P :=
  fun g d tk os => wpAny_If (e.wp fun b h' tk' p => by cases b <;> exact p g d tk' os)
theorem Ev.ifexp {test body orelse : Expr} {P : Value → Heap → Prop} (e : Ev M A (isTrue test env (eval test env)) h fun b h' => if b then Ev M A (eval body env) h' P else Ev M A (eval orelse env) h' P) :
    Ev M A (eval (.IfExp test body orelse pos) env) h P :=
  fun g d tk os => wpAny_IfExp (e.wp fun b h' tk' p => by cases b <;> exact p g d tk' os)
theorem Ev.isTrue1 {l r : Expr} {op : CmpOp} {whole : Sem Value} {P : Bool → Heap → Prop}
    (e : Ev M A (eval l env) h fun a h1 => Ev M A (eval r env) h1 fun b h2 => Ev M A (compareOp op a b) h2 fun c h3 => ∃ b, c = .bool b ∧ P b h3)
    (hm : behindInMarks op r = false := by with_unfolding_all rfl) : Ev M A (isTrue (.Compare l [op] [r] pos) env whole) h P :=
  fun g d tk os => wpAny_isTrue_Compare1 (e.wp fun a h1 t1 p => p.wp fun b h2 t2 q => q.wp fun c h3 t3 ⟨b, hc, r⟩ => by subst hc; exact wpAny_truthy_bool ⟨h3, t3, rfl, r⟩) hm
theorem Ev.compare1 {l r : Expr} {op : CmpOp} {P : Value → Heap → Prop}
    (e : Ev M A (eval l env) h fun a h1 => Ev M A (eval r env) h1 fun b h2 => Ev M A (compareOp op a b) h2 P)
    (hm : behindInMarks op r = false := by with_unfolding_all rfl) : Ev M A (eval (.Compare l [op] [r] pos) env) h P :=
  fun g d tk os => wpAny_Compare1 (e.wp fun a h1 t1 p => p.wp fun b h2 t2 q => q g d t2 os) hm
theorem Ev.binop {l r : Expr} {op : Operator} {P : Value → Heap → Prop}
    (e : Ev M A (eval l env) h fun a h1 => Ev M A (eval r env) h1 fun b h2 => Ev M A (binaryOp op a b) h2 P) : Ev M A (eval (.BinOp l op r pos) env) h P :=
  fun g d tk os => wpAny_BinOp (e.wp fun a h1 t1 p => p.wp fun b h2 t2 q => q g d t2 os)
theorem Ev.isTrue_not {e0 : Expr} {whole : Sem Value} {P : Bool → Heap → Prop} (e : Ev M A (isTrue e0 env (eval e0 env)) h fun b h' => P (!b) h') : Ev M A (isTrue (.UnaryOp .Not e0 pos) env whole) h P :=
  fun g d tk os => wpAny_isTrue_Not (e.wp fun b h' tk' p => ⟨h', tk', rfl, p⟩)
theorem Ev.isTrue_bool {e0 : Expr} {P : Bool → Heap → Prop} (e : Ev M A (eval e0 env) h fun v h' => ∃ b, v = .bool b ∧ P b h')
    (he : isTrue e0 env (eval e0 env) = (do let v ← eval e0 env; PySem.standAt e0.pos; PySem.holding [v] (truthy v)) := by rfl) : Ev M A (isTrue e0 env (eval e0 env)) h P :=
  fun g d tk os => wpAny_isTrue_value (e.wp fun v h' tk' ⟨b, hv, p⟩ => by subst hv; exact wpAny_truthy_bool ⟨h', tk', rfl, p⟩) he
theorem Ev.isTrue_or2 {x y : Expr} {whole : Sem Value} {P : Bool → Heap → Prop}
    (e : Ev M A (isTrue x env (eval x env)) h fun b h' => if b then P true h' else Ev M A (isTrue y env (eval y env)) h' P) : Ev M A (isTrue (.BoolOp .Or [x, y] pos) env whole) h P :=
  fun g d tk os => wpAny_isTrue_BoolOp (wpAny_allTrue_Or_cons (e.wp fun b h' tk' p => by
    cases b with
    | true => exact ⟨h', tk', rfl, p⟩
    | false => exact wpAny_allTrue_Or_cons (Ev.wp p fun b h'' tk'' q => by
        cases b with
        | true => exact ⟨h'', tk'', rfl, q⟩
        | false => exact wpAny_allTrue_Or_nil ⟨h'', tk'', rfl, q⟩)))
end

section
variable {prog : Program} {w : World} {A : Around} {h : Heap} {env : Env} {P : Flow → Heap → Prop} {pos : Pos}
/-- a while loop by an invariant over a falling number -/
theorem Ev.while {test : Expr} {body : List Stmt} (I : Nat → Heap → Prop) (n : Nat) (h0 : I n h)
    (turn : ∀ n h, I n h → Ev (model prog w) A (isTrue test env (eval test env)) h fun b h1 =>
      if b then Ev (model prog w) A (execs body env) h1 fun f h2 => match f with
          | .next | .cont => ∃ m, m < n ∧ I m h2
          | .brk => P .next h2
          | .ret v => P (.ret v) h2
      else P .next h1) : Ev (model prog w) A (exec (.While test body [] pos) env) h P := by
  intro g d tk os
  refine wpAny_While (codeAny_whileLoop (fun n s => ∃ h tk, s = ⟨h, g, d, tk, os⟩ ∧ I n h) (fun n s hI => ?_) n ⟨h, tk, rfl, h0⟩)
  obtain ⟨h, tk, rfl, hI⟩ := hI
  refine (turn n h hI).wp fun b h1 t1 p => ?_
  cases b with
  | false => exact wpAny_execs_nil ⟨h1, t1, rfl, p⟩
  | true =>
    refine Ev.wp p fun f h2 t2 q => ?_
    cases f with
    | next => obtain ⟨m, l, q⟩ := q; exact ⟨m, l, h2, t2, rfl, q⟩
    | cont => obtain ⟨m, l, q⟩ := q; exact ⟨m, l, h2, t2, rfl, q⟩
    | brk => exact ⟨h2, t2, rfl, q⟩
    | ret v => exact ⟨h2, t2, rfl, q⟩
end

section
variable {prog : Program} {w : World} {A : Around} {h : Heap} {P : Value → Heap → Prop}
/-- a def is called -/
theorem EvC.fn {a : Addr} {o : Obj} {fd : FuncData} {body : List Stmt} {vals : List Value} {binds : List (Str × Value)}
    (hroom : A.depth < recursionLimit) (ho : h.get? a = some o) (hdata : o.data = .func fd) (hlim : h.NoLimit) (hcd : h.CodeRec fd.code fd.qualname)
    (hbody : fd.body = .stmts body) (hbind : bindArgs fd ⟨vals, []⟩ = pure binds)
    (hcell : ∀ x ∈ fd.scope.names, x.2 ≠ .cell) (hloc : ∀ x ∈ binds, fd.scope.names.lookup x.1 = some .local)
    (k : ∀ h₀, h₀.Ns h.objs.size (fun x => binds.reverse.lookup x) → Keep [] h h₀ → h.objs.size < h₀.objs.size →
      Ev (model prog w) (A.deeper (callEnv fd h.objs.size a)) (execs body (callEnv fd h.objs.size a)) h₀ fun f h' => P (match f with | .ret v => v | _ => .none) h')
    (hco : fd.scope.isCoroutine = false := by rfl) (hgen : fd.scope.isGenerator = false := by rfl) (hk : fd.scope.kind = .function := by rfl) :
    EvC (model prog w) A (.call (.ref a) ⟨vals, []⟩) h P := by
  intro g d tk os
  refine codeAny_call_plain hroom ho hdata hlim hcd hbody hbind hcell hloc (fun h₀ hns hk' => ?_) hco hgen hk
  refine (k h₀ hns ⟨Nat.le_of_lt hns.lt, fun a o _ e => hk' a o e⟩ hns.lt).wp fun f h' tk' p => ?_
  cases f <;> exact ⟨_, h', tk', rfl, rfl, p⟩
/-- a def whose names are captured is called -/
theorem EvC.fnC {a : Addr} {o : Obj} {fd : FuncData} {body : List Stmt} {vals : List Value} {binds : List (Str × Value)}
    (hroom : A.depth < recursionLimit) (ho : h.get? a = some o) (hdata : o.data = .func fd) (hlim : h.NoLimit) (hcd : h.CodeRec fd.code fd.qualname)
    (hbody : fd.body = .stmts body) (hbind : bindArgs fd ⟨vals, []⟩ = pure binds) (hclo : fd.closure = [])
    (hkind : ∀ x ∈ binds, fd.scope.names.lookup x.1 = some .local ∨ (fd.scope.names.lookup x.1 = some .cell ∧ ((cellsFrom (h.objs.size + 1) fd.scope.names []).lookup x.1).isSome = true))
    (k : ∀ h₀, h₀.Ns h.objs.size (bindL (callEnvC fd h.objs.size a).kindOf binds fun _ => none) → Keep [] h h₀ → h.objs.size < h₀.objs.size →
      (∀ n c, (cellsFrom (h.objs.size + 1) fd.scope.names []).lookup n = some c → h₀.IsCell c (bindC (callEnvC fd h.objs.size a).kindOf binds (fun _ => none) n) ∧ h.objs.size < c) →
      Ev (model prog w) (A.deeper (callEnvC fd h.objs.size a)) (execs body (callEnvC fd h.objs.size a)) h₀ fun f h' => P (match f with | .ret v => v | _ => .none) h')
    (hco : fd.scope.isCoroutine = false := by rfl) (hgen : fd.scope.isGenerator = false := by rfl) (hk : fd.scope.kind = .function := by rfl) :
    EvC (model prog w) A (.call (.ref a) ⟨vals, []⟩) h P := by
  intro g d tk os
  refine codeAny_call_cells hroom ho hdata hlim hcd hbody hbind hclo hkind (fun s₁ x => ?_) hco hgen hk
  obtain ⟨h₀, tk', rfl⟩ := x.toInCall.same
  have hns := x.toInCall.ns
  refine (k h₀ hns ⟨Nat.le_of_lt hns.lt, fun a o _ e => x.toInCall.keep a o e⟩ hns.lt fun n c e => ⟨x.cell n c e, x.above n c (mem_of_lookup e)⟩).wp fun f h' tk' p => ?_
  cases f <;> exact ⟨_, h', tk', rfl, rfl, p⟩
/-- a lambda is called -/
theorem EvC.lam {a : Addr} {o : Obj} {fd : FuncData} {body : Expr} {vals : List Value} {binds : List (Str × Value)}
    (hroom : A.depth < recursionLimit) (ho : h.get? a = some o) (hdata : o.data = .func fd) (hlim : h.NoLimit) (hcd : h.CodeRec fd.code fd.qualname)
    (hbody : fd.body = .expr body) (hbind : bindArgs fd ⟨vals, []⟩ = pure binds)
    (hcell : ∀ x ∈ fd.scope.names, x.2 ≠ .cell) (hloc : ∀ x ∈ binds, fd.scope.names.lookup x.1 = some .local)
    (k : ∀ h₀, h₀.Ns h.objs.size (fun x => binds.reverse.lookup x) → Keep [] h h₀ → h.objs.size < h₀.objs.size →
      Ev (model prog w) (A.deeper (callEnv fd h.objs.size a)) (eval body (callEnv fd h.objs.size a)) h₀ P)
    (hco : fd.scope.isCoroutine = false := by rfl) (hgen : fd.scope.isGenerator = false := by rfl) (hk : fd.scope.kind = .function := by rfl) :
    EvC (model prog w) A (.call (.ref a) ⟨vals, []⟩) h P := by
  intro g d tk os
  refine kla_callFunE hroom ho hdata hco hgen hbody hcd ?_
  rw [hbind]
  refine wpAny_pure (wpAny_newFunctionEnv hcell hloc (fun h₁ hns hsb => ⟨hlim.fresh _ hsb, kla_codeExpr ?_⟩) hk)
  exact (k h₁ hns ⟨Nat.le_of_lt hns.lt, fun b o _ e => hsb.extBut b o (Nat.ne_of_lt (Heap.lt_size e)) (Heap.get?_push_of_some _ e)⟩ hns.lt).wp fun v h' tk' p => ⟨_, h', tk', rfl, rfl, p⟩
end
end Mine

namespace Mine

/-- a plain list object -/
def Lst (h : Heap) (a : Addr) (vs : List Value) : Prop := ∃ n, h.get? a = some { cls := .type "list", data := .seq vs.toArray n }
theorem Lst.keep {S : List Addr} {h h' : Heap} {a : Addr} {vs : List Value} (x : Lst h a vs) (k : Keep S h h') (n : a ∉ S) : Lst h' a vs := let ⟨e, q⟩ := x; ⟨e, k.get _ _ n q⟩
theorem Lst.lt {h : Heap} {a : Nat} {vs : List Value} (x : Lst h a vs) : a < h.objs.size := let ⟨_, q⟩ := x; Heap.lt_size q
theorem Lst.isList {h : Heap} {a : Addr} {vs : List Value} (x : Lst h a vs) : h.IsList a vs.toArray := let ⟨n, q⟩ := x; ⟨_, q, rfl, n, rfl⟩
theorem Lst.new (h : Heap) (vs : List Value) : Lst (h.push { cls := .type "list", data := .seq vs.toArray }) h.objs.size vs := ⟨0, Heap.get?_push_size _ rfl⟩
theorem Lst.inj {h : Heap} {a : Addr} {vs us : List Value} (x : Lst h a vs) (y : Lst h a us) : vs = us := by
  obtain ⟨n, q⟩ := x; obtain ⟨k, p⟩ := y
  rw [q] at p
  simp only [Option.some.injEq, Obj.mk.injEq, Data.seq.injEq] at p
  have := p.2.2.1.1
  simpa using this

section
variable {M : Model} {A : Around} {h : Heap} {env : Env} {P : Value → Heap → Prop} {pos : Pos}
theorem Ev.items_nil {P : List Value → Heap → Prop} (k : P [] h) : Ev M A (spliced (backTo pos (starEach [] env))) h P := fun _ _ tk _ => wpAny_items_nil ⟨h, tk, rfl, k⟩
theorem Ev.items_cons {e : Expr} {rest : List Expr} {P : List Value → Heap → Prop}
    (k : Ev M A (eval e env) h fun v h1 => Ev M A (spliced (backTo pos (starEach rest env))) h1 fun vs h2 => P (v :: vs) h2)
    (he : starEach (e :: rest) env = (false, eval e env) :: starEach rest env := by rfl) : Ev M A (spliced (backTo pos (starEach (e :: rest) env))) h P :=
  fun g d tk os => wpAny_items_cons (k.wp fun v h1 t1 p => p.wp fun vs h2 t2 q => ⟨h2, t2, rfl, q⟩) he
theorem Ev.list {elts : List Expr} (k : Ev M A (spliced (backTo pos (starEach elts env))) h fun vs h1 => vs.length ≤ 16777216 ∧ ∀ h2, Lst h2 h1.objs.size vs → Keep [] h1 h2 → h2.objs.size = h1.objs.size + 1 → P (.ref h1.objs.size) h2) :
    Ev M A (eval (.List elts pos) env) h P :=
  fun g d tk os => wpAny_List (k.wp fun vs h1 t1 ⟨l, p⟩ => ⟨by rw [sizeLine_eq]; exact l, _, t1, rfl, p _ (.new _ _) (.push _ _) (Heap.size_push ..)⟩)
theorem Ev.tuple {elts : List Expr} {k0 : Nat} (k : Ev M A (spliced (backTo pos (starEach elts env))) h fun vs h1 => vs.length ≤ 16777216 ∧ P (.ref h1.objs.size) (h1.push { cls := .type "tuple", data := .seq vs.toArray })) :
    Ev M A (eval (.Tuple elts k0 pos) env) h P :=
  fun g d tk os => wpAny_Tuple (k.wp fun vs h1 t1 ⟨l, p⟩ => ⟨by rw [sizeLine_eq]; exact l, _, t1, rfl, p⟩)

theorem evalArgs_list {E : Value → Shared → Prop} {s : Shared} {f : Value} {L : List (Bool × Sem Value)} {Q : Args → Shared → Prop} (hpl : L.any (·.1) = false)
    (k : wpAny M A (spliced L) (fun vs s' => Q ⟨vs, []⟩ s') E s) : wpAny M A (evalArgs f true L []) Q E s := by
  have e : evalArgs f true L [] = (spliced L >>= fun vs => PySem.holding (vs ++ (none : Option Value).toList) (Pure.pure (⟨vs, []⟩ : Args))) := by
    unfold evalArgs
    match L, hpl with
    | [], _ => rfl
    | (false, x) :: r, _ =>
      show (spliced ((false, x) :: r) >>= _) = _
      rfl
    | (true, x) :: r, hpl => simp at hpl
  rw [e]
  exact wpAny_bind (wpAny_mono k (fun vs s' p => wpAny_holding (wpAny_pure p)) fun _ _ x => x)
/-- who keeps the callee: no matter -/
theorem Ev.callWith {f : Value} {first : List Value} {L : List (Bool × Sem Value)} (hpl : L.any (·.1) = false)
    (k : Ev M A (spliced L) h fun vs h1 => Ev M A (keeperOf f) h1 (fun _ h2 => h2 = h1) ∧ Ev M A (PySem.call f (first ++ vs) []) h1 P) :
    Ev M A (PySem.callWith pos f first L []) h P := by
  intro g d tk os
  unfold PySem.callWith
  refine wpAny_bind (wpAny_holding (evalArgs_list hpl (k.wp fun vs h1 t1 ⟨p, q⟩ => wpAny_bind (wpAny_standAt ?_))))
  have tail : ∀ {t : Sem Value}, Ev M A t h1 P → wpAny M A (t >>= fun r => PySem.holding [r] PySem.point >>= fun _ => Pure.pure r) (fun v s' => ∃ h' tk', s' = ⟨h', g, d, tk', os⟩ ∧ P v h') (fun _ _ => False) ⟨h1, g, d, t1, os⟩ :=
    fun ht => wpAny_bind (ht.wp fun r h2 t2 hr => wpAny_bind (wpAny_holding (wpAny_point (wpAny_pure ⟨h2, t2, rfl, hr⟩))))
  simp only [hpl, List.any_nil, Bool.or_false]
  refine wpAny_bind (p.wp fun kp h2 t2 e => ?_)
  subst e
  have tail' : ∀ {t : Sem Value}, Ev M A t h2 P → wpAny M A (t >>= fun r => PySem.holding [r] PySem.point >>= fun _ => Pure.pure r) (fun v s' => ∃ h' tk', s' = ⟨h', g, d, tk', os⟩ ∧ P v h') (fun _ _ => False) ⟨h2, g, d, t2, os⟩ :=
    fun ht => wpAny_bind (ht.wp fun r h3 t3 hr => wpAny_bind (wpAny_holding (wpAny_point (wpAny_pure ⟨h3, t3, rfl, hr⟩))))
  have mk : ∀ v, Ev M A (callMarked v f (first ++ vs) []) h2 P := fun v g d tk os => wpAny_keep (q g d tk os)
  have op : ∀ l, Ev M A (operate l (PySem.call f (first ++ vs) [])) h2 P := fun l g d tk os Γ p hΓ => by rw [Sem.wp_operate]; exact q g d tk os Γ p hΓ
  cases kp <;> dsimp only
  · split
    · exact tail' q
    · exact tail' (mk _)
  · split
    · exact tail' q
    · exact tail' (mk _)
  · exact tail' q
  · exact tail' (op _)
end
end Mine

namespace Mine
theorem runs_size {M : Model} {Γ : Ctx} {p : Pos} {t : Sem Fin} {fs : List Frame} {s s' : Shared} {e : End} (r : Runs M Γ p t fs s e s') : s.heap.objs.size ≤ s'.heap.objs.size := by
  induction r with
  | alloc r ih => rw [Heap.size_push] at ih; omega
  | update h r ih => rw [Heap.size_after_update] at ih; exact ih
  | call r1 r2 i1 i2 => exact Nat.le_trans i1 i2
  | resumeFresh h r1 q r2 i1 i2 => exact Nat.le_trans i1 i2
  | resumeSuspended h r1 q r2 i1 i2 => exact Nat.le_trans i1 i2
  | segRet r1 r2 i1 i2 => exact Nat.le_trans i1 i2
  | segGen r1 r2 i1 i2 => exact Nat.le_trans i1 i2
  | segSuspGen h r1 q r2 i1 i2 => exact Nat.le_trans i1 i2
  | _ => first | exact Nat.le_refl _ | assumption
theorem wakes_size {M : Model} {Γ : Ctx} {p : Pos} {g : Nat} {r : Resume} {s s' : Shared} {res : GenResult} (x : Wakes M Γ p g r s res s') : s.heap.objs.size ≤ s'.heap.objs.size := by
  unfold Wakes at x
  split at x
  · exact x.elim
  · split at x
    · obtain ⟨e, s₁, h1, _, _, rfl⟩ := x; have := runs_size h1; exact this
    · obtain ⟨_, rfl⟩ := x; exact Nat.le_refl _
    · obtain ⟨_, rfl⟩ := x; exact Nat.le_refl _
  · obtain ⟨e, s₁, h1, _, _, rfl⟩ := x; have := runs_size h1; exact this
  · obtain ⟨_, rfl⟩ := x; exact Nat.le_refl _
  · obtain ⟨_, rfl⟩ := x; exact Nat.le_refl _
theorem wp_size {α : Type} {M : Model} {Γ : Ctx} {n : Nat} (t : Sem α) : ∀ {Q : α → Pos → Shared → Prop} {E : Value → Pos → Shared → Prop} {p : Pos} {s : Shared}, n ≤ s.heap.objs.size → Sem.wp M Γ t Q E p s →
    Sem.wp M Γ t (fun v p' s' => Q v p' s' ∧ n ≤ s'.heap.objs.size) E p s := by
  induction t with
  | pure x => intro Q E p s l h; exact ⟨h, l⟩
  | raise v => intro Q E p s l h; exact h
  | unsupported | finish | yield | fork | await | register => intro Q E p s l h; exact h
  | rule _ k ih | «at» _ k ih | loadIfAlive _ k ih | point _ k ih | fresh k ih | ask k ih | os _ _ k ih | handled _ k ih | newGen _ k ih | stack k ih | thread k ih => intro Q E p s l h; exact ih _ l h
  | alloc o k ih => intro Q E p s l h; exact ih _ (by show n ≤ (s.heap.push o).objs.size; rw [Heap.size_push]; omega) h
  | load a _ k ih | genState a k ih => intro Q E p s l h; obtain ⟨o, ho, h⟩ := h; exact ⟨o, ho, ih _ l h⟩
  | update a _ f k ih => intro Q E p s l h; exact ⟨h.1, ih _ (by show n ≤ (s.heap.update a f).objs.size; rw [Heap.size_after_update]; exact l) h.2⟩
  | choose _ _ k ih => intro Q E p s l h; exact ⟨h.1, ih _ l h.2⟩
  | call c h g l k ih => intro Q E p s l h; obtain ⟨r, s', hr, h⟩ := h; exact ⟨r, s', hr, ih _ (Nat.le_trans l (runs_size hr)) h⟩
  | resume g r l k ih => intro Q E p s l h; obtain ⟨res, s', hw, h⟩ := h; exact ⟨res, s', hw, ih _ (Nat.le_trans l (wakes_size hw)) h⟩
theorem Ev.sized {α : Type} {M : Model} {A : Around} {t : Sem α} {h : Heap} {P : α → Heap → Prop} (e : Ev M A t h P) : Ev M A t h fun v h' => P v h' ∧ h.objs.size ≤ h'.objs.size :=
  fun g d tk os Γ p hΓ => Sem.wp_mono M Γ t (fun v _ s' ⟨⟨h', tk', hs, q⟩, l⟩ => ⟨h', tk', hs, q, by rw [hs] at l; exact l⟩) (fun _ _ _ x => x) p _ (wp_size t (Nat.le_refl _) (e g d tk os Γ p hΓ))
/-- what is had of the heap's keeping alone -/
theorem Ev.keeping {α : Type} {M : Model} {A : Around} {t : Sem α} {h : Heap} {P : α → Heap → Prop} {S : List Addr}
    (e : Ev M A t h fun v h' => (∀ a o, a ∉ S → h.get? a = some o → h'.get? a = some o) ∧ (Keep S h h' → P v h')) : Ev M A t h P :=
  e.sized.mono fun v h' ⟨⟨k, p⟩, l⟩ => p ⟨l, k⟩
end Mine

namespace Mine
open Builtin.ObjectAttr

/-- an object of the text's exception class C, its dict at d -/
abbrev excObj (C t : Addr) (dd : Option Addr) : Obj := { cls := .ref C, dict := dd, data := .fields #[.ref t, .none, .none, .none, .bool false, .none] }

theorem slot_bga : Slot "Exception" "__getattribute__" "BaseException.__getattribute__" :=
  .of (owner := "BaseException") (n := "__getattribute__") (by rw [typeLookup_type, builtinLookup_eq_fast]; kernel_rfl) (by decide +kernel) (by decide +kernel) (by decide +kernel)
    (by first | exact .inl (by decide +kernel) | exact .inr (by decide +kernel)) (by rw [isSubtype_type]; kernel_rfl)
theorem entry_bga : entryFor table "BaseException.__getattribute__" = some Builtin.«object.__getattribute__» := entryFor_alias (id' := "object.__getattribute__") (by kernel_rfl) rfl (by decide +kernel) (by kernel_rfl)
theorem entry_osa : entryFor table "object.__setattr__" = some Builtin.«object.__setattr__» := entryFor_of_tree (by kernel_rfl)
theorem type_bga : typeOf (.builtin "BaseException.__getattribute__") = pure (.type "wrapper_descriptor") := by show builtinType _ = _; rw [builtinType_eq_fast]; kernel_rfl
theorem type_osa : typeOf (.builtin "object.__setattr__") = pure (.type "wrapper_descriptor") := by show builtinType _ = _; rw [builtinType_eq_fast]; kernel_rfl
theorem canon_bga : Manifest.canonical "BaseException.__getattribute__" = "object.__getattribute__" := by decide +kernel
theorem plain_bga : plainId "BaseException.__getattribute__" = true := by decide +kernel
theorem plain_osa : plainId "object.__setattr__" = true := by decide +kernel
theorem kind_bga : builtinKind "BaseException.__getattribute__" = some .slot := by decide +kernel
theorem kind_osa : builtinKind "object.__setattr__" = some .slot := by decide +kernel
theorem split_bga : splitId "BaseException.__getattribute__" = some ("BaseException", "__getattribute__") := by decide +kernel
theorem split_osa : splitId "object.__setattr__" = some ("object", "__setattr__") := by decide +kernel
theorem args_bga (a b : Value) : argsOk "BaseException.__getattribute__" ⟨[a, b], []⟩ := by unfold argsOk; kernel_rfl
theorem args_osa (a b c : Value) : argsOk "object.__setattr__" ⟨[a, b, c], []⟩ := by unfold argsOk; kernel_rfl

section
variable {M : Model} {A : Around} {E : Value → Shared → Prop} {h : Heap}
theorem check_slot {id owner name : String} {self : Value} {rest : List Value} {Q : Unit → Shared → Prop} {g d tk os} (hk : builtinKind id = some .slot) (hs : splitId id = some (owner, name))
    (hi : Looks M h (isInstance self (.type owner)) true) (ha : argsOk id ⟨self :: rest, []⟩) (q : Q () ⟨h, g, d, tk, os⟩) : wpAny M A (checkBuiltinCall id ⟨self :: rest, []⟩) Q E ⟨h, g, d, tk, os⟩ := by
  simp only [checkBuiltinCall, hk, hs]
  refine wpAny_bind (hi.at ?_)
  simp only [Bool.not_true, Bool.false_eq_true, if_false]
  cases hsig : Manifest.signature? id with
  | none => exact wpAny_pure q
  | some sig =>
    simp only [argsOk, hsig] at ha
    have h2 : Bind.checkArgs id sig ⟨self :: rest, []⟩ = pure () := ha
    show wpAny _ _ (Bind.checkArgs id sig ⟨self :: rest, []⟩) _ _ _
    rw [h2]; exact wpAny_pure q
end

section
variable {M : Model} {A : Around} {E : Value → Shared → Prop} {s : Shared}
/-- the first name of an empty dict -/
theorem nsSet_first {a : Addr} {name : Str} {v : Value} {Q : Unit → Shared → Prop} (ho : s.heap.get? a = some { cls := .type "dict", data := .dict #[] })
    (k : ∀ hash tk h', h' = s.heap.update a (Obj.putName name hash (.str name s.toks) v) → h'.get? a = some { cls := .type "dict", data := .dict #[⟨hash, .str name s.toks, v⟩] 1 } → Q () { s with heap := h', toks := tk }) :
    wpAny M A (nsSet a name v) Q E s := by
  unfold nsSet strHash
  refine wpAny_bind (wpAny_bind (wpAny_askSetting (wpAny_pure (wpAny_bind (wpAny_mkText (wpAny_bind (wpAny_loadPart ho ?_)))))))
  dsimp only
  rw [if_neg (show ¬ (aRefKeyMayBeTheName name #[] = true) by rw [aRefKeyMayBeTheName_eq]; simp [aRefKeyMayBeTheNameByArray])]
  refine wpAny_updatePart ho (k _ _ _ rfl ?_)
  rw [Heap.get?_update_self _ ho (by rw [Obj.putName_eq]; simp [Obj.putNameByArray, Obj.isFreed]), Obj.putName_eq]
  simp [Obj.putNameByArray]
theorem ns_one {h : Heap} {a : Addr} {name : Str} {v : Value} {hash : Int} {tk n : Nat} (ho : h.get? a = some { cls := .type "dict", data := .dict #[⟨hash, .str name tk, v⟩] n }) : h.Ns a (upd (fun _ => none) name v) := by
  refine ⟨_, _, _, ho, rfl, ?_, fun x => ?_⟩
  · intro e he
    simp only [List.mem_toArray, List.mem_cons, List.not_mem_nil, or_false] at he
    subst he
    exact ⟨_, _, rfl⟩
  · simp only [nsFind, findBy, upd]
    by_cases q : x = name
    · subst q; simp [Value.isStr]
    · have q' : ¬ name = x := fun e => q e.symm
      simp [Value.isStr, q, q']
end

/-- what the written part says of an exception class of the text's -/
structure ExcCls (K : Frag) (C N : Addr) (cd : ClassData) : Prop where
  cls : clsIn K C = some cd
  hasDict : cd.hasDict = true
  ga : findIn K (.ref C) "__getattribute__" = some (some (.builtin "BaseException.__getattribute__"))
  noga : findIn K (.ref C) "__getattr__" = some none
  sa : findIn K (.ref C) "__setattr__" = some (some (.builtin "object.__setattr__"))
  base : mroIn K C (.type "BaseException") = some true
  obj : mroIn K C (.type "object") = some true
  mro : cd.mro = [.ref C, .type "Exception", .type "BaseException", .type "object"]
  own : ownIn K "__setattr__" (.ref C) = some none

section
variable {prog : Program} {w : World} {A : Around} {h : Heap} {K : Frag} {C N t x d0 : Addr} {cd : ClassData} {m : Str → Option Value} {name : Str} {v : Value}

theorem type_exc {dd : Option Addr} (hx : h.get? x = some (excObj C t dd)) {M : Model} : Looks M h (typeOf (.ref x)) (.ref C) := (Looks.ld hx).andThen .now

theorem find_exc {M : Model} (B : ExcCls K C N cd) (X : K.In h) (hx : h.get? x = some (excObj C t (some d0))) (hd : h.Ns d0 m) (hv : m name = some v) (hn : findIn K (.ref C) name = some none) :
    Looks M h (find (.ref x) (.ref C) name) (.value v) := by
  refine (looks_findIn X hn).andThen (Looks.now.andThen (Looks.now.andThen ?_))
  refine Looks.andThen (t := inOwnDict name (.ref x)) (a := some v) ?_ (Looks.tag .now)
  refine Looks.andThen (t := ownDict x) (a := some d0) ?_ ?_
  · refine (Looks.ld hx).andThen ?_
    show Looks M h (instanceDict x false) (some d0)
    unfold instanceDict
    refine (Looks.ld hx).andThen ?_
    dsimp only
    refine (looks_clsIn X B.cls).andThen ?_
    rw [B.hasDict]
    exact Looks.now
  · intro A Q E s k q
    exact wpAny_nsGet (hd.keeps k) (hv ▸ q)

/-- a name of its own dict, called as a method -/
theorem Ev.getMethod_exc {P : Value × List Value → Heap → Prop} {pl : Sem Bool} (B : ExcCls K C N cd) (X : K.In h) (hx : h.get? x = some (excObj C t (some d0))) (hd : h.Ns d0 m) (hv : m name = some v) (hn : findIn K (.ref C) name = some none)
    (hh : handedIn v = true) (k : P (v, []) h) : Ev (model prog w) A (getMethod (.ref x) name pl) h P := by
  intro g d tk os
  have T := type_exc hx (M := model prog w)
  unfold getMethod
  refine wpAny_bind ((T.andThen (looks_findIn X B.ga)).at ?_)
  dsimp only
  rw [canon_bga]
  simp only [bne_self_eq_false, Bool.false_eq_true, if_false]
  refine wpAny_bind ((T.andThen (looks_findIn X B.noga)).at ?_)
  simp only [Option.isSome_none, Bool.false_eq_true, if_false]
  refine wpAny_bind ((T.andThen (looks_findIn X hn)).at ?_)
  dsimp only
  refine wpAny_bind ?_
  unfold getAttr getAttrBy
  refine wpAny_bind (wpAny_mkText (wpAny_holding (wpAny_bind (T.at (wpAny_bind ((looks_findIn X B.ga).at ?_))))))
  dsimp only
  rw [if_neg (show ¬ (onTheHeap (Value.ref C) && (Value.builtin "BaseException.__getattribute__" == Value.builtin "object.__getattribute__")) = true by simp)]
  unfold getAttrByItsOwn
  refine wpAny_bind (m := hookBefore (.ref C)) (Looks.at (h := h) (r := none) ?_ ?_)
  · exact looks_findIn X B.noga
  · refine wpAny_bind (wpAny_attempt (wpAny_holding ?_))
    show wpAny _ _ (boundAndCalled (.builtin "BaseException.__getattribute__") (.ref x) _) _ _ _
    unfold boundAndCalled
    refine wpAny_bind (Looks.at (h := h) (r := (Value.builtin "BaseException.__getattribute__", [Value.ref x])) ?_ ?_)
    · unfold bindSpecial
      exact (Looks.of_pure type_bga).andThen .now
    · dsimp only [List.cons_append, List.nil_append]
      have T' : Looks (model prog w) h (isInstance (.ref x) (.type "BaseException")) true := T.andThen (looks_mroIn X B.base)
      refine wpAny_call (codeAny_call_builtin plain_bga entry_bga ?_)
      have T2 := args_bga (.ref x) (.str name tk)
      refine check_slot (id := "BaseException.__getattribute__") (self := .ref x) (rest := [.str name tk]) kind_bga split_bga T' T2 ?_
      refine wpAny_bind (m := slotArgs "__getattribute__" 1 _) (wpAny_pure ?_)
      dsimp only
      refine wpAny_bind (m := attrName _) (wpAny_pure (wpAny_bind (T.at (wpAny_bind ((find_exc B X hx hd hv hn).at (wpAny_pure ?_))))))
      show wpAny _ _ (handedOut v) _ _ _
      rw [handedOut_of hh]
      exact wpAny_pure (wpAny_pure ⟨h, _, rfl, k⟩)

theorem own_E : builtinOwn "Exception" "__setattr__" = none := by rw [builtinOwn_eq_fast]; kernel_rfl
theorem own_B : builtinOwn "BaseException" "__setattr__" = none := by rw [builtinOwn_eq_fast]; kernel_rfl
theorem own_O : builtinOwn "object" "__setattr__" = some (.builtin "object.__setattr__") := by rw [builtinOwn_eq_fast]; kernel_rfl
theorem refuse_exc {M : Model} {dd : Option Addr} (B : ExcCls K C N cd) (X : K.In h) (hx : h.get? x = some (excObj C t dd)) : Looks M h (refuseIfOverridden (.ref x) "__setattr__") () := by
  unfold refuseIfOverridden
  refine (type_exc hx).andThen (Looks.andThen (t := mroOf (.ref C)) (a := cd.mro) ((looks_clsIn X B.cls).andThen .now) ?_)
  rw [B.mro]
  refine Looks.of_pure ?_
  simp only [List.forIn_cons, List.forIn_nil, classOwn, own_E, own_B, own_O, pure_bind, bind_assoc, Option.isSome_none, Option.isSome_some, if_true, if_false, Bool.false_eq_true]
  have e1 : ("Exception" == "_thread._local") = false := by decide
  have e2 : ("BaseException" == "_thread._local") = false := by decide
  have e3 : ("object" == "_thread._local") = false := by decide
  have e4 : (("Exception" == "_pickle.Pickler") || ("Exception" == "_pickle.Unpickler")) = false := by decide
  have e5 : (("BaseException" == "_pickle.Pickler") || ("BaseException" == "_pickle.Unpickler")) = false := by decide
  have e6 : (("object" == "_pickle.Pickler") || ("object" == "_pickle.Unpickler")) = false := by decide
  have e7 : isObjects "object" (Str.ofString "__setattr__").toString = true := by unfold isObjects; rfl
  simp only [e1, e2, e3, e4, e5, e6, e7, Bool.false_eq_true, if_false, pure_bind, Bool.not_true]

/-- a first name laid on a bare exception -/
theorem Ev.setAttr_exc {P : Unit → Heap → Prop} (B : ExcCls K C N cd) (X : K.In h) (hx : h.get? x = some (excObj C t none)) (hn : findIn K (.ref C) name = some none)
    (k : ∀ h' d0, Keep [x] h h' → h.objs.size ≤ d0 → h'.get? x = some (excObj C t (some d0)) → h'.Ns d0 (upd (fun _ => none) name v) → P () h') : Ev (model prog w) A (setAttr (.ref x) name v) h P := by
  intro g d tk os
  have T := type_exc hx (M := model prog w)
  unfold setAttr
  refine wpAny_bind (wpAny_mkText (wpAny_bind ?_))
  unfold callSpecial?
  refine wpAny_bind ((T.andThen (looks_findIn X B.sa)).at (wpAny_holding ?_))
  refine wpAny_bind (Looks.at (h := h) (r := (Value.builtin "object.__setattr__", [Value.ref x])) ?_ ?_)
  · unfold bindSpecial
    exact (Looks.of_pure type_osa).andThen .now
  dsimp only [List.cons_append, List.nil_append]
  have T' : Looks (model prog w) h (isInstance (.ref x) (.type "object")) true := T.andThen (looks_mroIn X B.obj)
  refine wpAny_bind (wpAny_call (codeAny_call_builtin plain_osa entry_osa ?_))
  have T2 := args_osa (.ref x) (.str name tk) v
  refine check_slot (id := "object.__setattr__") (self := .ref x) (rest := [.str name tk, v]) kind_osa split_osa T' T2 ?_
  unfold Builtin.«object.__setattr__»
  dsimp only [List.isEmpty_nil, List.cons_append, List.nil_append]
  simp only [Bool.not_true, Bool.false_eq_true, if_false]
  refine wpAny_bind ((refuse_exc B X hx).at ?_)
  refine wpAny_bind (m := attrName _) (wpAny_pure (wpAny_bind (T.at (wpAny_bind ((looks_findIn X hn).at (wpAny_bind (m := storeTaker? none) (wpAny_pure ?_)))))))
  dsimp only
  unfold storeInOwnDict
  refine wpAny_bind (m := ownStreamTells _ _) (wpAny_pure ?_)
  rw [if_neg (show ¬ ((Value.ref C == Value.type "module") = true) by simp)]
  refine wpAny_bind (m := ownDictForStores (.ref x)) ?_
  show wpAny _ _ (instanceDict x true) _ _ _
  unfold instanceDict
  refine wpAny_bind (wpAny_loadPart hx ?_)
  dsimp only
  refine wpAny_bind ((looks_clsIn X B.cls).at ?_)
  rw [B.hasDict]
  simp only [Bool.not_true, Bool.false_eq_true, if_false, Bool.false_or]
  rw [if_neg (show ¬ ((!typeHasDict (Value.ref C)) = true) by simp [typeHasDict])]
  have hlt : x < h.objs.size := Heap.lt_size hx
  have hx1 : (h.push { cls := .type "dict", data := .dict #[] }).get? x = some (excObj C t none) := Heap.get?_push_of_some _ hx
  refine wpAny_bind (wpAny_alloc (wpAny_bind (wpAny_update hx1 ?_)))
  refine wpAny_pure ?_
  dsimp only
  unfold storeInDict
  refine wpAny_bind (m := newKeyGuard _ _ _) (wpAny_pure ?_)
  have hd1 : ((h.push { cls := .type "dict", data := .dict #[] }).update x fun o => { o with dict := some h.objs.size }).get? h.objs.size = some { cls := .type "dict", data := .dict #[] } :=
    (Heap.get?_update_other _ _ (Nat.ne_of_lt hlt)).trans (Heap.get?_push_size _ rfl)
  refine wpAny_bind (nsSet_first hd1 fun hash tk' h' e ho => ?_)
  refine wpAny_bind (wpAny_lookBehind ho (pastItsLine_dict (by rw [sizeLine_eq]; show 1 ≤ _; omega)) ?_)
  refine wpAny_pure (wpAny_pure (wpAny_pure ⟨h', tk', rfl, ?_⟩))
  have hx2 : h'.get? x = some (excObj C t (some h.objs.size)) := by
    rw [e, Heap.get?_update_other _ _ (Nat.ne_of_gt hlt), Heap.get?_update_self _ hx1 rfl]
  refine k h' h.objs.size ⟨?_, fun a o n q => ?_⟩ (Nat.le_refl _) hx2 (ns_one ho)
  · rw [e, Heap.size_after_update, Heap.size_after_update, Heap.size_push]; omega
  · rw [e, Heap.get?_update_other _ _ (Nat.ne_of_gt (Heap.lt_size q)), Heap.get?_update_other _ _ (fun z => n (by rw [z]; exact .head _))]
    exact Heap.get?_push_of_some _ q

/-- an exception of the text's own class is made, with no arguments -/
theorem Ev.newExc {P : Value → Heap → Prop} {nm q : Str} {bs : List Value} {hdct : Bool} {sn : List Str} {sub : List Value} {ab : Bool} {col : Option Bool} {dd : Option Addr} {k0 k1 k2 k3 k5 : Option Value} {mN : Str → Option Value}
    (hC : h.get? C = some (excClassObj nm q C N bs [.type "Exception", .type "BaseException", .type "object"] hdct sn sub ab col dd k0 k1 k2 k3 k5 "Exception.__new__")) (hn : h.Ns N mN) (hni : mN "__init__" = none)
    (k : ∀ h' e t, Keep [] h h' → h.get? e = none → h'.get? e = some (excObj C t none) → P (.ref e) h') : Ev (model prog w) A (PySem.call (.ref C) [] []) h P := by
  refine Ev.keeping (S := []) fun g d tk os => wpAny_call_exc_sub F.excBase_Exception hC hn hni fun h' e x => ⟨h', tk, rfl, fun a o _ q => x.keeps a o q, fun kp => ?_⟩
  obtain ⟨t, e1, _⟩ := x.there
  exact k h' e t kp x.new e1
end
end Mine

namespace Mine

section
variable {M : Model} {A : Around} {h : Heap} {env : Env} {P : Value → Heap → Prop} {pos p apos : Pos}
theorem keeper_builtin {id : String} : Ev M A (keeperOf (.builtin id)) h fun _ h2 => h2 = h := Ev.of_eq (a := .machine) rfl rfl
theorem keeper_type {n : String} : Ev M A (keeperOf (.type n)) h fun _ h2 => h2 = h := Ev.of_eq (a := .machine) rfl rfl
theorem keeper_fn {a : Addr} {o : Obj} {fd : FuncData} (ho : h.get? a = some o) (hd : o.data = .func fd) : Ev M A (keeperOf (.ref a)) h fun _ h2 => h2 = h := by
  intro g d tk os
  unfold keeperOf
  refine wpAny_bind (wpAny_load ho ?_)
  rw [hd]
  exact wpAny_pure ⟨h, tk, rfl, rfl⟩
/-- a class of the text's whose type is type -/
theorem keeper_cls {K : Frag} {C : Addr} {o : Obj} {cd : ClassData} (ho : h.get? C = some o) (hc : o.cls = .type "type") (hd : o.data = .cls cd) : Ev M A (keeperOf (.ref C)) h fun _ h2 => h2 = h := by
  intro g d tk os
  unfold keeperOf
  refine wpAny_bind (wpAny_load ho ?_)
  rw [hd]
  dsimp only
  refine wpAny_bind (m := specialOf (.ref C) "__call__") (wpAny_specialOf (s := ⟨h, g, d, tk, os⟩) (T := "type") ⟨o, ho, hc⟩ tc_lookup ?_)
  exact wpAny_pure ⟨h, tk, rfl, rfl⟩

theorem Ev.callN {f : Str} {args : List Expr}
    (k : Ev M A (eval (.Name f p) env) h fun fv h0 => Ev M A (spliced (backTo pos (starEach args env))) h0 fun vs h1 => Ev M A (keeperOf fv) h1 (fun _ h2 => h2 = h1) ∧ Ev M A (PySem.call fv vs []) h1 P)
    (hpl : (backTo pos (starEach args env)).any (·.1) = false := by rfl) : Ev M A (eval (.Call (.Name f p) args [] pos) env) h P := by
  have e : eval (.Call (.Name f p) args [] pos) env = (eval (.Name f p) env >>= fun fv => PySem.callWith pos fv [] (backTo pos (starEach args env)) []) := rfl
  rw [e]
  exact Ev.bind (k.mono fun fv h0 q => Ev.callWith (first := []) hpl (q.mono fun vs h1 ⟨a, b⟩ => ⟨a, by rw [List.nil_append]; exact b⟩))
theorem Ev.callM {o : Expr} {name : Str} {args : List Expr}
    (k : Ev M A (eval o env) h fun ov h0 => ∃ f first, (∀ pl, Ev M A (getMethod ov name pl) h0 fun r h2 => r = (f, first) ∧ h2 = h0) ∧
      Ev M A (spliced (backTo pos (starEach args env))) h0 fun vs h1 => Ev M A (keeperOf f) h1 (fun _ h2 => h2 = h1) ∧ Ev M A (PySem.call f (first ++ vs) []) h1 P)
    (hpl : (backTo pos (starEach args env)).any (·.1) = false := by rfl)
    (hbase : attributeBase o name env (eval o env) = eval o env := by rfl)
    (hfew : methodCallForm (args.length + ([] : List Keyword).length) (backTo pos (starEach args env)) (backToKw pos (keywordEach [] env)) = true := by rfl)
    (hline : (apos.endLine == pos.line) = true := by rfl) : Ev M A (eval (.Call (.Attribute o name apos) args [] pos) env) h P := by
  have e : eval (.Call (.Attribute o name apos) args [] pos) env = (do
    let ov ← attributeBase o name env (eval o env)
    PySem.standAt apos.atName
    methodCall o name apos pos env ov (args.length + ([] : List Keyword).length) (backTo pos (starEach args env)) (backToKw pos (keywordEach [] env))) := rfl
  rw [e, hbase]
  refine Ev.bind (k.mono fun ov h0 ⟨f, first, hg, q⟩ => Ev.bind (Ev.standAt ?_))
  have hpos : methodCallPos true o env apos pos = Pure.pure pos := by unfold methodCallPos; simp [hline]
  unfold methodCall
  rw [hfew]
  refine Ev.bind (Ev.holding ?_)
  unfold calleeOf
  simp only [if_true]
  refine (hg _).mono fun r h2 ⟨e1, e2⟩ => ?_
  subst e1 e2
  refine Ev.bind (Ev.of_eq hpos ?_)
  exact Ev.callWith hpl q
theorem ab_BinOp {l r : Expr} {op : Operator} {q : Pos} {name : Str} {whole : Sem Value} : attributeBase (.BinOp l op r q) name env whole = whole := rfl
theorem ab_Name {x : Str} {q : Pos} {name : Str} {whole : Sem Value} : attributeBase (.Name x q) name env whole = whole := rfl
theorem ab_Constant {x : Const} {k : Nat} {q : Pos} {name : Str} {whole : Sem Value} : attributeBase (.Constant x k q) name env whole = whole := rfl
theorem ab_Sub {x y : Expr} {q : Pos} {name : Str} {whole : Sem Value} : attributeBase (.Subscript x y q) name env whole = whole := rfl
theorem getMethod_plain {ov : Value} {T id : String} {name : Str} {pl : Sem Bool} (hT : ∀ g d tk os, (⟨h, g, d, tk, os⟩ : Shared).TypeIs ov T) (pa : PlainAttrs T) (slot : Slot T name id) (hty : typeOf (.builtin id) = Pure.pure (.type "method_descriptor"))
    (hd : ∀ a, ov = .ref a → ∃ ob, h.get? a = some ob ∧ ob.dict = none) : Ev M A (getMethod ov name pl) h fun r h2 => r = (.builtin id, [ov]) ∧ h2 = h :=
  fun g d tk os => getMethod_builtin (hT g d tk os) pa slot hty hd ⟨h, tk, rfl, rfl, rfl⟩
end

section
variable {prog : Program} {w : World} {A : Around} {h : Heap} {P : Value → Heap → Prop} {a b : Int} {t u : Tok}
theorem Ev.add_int (k : ∀ t, P (.int (a + b) t) h) : Ev (model prog w) A (binaryOp .Add (.int a t) (.int b u)) h P := fun g d tk os => PyProof.Rows.add_int ⟨h, _, rfl, k _⟩
theorem Ev.sub_int (k : ∀ t, P (.int (a - b) t) h) : Ev (model prog w) A (binaryOp .Sub (.int a t) (.int b u)) h P := fun g d tk os => PyProof.Rows.sub_int ⟨h, _, rfl, k _⟩
theorem Ev.mod_int (hb : b ≠ 0) (k : ∀ t, P (.int (a.fmod b) t) h) : Ev (model prog w) A (binaryOp .Mod (.int a t) (.int b u)) h P := fun g d tk os => PyProof.Rows.mod_int hb ⟨h, _, rfl, k _⟩
theorem Ev.gt_int (k : P (.bool (decide (b < a))) h) : Ev (model prog w) A (compareOp .Gt (.int a t) (.int b u)) h P := fun g d tk os => PyProof.Rows.gt_int ⟨h, tk, rfl, k⟩
theorem Ev.lt_int (k : P (.bool (decide (a < b))) h) : Ev (model prog w) A (compareOp .Lt (.int a t) (.int b u)) h P := fun g d tk os => PyProof.Rows.lt_int ⟨h, tk, rfl, k⟩
theorem Ev.le_int (k : P (.bool (decide (a ≤ b))) h) : Ev (model prog w) A (compareOp .LtE (.int a t) (.int b u)) h P := fun g d tk os => PyProof.Rows.le_int ⟨h, tk, rfl, k⟩
theorem Ev.ge_int (k : P (.bool (decide (b ≤ a))) h) : Ev (model prog w) A (compareOp .GtE (.int a t) (.int b u)) h P := fun g d tk os => PyProof.Rows.ge_int ⟨h, tk, rfl, k⟩
theorem Ev.eq_int (k : P (.bool (a == b)) h) : Ev (model prog w) A (compareOp .Eq (.int a t) (.int b u)) h P := fun g d tk os => PyProof.Rows.eq_int ⟨h, tk, rfl, k⟩
theorem Ev.ne_int (k : P (.bool (a != b)) h) : Ev (model prog w) A (compareOp .NotEq (.int a t) (.int b u)) h P := fun g d tk os => PyProof.Rows.ne_int ⟨h, tk, rfl, k⟩
theorem Ev.len_bytes {x : Array UInt8} (hx : x.size ≤ 1099511627776) (k : ∀ t, P (.int x.size t) h) : Ev (model prog w) A (PySem.call (.builtin "len") [.bytes x t] []) h P := fun g d tk os => PySem.W.len_bytes hx ⟨h, _, rfl, k _⟩
theorem Ev.len_list {l : Addr} {vs : List Value} (hl : Lst h l vs) (hfit : vs.length ≤ 1099511627776) (k : ∀ t, P (.int vs.length t) h) : Ev (model prog w) A (PySem.call (.builtin "len") [.ref l] []) h P :=
  fun g d tk os => call_len_list (s := ⟨h, g, d, tk, os⟩) hl.isList (by simp only [List.size_toArray]; omega) ⟨h, _, rfl, by simp only [List.size_toArray]; exact k _⟩
theorem Ev.append {l : Addr} {vs : List Value} {x : Value} (hl : Lst h l vs) (hfit : vs.length ≤ 16777216) (k : ∀ h', Keep [l] h h' → Lst h' l (vs ++ [x]) → P .none h') : Ev (model prog w) A (PySem.call (.builtin "list.append") [.ref l, x] []) h P := by
  obtain ⟨n, ho⟩ := hl
  exact fun g d tk os => append_at (s := ⟨h, g, d, tk, os⟩) ho (fun h' hs ho' => ⟨h', tk, rfl, k h' (.of_sameBut hs) ⟨n + 1, by rw [ho']; simp⟩⟩) (by rw [sizeLine_eq]; simpa using hfit)
end

/-- == of two bytes -/
theorem eqAt_bytes {A : Around} {s : Shared} (b c : Array UInt8) (t u : Tok) : SeqAt.EqAt A s (.bytes b t) (.bytes c u) (b.toList == c.toList) := fun prog w E Q q => by
  unfold eqBool
  refine wpAny_holding ?_
  by_cases e : (Value.bytes b t == Value.bytes c u) = true
  · have e' := eq_of_beq e
    cases e'
    rw [if_pos e]
    exact wpAny_bind (wpAny_rule (wpAny_pure (by simpa using q)))
  · rw [if_neg e]
    exact wpAny_bind (PySem.W.eq_bytes (wpAny_truthy_bool q))

section
variable {prog : Program} {w : World} {A : Around} {h : Heap} {P : Value → Heap → Prop}
def isB (b : Array UInt8) : Value → Bool
  | .bytes c _ => c.toList == b.toList
  | _ => false
theorem Ev.in_tuple_bytes {l : Addr} {vs : List Value} {b : Array UInt8} {t : Tok} (hl : h.get? l = some { cls := .type "tuple", data := .seq vs.toArray }) (hvs : ∀ v ∈ vs, ∃ c u, v = .bytes c u)
    (k : P (.bool (vs.any (isB b))) h) : Ev (model prog w) A (compareOp .In (.bytes b t) (.ref l)) h P :=
  fun g d tk os => SeqAt.in_tupleAt (s := ⟨h, g, d, tk, os⟩) (items := vs.toArray) (isB b) ⟨_, hl, rfl, 0, rfl⟩
    (fun y hy => by
      obtain ⟨c, u, rfl⟩ := hvs y (by simpa using hy)
      exact eqAt_bytes c b u t) ⟨h, tk, rfl, by simpa using k⟩
end
end Mine
namespace Mine
set_option maxHeartbeats 8000000 in
open_top hd04 for PySem.Challenge.rw_dm0149_04
end Mine

namespace Mine
abbrev Bs := Array UInt8
/-- values that are these bytes -/
inductive Bts : List Value → List Bs → Prop
  | nil : Bts [] []
  | cons {b : Bs} {t : Tok} {vs : List Value} {bs : List Bs} : Bts vs bs → Bts (.bytes b t :: vs) (b :: bs)
theorem Bts.length {vs : List Value} {bs : List Bs} (x : Bts vs bs) : vs.length = bs.length := by
  induction x with
  | nil => rfl
  | cons _ ih => simp [ih]
theorem Bts.append {vs us : List Value} {bs cs : List Bs} (x : Bts vs bs) (y : Bts us cs) : Bts (vs ++ us) (bs ++ cs) := by
  induction x with
  | nil => exact y
  | cons _ ih => exact .cons ih
theorem Bts.one (b : Bs) (t : Tok) : Bts [.bytes b t] [b] := .cons .nil

/-- a blank line -/
def blank (b : Bs) : Bool := b.toList == [13, 10] || b.toList == [10] || b.toList == []

/-- the lines that a reader takes, and the state behind them -/
inductive Take {σ : Type} (nx : σ → Bs × σ) : σ → List Bs → σ → Prop
  | last {s s' : σ} {b : Bs} : nx s = (b, s') → blank b = true → b.size ≤ 65536 → Take nx s [b] s'
  | more {s s' s'' : σ} {b : Bs} {ls : List Bs} : nx s = (b, s') → blank b = false → b.size ≤ 65536 → Take nx s' ls s'' → Take nx s (b :: ls) s''

theorem Take.inv {σ : Type} {nx : σ → Bs × σ} {s s' : σ} {ls : List Bs} (x : Take nx s ls s') :
    ∃ b st rest, nx s = (b, st) ∧ b.size ≤ 65536 ∧ ls = b :: rest ∧ ((blank b = true ∧ rest = [] ∧ st = s') ∨ (blank b = false ∧ Take nx st rest s')) := by
  cases x with
  | last e q z => exact ⟨_, _, _, e, z, rfl, .inl ⟨q, rfl, rfl⟩⟩
  | more e q z r => exact ⟨_, _, _, e, z, rfl, .inr ⟨q, r⟩⟩
/-- a source: what its readline gives -/
structure Src (prog : Program) (w : World) (K : Frag) (mg mb : Str → Option Value) (C : Addr) (n : Nat) {σ : Type} (S : List Addr) (B : Nat) (ok : Addr → Prop) (St : σ → Heap → Prop) (nx : σ → Bs × σ) (x : Addr) : Prop where
  okB : ∀ a : Nat, B ≤ a → ok a
  gd : ∀ {s h}, St s h → Gd K mg mb h
  lo : ∀ {s h}, St s h → B ≤ h.objs.size
  low : ∀ a ∈ S, a < B
  keep : ∀ {s h h' S'}, St s h → Keep S' h h' → (∀ a ∈ S', ok a) → St s h'
  rd : ∀ {s h}, St s h → ∃ t d0 m f o fd, h.get? x = some (excObj C t (some d0)) ∧ h.Ns d0 m ∧ m "readline" = some (.ref f) ∧ h.get? f = some o ∧ o.data = .func fd ∧
    ∀ A lim, Room A n → EvC (model prog w) A (.call (.ref f) ⟨[lim], []⟩) h fun v h' => ∃ tk, v = .bytes (nx s).1 tk ∧ Keep S h h' ∧ St (nx s).2 h'
end Mine

namespace Mine
noncomputable abbrev K4 (w : World) : Frag := Mine.hd04.heap_39 w.params
abbrev pg4 : Program := PySem.Challenge.rw_dm0149_04.row.prog
section
variable {w : World} {mg mb : Str → Option Value}
theorem exc4 : ∃ cd, ExcCls (K4 w) 31 30 cd := ⟨_, rfl, rfl, by kernel_rfl, by kernel_rfl, by kernel_rfl, by kernel_rfl, by kernel_rfl, rfl, by kernel_rfl⟩
theorem rl4 : findIn (K4 w) (.ref 31) "readline" = some none := by kernel_rfl

theorem read_headers4 {n : Nat} {σ : Type} {S : List Addr} {B : Nat} {ok : Addr → Prop} {St : σ → Heap → Prop} {nx : σ → Bs × σ} {x : Addr} (sr : Src pg4 w (K4 w) mg mb 31 n S B ok St nx x) {s s' : σ} {ls : List Bs} (tk : Take nx s ls s') (hls : ls.length ≤ 100)
    {h : Heap} {A : Around} (hs : St s h) (r : Room A (n + 1)) :
    EvC (model pg4 w) A (.call (.ref 21) ⟨[.ref x], []⟩) h fun v h' => ∃ a vs, v = .ref a ∧ h.objs.size ≤ a ∧ Lst h' a vs ∧ Bts vs ls ∧ Keep S h h' ∧ St s' h' := by
  have G := sr.gd hs
  have ho := G.X 21 _ rfl
  have hcd : h.CodeRec (.ref 20) (Str.ofString "_read_headers") := codeRec_of G.X (by kernel_rfl)
  have hcls := (exc4 (w := w))
  obtain ⟨cd, hcls⟩ := hcls
  refine EvC.fn (binds := [("fp", .ref x)]) r.here ho rfl G.lim hcd rfl rfl (by decide) (locs rfl) fun h1 hn1 k1 l1 => ?_
  -- headers = []
  refine Ev.cons (Ev.assign (Ev.list (Ev.items_nil ⟨by decide, fun h2 q2 k2 z2 => Ev.store (k2.ns hn1 (by simp)) fun h3 hn3 k3 => ?_⟩)))
  have hB := sr.lo hs
  have s3 : St s h3 := sr.keep (sr.keep (sr.keep hs k1 all0) k2 all0) k3 (all1 (sr.okB _ hB))
  have kk3 : Keep S h h3 := ((k1.trans k2).nil (S := S)).then k3 (all1 (.inr (Nat.le_refl _)))
  have q3 : Lst h3 h1.objs.size [] := q2.keep k3 (ni (by omega))
  refine Ev.cons (Ev.while (fun k h' => ∃ done rest st vs m, ls = done ++ rest ∧ rest.length = k ∧ Take nx st rest s' ∧ h'.Ns h.objs.size m ∧ m "fp" = some (.ref x) ∧ m "headers" = some (.ref h1.objs.size) ∧ Lst h' h1.objs.size vs ∧ Bts vs done ∧ Keep S h h' ∧ St st h')
    ls.length ⟨[], ls, s, [], _, rfl, rfl, tk, hn3, (upd_ne (by decide)).trans rfl, upd_same, q3, .nil, kk3, s3⟩ ?_)
  rintro k h4 ⟨done, rest, st, vs, m, e1, e2, tk4, hn4, hf4, hh4, q4, b4, kk4, s4⟩
  refine Ev.isTrue_bool (Ev.bool ⟨true, rfl, ?_⟩)
  rw [if_pos rfl]
  have G4 := sr.gd s4
  -- line = fp.readline(_MAXLINE + 1)
  refine Ev.cons (Ev.assign (Ev.callM (Ev.local hn4 hf4 ?_)))
  obtain ⟨t, d0, m0, f, of, fd, x1, x2, x3, x4, x5, x6⟩ := sr.rd s4
  refine ⟨.ref f, [], fun pl => Ev.getMethod_exc hcls G4.X x1 x2 x3 rl4 rfl ⟨rfl, rfl⟩, Ev.items_cons (Ev.binop (Ev.global G4 rfl (Ev.int fun t => Ev.add_int fun t => Ev.items_nil ⟨keeper_fn x4 x5, Ev.call ((x6 _ _ (r.deeper _)).mono ?_)⟩)))⟩
  rintro v h5 ⟨tkb, rfl, k5, s5⟩
  have hn5 := k5.ns hn4 (nis sr.low hB)
  refine Ev.store hn5 fun h6 hn6 k6 => ?_
  have s6 := sr.keep s5 k6 (all1 (sr.okB _ hB))
  have q6 := (q4.keep k5 (nis sr.low (by omega))).keep k6 (ni (by omega))
  have kk6 : Keep S h h6 := (kk4.trans k5).then k6 (all1 (.inr (Nat.le_refl _)))
  have G6 := sr.gd s6
  obtain ⟨b, st', rest', hb, hbsz, e3, alt⟩ := tk4.inv
  rw [hb] at s6 hn6
  dsimp only at s6 hn6
  have hlen := b4.length
  have hlen2 : done.length + rest'.length + 1 ≤ 100 := by rw [e1, e3] at hls; simp at hls; omega
  -- if len(line) > _MAXLINE
  refine Ev.cons (Ev.ite (Ev.isTrue1 (Ev.callN (Ev.builtin G6 rfl rfl (Ev.items_cons (Ev.local hn6 upd_same (Ev.items_nil ⟨keeper_builtin, Ev.len_bytes (by omega) fun t => Ev.global G6 rfl (Ev.gt_int ⟨_, rfl, ?_⟩)⟩)))))))
  rw [if_neg (by simp only [decide_eq_true_eq]; omega)]
  refine Ev.nil ?_
  -- headers.append(line)
  refine Ev.cons (Ev.expr (Ev.callM (Ev.local hn6 ((upd_ne (by decide)).trans hh4) ⟨_, _, fun pl => getMethod_plain (fun g d tk os => q6.isList.typeIs) F.plainAttrs_list F.slot_list_append F.type_list_append
    (fun a e => by cases e; obtain ⟨n, q⟩ := q6; exact ⟨_, q, rfl⟩), Ev.items_cons (Ev.local hn6 upd_same (Ev.items_nil ⟨keeper_builtin, Ev.append q6 (by omega) fun h7 k7 q7 => ⟨rfl, ?_⟩⟩))⟩)))
  have hn7 := k7.ns hn6 (ni (by omega))
  have s7 := sr.keep s6 k7 (all1 (sr.okB _ (by omega)))
  have kk7 : Keep S h h7 := kk6.then k7 (all1 (.inr (by omega)))
  have G7 := sr.gd s7
  have b7 : Bts (vs ++ [Value.bytes b tkb]) (done ++ [b]) := b4.append (.one _ _)
  -- if len(headers) > _MAXHEADERS
  refine Ev.cons (Ev.ite (Ev.isTrue1 (Ev.callN (Ev.builtin G7 rfl rfl (Ev.items_cons (Ev.local hn7 ((upd_ne (by decide)).trans hh4) (Ev.items_nil ⟨keeper_builtin, Ev.len_list q7 (by simp; omega) fun t => Ev.global G7 rfl (Ev.gt_int ⟨_, rfl, ?_⟩)⟩)))))))
  rw [if_neg (by simp only [decide_eq_true_eq, List.length_append, List.length_cons, List.length_nil]; omega)]
  refine Ev.nil ?_
  -- if line in (b'\r\n', b'\n', b''): break
  refine Ev.cons (Ev.ite (Ev.isTrue1 (Ev.local hn7 upd_same (Ev.tuple (Ev.items_cons (Ev.bytes fun t1 => Ev.items_cons (Ev.bytes fun t2 => Ev.items_cons (Ev.bytes fun t3 => Ev.items_nil ⟨by simp, ?_⟩))))))))
  refine Ev.in_tuple_bytes (Heap.get?_push_size _ rfl) ?_ ⟨_, rfl, ?_⟩
  · intro v hv
    simp only [List.mem_cons, List.not_mem_nil, or_false] at hv
    rcases hv with rfl | rfl | rfl <;> exact ⟨_, _, rfl⟩
  have hbl : ([Value.bytes [13, 10].toArray t1, Value.bytes [10].toArray t2, Value.bytes ([] : List UInt8).toArray t3].any (isB b)) = blank b := by
    simp only [List.any_cons, List.any_nil, Bool.or_false, blank, isB]
    rw [Bool.beq_comm (a := [13, 10]), Bool.beq_comm (a := [10]), Bool.beq_comm (a := []), Bool.or_assoc]
  rw [hbl]
  have k8 := Keep.push h7 { cls := .type "tuple", data := .seq [Value.bytes [13, 10].toArray t1, Value.bytes [10].toArray t2, Value.bytes ([] : List UInt8).toArray t3].toArray }
  generalize h7.push _ = h8 at k8
  have hn8 := k8.ns hn7 (by simp)
  have s8 := sr.keep s7 k8 all0
  have kk8 : Keep S h h8 := kk7.trans k8.nil
  have q8 := q7.keep k8 (by simp)
  rcases alt with ⟨bl, rfl, rfl⟩ | ⟨bl, tk8⟩
  · rw [bl, if_pos rfl]
    refine Ev.cons (Ev.brk ?_)
    refine Ev.cons (Ev.ret (Ev.local hn8 ((upd_ne (by decide)).trans hh4) ⟨_, _, rfl, Nat.le_of_lt l1, q8, ?_, kk8, s8⟩))
    rw [e1, e3]; exact b7
  · rw [bl, if_neg (by decide)]
    refine Ev.nil (Ev.nil ⟨rest'.length, ?_, done ++ [b], rest', st', _, _, ?_, rfl, tk8, hn8, (upd_ne (by decide)).trans hf4, (upd_ne (by decide)).trans hh4, q8, b7, kk8, s8⟩)
    · rw [← e2, e3]; simp
    · rw [e1, e3]; simp
end
end Mine

namespace Mine

theorem nocell {names : List (Str × NameKind)} (e : (names.all fun x => decide (x.2 ≠ .cell)) = true) : ∀ x ∈ names, x.2 ≠ .cell := fun x hx => of_decide_eq_true (List.all_eq_true.mp e x hx)
/-- no code object's record stands there -/
def NoCode (h : Heap) (a : Addr) : Prop := ∀ o, h.get? a = some o → ∀ vs q t, o.data = .fields vs → vs[1]? ≠ some (.str q t)
theorem NoCode.ns {h : Heap} {L : Addr} {m : Str → Option Value} (n : h.Ns L m) : NoCode h L := fun o e vs q t d => by
  obtain ⟨o', es, ep, ho, hd, _⟩ := n
  rw [ho] at e; cases e; rw [hd] at d; cases d
theorem NoCode.lst {h : Heap} {a : Addr} {vs : List Value} (x : Lst h a vs) : NoCode h a := fun o e us q t d => by
  obtain ⟨n, ho⟩ := x
  rw [ho] at e; cases e; cases d
theorem NoCode.exc {h : Heap} {a C t : Addr} {dd : Option Addr} (x : h.get? a = some (excObj C t dd)) : NoCode h a := fun o e us q t d => by
  rw [x] at e; cases e; cases d; simp
theorem NoCode.none {h : Heap} {a : Addr} (x : h.get? a = .none) : NoCode h a := fun o e => by rw [x] at e; cases e
theorem CodeRec.keep {S : List Addr} {h h' : Heap} {cd : Value} {q : Str} (x : h.CodeRec cd q) (k : Keep S h h') (n : ∀ a ∈ S, NoCode h a) : h'.CodeRec cd q :=
  let ⟨c, o, vs, t, e, g, d, r⟩ := x; ⟨c, o, vs, t, e, k.get c o (fun z => n c z o g vs q t d r) g, d, r⟩

/-- an object that is no code's record stands there -/
def Plain (h : Heap) (a : Addr) : Prop := ∃ o, h.get? a = some o ∧ ∀ vs q t, o.data = .fields vs → vs[1]? ≠ some (.str q t)
theorem Plain.no {h : Heap} {a : Addr} (x : Plain h a) : NoCode h a := fun o e => by obtain ⟨o', e', r⟩ := x; rw [e'] at e; cases e; exact r
theorem Plain.keep {S : List Addr} {h h' : Heap} {a : Addr} (x : Plain h a) (k : Keep S h h') (n : a ∉ S) : Plain h' a := let ⟨o, e, r⟩ := x; ⟨o, k.get _ _ n e, r⟩
theorem Plain.lt {h : Heap} {a : Nat} (x : Plain h a) : a < h.objs.size := let ⟨o, e, r⟩ := x; Heap.lt_size e
theorem Plain.ns {h : Heap} {L : Addr} {m : Str → Option Value} (n : h.Ns L m) : Plain h L := let ⟨o, es, ep, ho, hd, r⟩ := n; ⟨o, ho, NoCode.ns n o ho⟩
theorem Plain.isList {h : Heap} {a : Addr} {vs : Array Value} (x : h.IsList a vs) : Plain h a := by
  obtain ⟨o, e, _, n, d⟩ := x
  exact ⟨o, e, fun us q t d' => by rw [d] at d'; cases d'⟩
/-- the table of the inner codes: empty, or the one code of this place -/
def Tab (h : Heap) (P : Addr) (pos : Pos) (qual : Str) : Prop :=
  ∃ ps, h.get? P = some (tabObj ps) ∧ (ps = #[] ∨ ∃ c', ps = #[rawInt pos.line, rawInt pos.col, .ref c'] ∧ h.CodeRec (.ref c') qual)
theorem Tab.keep {S : List Addr} {h h' : Heap} {P : Addr} {pos : Pos} {qual : Str} (x : Tab h P pos qual) (k : Keep S h h') (hP : P ∉ S) (n : ∀ a ∈ S, NoCode h a) : Tab h' P pos qual := by
  obtain ⟨ps, e, q⟩ := x
  refine ⟨ps, k.get _ _ hP e, q.imp id fun ⟨c', e1, e2⟩ => ⟨c', e1, CodeRec.keep e2 k n⟩⟩
theorem NoCode.tab {h : Heap} {P : Addr} {pos : Pos} {qual : Str} (x : Tab h P pos qual) : NoCode h P := fun o e vs q t d => by
  obtain ⟨ps, e1, alt⟩ := x
  rw [e1] at e; cases e; cases d
  rcases alt with rfl | ⟨c', rfl, _⟩ <;> simp [rawInt]

theorem Plain.tab {h : Heap} {P : Addr} {pos : Pos} {qual : Str} (x : Tab h P pos qual) : Plain h P := let ⟨ps, e, r⟩ := x; ⟨_, e, NoCode.tab ⟨ps, e, r⟩ _ e⟩

section
variable {M : Model} {A : Around} {h : Heap} {K : Frag} {mg mb : Str → Option Value} {env : Env} {name qual : Str} {params : Arguments} {scope : Scope} {clos : List (Str × Addr)} {c P : Addr} {pos : Pos} {firstLine : Nat} {Q : Value → Heap → Prop}
theorem Gd.apart {pos : Pos} (G : Gd K mg mb h) (T : Tab h P pos qual) : mainGlobals ≠ P ∧ h.BuiltinsAt mg P := by
  obtain ⟨ps, e1, _⟩ := T
  obtain ⟨bm, ob, b1, b2, b3, b4, b5, b6⟩ := G.bmain
  refine ⟨fun q => ?_, bm, ob, b1, b2, fun q => ?_, fun q => ?_, b3, b4, b5, b6⟩
  · obtain ⟨o, es, ep, e, hd, _⟩ := G.g
    rw [q, e1] at e; cases e; cases hd
  · obtain ⟨o, es, ep, e, hd, _⟩ := G.g
    rw [q, e] at b3; cases b3; rw [hd] at b6; cases b6
  · rw [q, e1] at b3; cases b3; cases b4
/-- a def in a body -/
theorem Ev.mkFn {body : List Stmt} (G : Gd K mg mb h) (C : CodeHd h c P) (T : Tab h P pos qual) (hcode : env.code = .ref c) (hcl : closureFor scope env = Pure.pure clos) (hge0 : env.globals = mainGlobals := by rfl)
    (k : ∀ f c' ctv doc h', Keep [P] h h' → h.objs.size ≤ f → h'.get? f = some { cls := .type "function", data := .func (fnX name qual params body scope clos .none .none doc ((mg "__name__").getD .none) none (.ref c') ctv) } →
      h'.CodeRec (.ref c') qual → Tab h' P pos qual → Q (.ref f) h') :
    Ev M A (makeFunction name qual params (.stmts body) scope env [] [] [] pos firstLine) h Q := by
  have ap := G.apart T
  obtain ⟨ps, e1, alt⟩ := T
  intro g d tk os
  rcases alt with rfl | ⟨c', rfl, hrec⟩
  · refine makeFunction_K (mg := mg) (s := ⟨h, g, d, tk, os⟩) hcl hge0 G.g hcode C e1 trivial rfl ap.1 ap.2 fun c' ctv doc h' tk' hx hge hlt hrec htb => ⟨_, tk', rfl, ?_⟩
    refine k h'.objs.size c' ctv doc _ ⟨?_, fun a o n e => Heap.get?_push_of_some _ (hx a o (fun z => n (by rw [z]; exact .head _)) e)⟩ ?_ (Heap.get?_push_size _ rfl) (hrec.push _) ⟨_, Heap.get?_push_of_some _ htb, .inr ⟨c', by simp, hrec.push _⟩⟩
    · rw [Heap.size_push]; exact Nat.le_succ_of_le (Nat.le_of_lt (Nat.lt_of_le_of_lt hge hlt))
    · exact Nat.le_of_lt (Nat.lt_of_le_of_lt hge hlt)
  · refine makeFunction_hit (mg := mg) (s := ⟨h, g, d, tk, os⟩) (cv := .ref c') hcl hge0 G.g hcode C e1 (by simp [TriplesOk, rawInt]) (by simp [codeAmong, rawInt]) ap.2 fun ctv doc h' tk' hk hsz => ⟨_, tk', rfl, ?_⟩
    refine k h'.objs.size c' ctv doc _ ⟨?_, fun a o n e => Heap.get?_push_of_some _ (hk a o e)⟩ hsz (Heap.get?_push_size _ rfl) ((hrec.keeps hk).push _) ⟨_, Heap.get?_push_of_some _ (hk _ _ e1), .inr ⟨c', rfl, (hrec.keeps hk).push _⟩⟩
    rw [Heap.size_push]; exact Nat.le_succ_of_le hsz
/-- a lambda in a body -/
theorem Ev.mkLam {body : Expr} (G : Gd K mg mb h) (C : CodeHd h c P) (T : Tab h P pos qual) (hcode : env.code = .ref c) (hcl : closureFor scope env = Pure.pure clos) (hge0 : env.globals = mainGlobals := by rfl)
    (k : ∀ f c' ctv h', Keep [P] h h' → h.objs.size ≤ f → h'.get? f = some { cls := .type "function", data := .func (kla_fn name qual params body scope clos ((mg "__name__").getD .none) (.ref c') ctv) } →
      h'.CodeRec (.ref c') qual → Tab h' P pos qual → Q (.ref f) h') :
    Ev M A (makeFunction name qual params (.expr body) scope env [] [] [] pos firstLine) h Q := by
  have ap := G.apart T
  obtain ⟨ps, e1, alt⟩ := T
  intro g d tk os
  rcases alt with rfl | ⟨c', rfl, hrec⟩
  · refine kla_makeFunction (mg := mg) (s := ⟨h, g, d, tk, os⟩) hcl hge0 G.g hcode C e1 trivial rfl ap.1 ap.2 fun c' ctv h' tk' hx hge hlt hrec htb => ⟨_, tk', rfl, ?_⟩
    refine k h'.objs.size c' ctv _ ⟨?_, fun a o n e => Heap.get?_push_of_some _ (hx a o (fun z => n (by rw [z]; exact .head _)) e)⟩ ?_ (Heap.get?_push_size _ rfl) (hrec.push _) ⟨_, Heap.get?_push_of_some _ htb, .inr ⟨c', by simp, hrec.push _⟩⟩
    · rw [Heap.size_push]; exact Nat.le_succ_of_le (Nat.le_of_lt (Nat.lt_of_le_of_lt hge hlt))
    · exact Nat.le_of_lt (Nat.lt_of_le_of_lt hge hlt)
  · refine kla_makeFunctionHit (mg := mg) (s := ⟨h, g, d, tk, os⟩) (cv := .ref c') hcl hge0 G.g hcode C e1 (by simp [TriplesOk, rawInt]) (by simp [codeAmong, rawInt]) ap.2 fun ctv h' tk' hk hsz => ⟨_, tk', rfl, ?_⟩
    refine k h'.objs.size c' ctv _ ⟨?_, fun a o n e => Heap.get?_push_of_some _ (hk a o e)⟩ hsz (Heap.get?_push_size _ rfl) ((hrec.keeps hk).push _) ⟨_, Heap.get?_push_of_some _ (hk _ _ e1), .inr ⟨c', rfl, (hrec.keeps hk).push _⟩⟩
    rw [Heap.size_push]; exact Nat.le_succ_of_le hsz
theorem Ev.lambda {body : Expr} (k : Ev M A (makeFunction "<lambda>" (env.qual ++ "<lambda>") params (.expr body) scope env [] [] [] pos pos.line) h Q) (hdef : defaultsOf params env = ([], []) := by rfl) :
    Ev M A (eval (.Lambda params body scope pos) env) h Q := fun g d tk os => kla_eval hdef (k g d tk os)
theorem Ev.defn {body : List Stmt} {Q : Flow → Heap → Prop} (k : Ev M A (makeFunction name (qualnameIn env name name) params (.stmts body) scope env [] [] [] pos pos.line) h fun v h1 => Ev M A (storeName env name v) h1 fun _ h2 => Q .next h2)
    (hd0 : params.defaults = [] := by rfl) (hk0 : params.kw_defaults = [] := by rfl) (ha : annTrees params none env = [] := by rfl) :
    Ev M A (exec (.FunctionDef name params body [] none [] scope none name pos) env) h Q := fun g d tk os => nestDef_K hd0 hk0 ha (k.wp fun v h1 t1 p => p.wp fun _ h2 t2 q => ⟨h2, t2, rfl, q⟩)
theorem Ev.assignAttr {o value : Expr} {attr : Str} {pos' : Pos} {Q : Flow → Heap → Prop}
    (k : Ev M A (eval value env) h fun v h1 => Ev M A (eval o env) h1 fun ov h2 => Ev M A (setAttr ov attr v) h2 fun _ h3 => Q .next h3) (hs : swapsWith value (some (.Attribute o attr pos')) pos.line env = Pure.pure false := by rfl) :
    Ev M A (exec (.Assign [.Attribute o attr pos'] value pos) env) h Q :=
  fun g d tk os => plainObj_wpAny_Assign_Attribute (k.wp fun v h1 t1 p => p.wp fun ov h2 t2 q => q.wp fun _ h3 t3 r => ⟨h3, t3, rfl, r⟩) hs
theorem Ev.assignSub {o i value : Expr} {pos' : Pos} {Q : Flow → Heap → Prop}
    (k : Ev M A (eval value env) h fun v h1 => Ev M A (eval o env) h1 fun ov h2 => Ev M A (eval i env) h2 fun iv h3 => Ev M A (setItem ov iv v) h3 fun _ h4 => Q .next h4) (hs : swapsWith value (some (.Subscript o i pos')) pos.line env = Pure.pure false := by rfl) :
    Ev M A (exec (.Assign [.Subscript o i pos'] value pos) env) h Q :=
  fun g d tk os => wpAny_Assign_Subscript (k.wp fun v h1 t1 p => p.wp fun ov h2 t2 q => q.wp fun iv h3 t3 r => r.wp fun _ h4 t4 z => ⟨h4, t4, rfl, z⟩) hs
end

section
variable {prog : Program} {w : World} {A : Around} {h : Heap} {env : Env} {P : Value → Heap → Prop} {pos : Pos}
/-- the type is built in, and what it answers [] with -/
def Items (h : Heap) (o : Value) : Prop := ∃ T id, (∀ g d tk os, (⟨h, g, d, tk, os⟩ : Shared).TypeIs o T) ∧ typeLookup (.type T) "__getitem__" = pure (some (.builtin id))
theorem Ev.letTemp {e : Expr} {o r : Value} {Q : Unit → Heap → Prop} (k : Q () h) : Ev (model prog w) A (letTemporaryGo e o r) h Q := by
  intro g d tk os
  have go : wpAny (model prog w) A (do let _ ← PySem.holding [r] (runValue (.builtin "proto.let_go" {}))) (fun v s' => ∃ h' tk', s' = ⟨h', g, d, tk', os⟩ ∧ Q v h') (fun _ _ => False) ⟨h, g, d, tk, os⟩ :=
    wpAny_bind (wpAny_holding (wpAny_runValue (codeAny_builtin entry_let_go (wpAny_pure (wpAny_pure ⟨h, tk, rfl, k⟩)))))
  have no : wpAny (model prog w) A (Pure.pure ()) (fun v s' => ∃ h' tk', s' = ⟨h', g, d, tk', os⟩ ∧ Q v h') (fun _ _ => False) ⟨h, g, d, tk, os⟩ := wpAny_pure ⟨h, tk, rfl, k⟩
  unfold letTemporaryGo
  split
  · exact no
  · exact go
  · exact no
theorem Ev.subscript {value slice : Expr} (k : Ev (model prog w) A (eval value env) h fun o h1 => Ev (model prog w) A (eval slice env) h1 fun i h2 => Items h2 o ∧ Ev (model prog w) A (getItem o i) h2 P) :
    Ev (model prog w) A (eval (.Subscript value slice pos) env) h P := by
  intro g d tk os
  refine Subscript_ (k.wp fun o h1 t1 p => p.wp fun i h2 t2 ⟨⟨T, id, hT, hl⟩, q⟩ => ?_)
  have hT' := hT g d t2 os
  unfold subscriptTail
  refine wpAny_bind ?_
  rw [getitemInPython_of_ne hT'.not_modules]
  refine wpAny_bind (wpAny_specialOf hT' hl (wpAny_pure ?_))
  have op : ∀ l, Ev (model prog w) A (operate l (getItem o i)) h2 P := fun l g d tk os Γ p hΓ => by rw [Sem.wp_operate]; exact q g d tk os Γ p hΓ
  have fin : ∀ l, wpAny (model prog w) A (operate l (getItem o i)) (fun r s' => wpAny (model prog w) A (letTemporaryGo value o r >>= fun _ => Pure.pure r) (fun v s' => ∃ h' tk', s' = ⟨h', g, d, tk', os⟩ ∧ P v h') (fun _ _ => False) s') (fun _ _ => False) ⟨h2, g, d, t2, os⟩ :=
    fun l => (op l).wp fun r h3 t3 z => wpAny_bind ((Ev.letTemp (Q := fun _ h4 => P r h4) z).wp fun _ h4 t4 y => wpAny_pure ⟨h4, t4, rfl, y⟩)
  unfold subscripted
  split
  · exact wpAny_bind (fin _)
  · rename_i hb; cases hb
  · exact wpAny_bind (fin _)
theorem Items.isList {l : Addr} {vs : Array Value} (x : h.IsList l vs) : Items h (.ref l) := ⟨"list", _, fun g d tk os => Heap.IsList.typeIs (s := ⟨h, g, d, tk, os⟩) x, slot_list_getitem.lookup⟩
theorem Items.lst {l : Addr} {vs : List Value} (x : Lst h l vs) : Items h (.ref l) := .isList x.isList
theorem Ev.getItem_list {l : Addr} {vs : List Value} {i : Int} {t : Tok} {v : Value} (x : h.IsList l vs.toArray) (h0 : 0 ≤ i) (hv : vs[i.toNat]? = some v) (hi : vs.length ≤ 1099511627776) (k : P v h) : Ev (model prog w) A (getItem (.ref l) (.int i t)) h P := by
  have : i.toNat < vs.length := (List.getElem?_eq_some_iff.mp hv).1
  exact fun g d tk os => wpAny_getItem_list (s := ⟨h, g, d, tk, os⟩) x h0 (by omega) (by simpa using hv) ⟨h, tk, rfl, k⟩
theorem Ev.setItem_list {l : Addr} {vs : List Value} {i : Int} {t : Tok} {v : Value} {Q : Unit → Heap → Prop} (x : h.IsList l vs.toArray) (h0 : 0 ≤ i) (hv : i < vs.length) (hi : vs.length ≤ 1099511627776)
    (k : ∀ h', Keep [l] h h' → h'.IsList l (vs.set i.toNat v).toArray → Q () h') : Ev (model prog w) A (setItem (.ref l) (.int i t) v) h Q :=
  fun g d tk os => wpAny_setItem_list (s := ⟨h, g, d, tk, os⟩) x h0 (by omega) (by simpa using hv) fun h' y hs => ⟨h', tk, rfl, k h' (.of_sameBut hs) (by simpa using y)⟩
theorem isList_keep {S : List Addr} {h' : Heap} {l : Addr} {vs : Array Value} (x : h.IsList l vs) (k : Keep S h h') (n : l ∉ S) : h'.IsList l vs := let ⟨o, ho, r⟩ := x; ⟨o, k.get _ _ n ho, r⟩
theorem cell_keep {S : List Addr} {h' : Heap} {c : Addr} {v : Option Value} (x : h.IsCell c v) (k : Keep S h h') (n : c ∉ S) : h'.IsCell c v := let ⟨o, ho, r⟩ := x; ⟨o, k.get _ _ n ho, r⟩
end
end Mine

namespace Mine
open Builtin.Bytes

/-- bytes glued -/
def cat : List Bs → Bs
  | [] => #[]
  | b :: r => b ++ cat r
theorem cat_append (a b : List Bs) : cat (a ++ b) = cat a ++ cat b := by
  induction a with
  | nil => simp [cat]
  | cons x r ih => simp [cat, ih]
theorem cat_size (a : List Bs) : (cat a).size = (a.map Array.size).sum := by
  induction a with
  | nil => rfl
  | cons x r ih => simp [cat, ih]

theorem joined_eq (l : List Bs) : joined #[] l = cat l := by
  have key : ∀ (l : List Bs) (k : Nat) (acc : Bs), (l.zipIdx k).foldl (fun out (p : Bs × Nat) => (if p.2 > 0 then out ++ #[] else out) ++ p.1) acc = acc ++ cat l := by
    intro l
    induction l with
    | nil => intro k acc; simp [cat]
    | cons x r ih =>
      intro k acc
      simp only [List.zipIdx_cons, List.foldl_cons, Array.append_empty, ite_self]
      have := ih (k + 1) (acc ++ x)
      simp only [Array.append_empty, ite_self] at this
      rw [this]
      simp [cat]
  have := key l 0 #[]
  unfold joined
  simpa using this

theorem fold_sizes (bs : List Bs) : bs.foldl (fun x1 (x2 : Bs) => x1 + x2.size) 0 = (bs.map Array.size).sum := by
  have key : ∀ (bs : List Bs) (n : Nat), bs.foldl (fun x1 (x2 : Bs) => x1 + x2.size) n = n + (bs.map Array.size).sum := by
    intro bs
    induction bs with
    | nil => intro n; simp
    | cons b r ih => intro n; simp only [List.foldl_cons, List.map_cons, List.sum_cons]; rw [ih]; omega
  rw [key]; omega
theorem Bts.get {vs : List Value} {bs : List Bs} (x : Bts vs bs) (i : Nat) (hi : i < vs.length) : ∃ b t, vs[i]? = some (.bytes b t) ∧ bs[i]? = some b := by
  induction x generalizing i with
  | nil => simp at hi
  | @cons b t vs bs x ih =>
    cases i with
    | zero => exact ⟨b, t, rfl, rfl⟩
    | succ i => simpa using ih i (by simpa using hi)
theorem Bts.all {vs : List Value} {bs : List Bs} (x : Bts vs bs) : ∀ v ∈ vs, ∃ b t, v = .bytes b t := by
  induction x with
  | nil => intro v hv; cases hv
  | cons x ih =>
    intro v hv
    rcases List.mem_cons.mp hv with rfl | hv
    · exact ⟨_, _, rfl⟩
    · exact ih v hv
theorem slot_join : Slot "bytes" "join" "bytes.join" :=
  .of (owner := "bytes") (n := "join") (by rw [typeLookup_type, builtinLookup_eq_fast]; kernel_rfl) (by decide +kernel) (by decide +kernel) (by decide +kernel)
    (by first | exact .inl (by decide +kernel) | exact .inr (by decide +kernel)) (by rw [isSubtype_type]; kernel_rfl)
theorem entry_join : entryFor table "bytes.join" = some Builtin.«bytes.join» := entryFor_of_tree (by kernel_rfl)
theorem type_join : typeOf (.builtin "bytes.join") = pure (.type "method_descriptor") := by show builtinType _ = _; rw [builtinType_eq_fast]; kernel_rfl
theorem args_join (a b : Value) : argsOk "bytes.join" ⟨[a, b], []⟩ := by unfold argsOk; kernel_rfl
theorem take_eq {id : String} {b : Bs} {t : Tok} : takeBufferQuiet? id (.bytes b t) 0 = pure (some (b, none)) := by
  unfold takeBufferQuiet? takeBuffer?
  rw [KBy.special_eq KBy.look_buffer, KBy.own_buffer]
  have e : buffer? id (.bytes b t) ((0 : Int) == fullReadOnly) = pure (some b) := KBy.buffer_eq
  simp only [pure_bind, Bool.not_true, Bool.false_eq_true, if_false, e]
  rfl
theorem letGo_join {M : Model} {A : Around} {E : Value → Shared → Prop} {Q : Unit → Shared → Prop} {s : Shared} {keep : List Value} (k : Q () s) : ∀ vs : List Value, wpAny M A (joinLetGo (vs.map fun v => (v, none)) keep) Q E s
  | [] => wpAny_pure k
  | v :: r => by
    show wpAny M A (do letGo [v] _; joinLetGo (r.map fun v => (v, none)) keep) Q E s
    exact wpAny_bind (wpAny_letGo (letGo_join k r))

section
variable {prog : Program} {w : World} {A : Around} {h : Heap} {P : Value → Heap → Prop}
theorem Ev.join {l : Addr} {vs : List Value} {bs : List Bs} {t : Tok} (hl : Lst h l vs) (hb : Bts vs bs) (hz : (cat bs).size ≤ 16777216) (k : ∀ t, P (.bytes (cat bs) t) h) :
    Ev (model prog w) A (PySem.call (.builtin "bytes.join") [.bytes #[] t, .ref l] []) h P := by
  intro g d tk os
  have T : (⟨h, g, d, tk, os⟩ : Shared).TypeIs (.bytes #[] t) "bytes" := typeIs_bytes _ _ _
  refine wpAny_call_entry slot_join T entry_join ?_ (args_join _ _)
  obtain ⟨n, ho⟩ := hl
  unfold Builtin.«bytes.join» joinM
  refine wpAny_bind (m := selfAndOne _ _) (wpAny_pure ?_)
  dsimp only
  rw [if_pos (show (Kind.bytes == Kind.bytes) = true from rfl)]
  refine wpAny_bind (m := joinItems (.ref l)) ?_
  unfold joinItems
  refine wpAny_bind (wpAny_typeOf (s := ⟨h, g, d, tk, os⟩) (T := "list") ⟨_, ho, rfl⟩ ?_)
  rw [if_pos (by rfl)]
  refine wpAny_pure ?_
  refine wpAny_bind (wpAny_seqItems ho rfl ?_)
  dsimp only
  rw [if_pos (show (Kind.bytes == Kind.bytes) = true from rfl)]
  have hlen := hb.length
  rcases vs with _ | ⟨v1, _ | ⟨v2, r⟩⟩
  case cons.nil =>
    cases hb with
    | cons hb =>
      cases hb
      refine wpAny_bind (wpAny_typeOf (typeIs_bytes _ _ _) ?_)
      rw [if_pos (by rfl)]
      refine wpAny_bind (wpAny_rule (wpAny_pure ⟨_, rfl, h, tk, rfl, ?_⟩))
      have := k
      simp only [cat, Array.append_empty] at this
      exact this _
  case' nil => show wpAny _ _ (forIn [:_] _ _ >>= _) _ _ _; generalize ([] : List Value) = vs at *
  case' cons.cons => show wpAny _ _ (forIn [:_] _ _ >>= _) _ _ _; generalize v1 :: v2 :: r = vs at *
  all_goals (
    refine wpAny_bind ?_
    rw [Std.Legacy.Range.forIn_eq_forIn_range']
    refine wpAny_forIn_list _ (fun rest b s' => s' = ⟨h, g, d, tk, os⟩ ∧ ∃ j, j ≤ vs.length ∧ rest = List.range' j (vs.length - j) ∧ b.1 = (bs.take j).toArray ∧ b.2 = (vs.take j).map fun v => (v, none)) _ ?_ ?_ _ _ ?_
    · rintro i rest ⟨ps, tkn⟩ s' ⟨rfl, j, hj, e1, e2, e3⟩
      dsimp only at e2 e3
      subst e2 e3
      obtain ⟨m, hm⟩ : ∃ m, vs.length - j = m + 1 := by
        rcases hq : vs.length - j with _ | m
        · rw [hq] at e1; cases e1
        · exact ⟨m, rfl⟩
      rw [hm, List.range'_succ] at e1
      obtain ⟨rfl, rfl⟩ := List.cons.inj e1
      have hi : i < vs.length := by omega
      obtain ⟨b, u, hv, hbb⟩ := hb.get i hi
      refine wpAny_bind (wpAny_seqItems ho rfl ?_)
      dsimp only
      have hg : vs.toArray.getD i .none = .bytes b u := by
        rw [Array.getD_eq_getD_getElem?, List.getElem?_toArray, hv]; rfl
      rw [hg]
      have hany : ((List.map (fun v => (v, (none : Option Value))) (vs.take i)).any fun x => x.1.onHeap) = false := by
        rw [List.any_map, List.any_eq_false]
        intro x hx
        obtain ⟨b', u', rfl⟩ := hb.all x (List.mem_of_mem_take hx)
        exact Bool.false_ne_true
      rw [hany, if_neg (by decide)]
      refine wpAny_bind (wpAny_holding (wpAny_of_eq take_eq ?_))
      dsimp only
      refine wpAny_bind (wpAny_seqItems ho rfl ?_)
      dsimp only
      rw [if_neg (by simp)]
      refine wpAny_pure ⟨rfl, i + 1, hi, ?_, ?_, ?_⟩
      · rw [show vs.length - (i + 1) = m by omega]
      · rw [List.take_add_one, hbb]; simp
      · rw [List.take_add_one, hv]; simp
    · rintro ⟨ps, tkn⟩ s' ⟨rfl, j, hj, e1, e2, e3⟩
      dsimp only at e2 e3
      have hj' : vs.length - j = 0 := by
        have := congrArg List.length e1
        simpa using this.symm
      rw [List.take_of_length_le (by omega)] at e2 e3
      subst e2 e3
      dsimp only
      refine wpAny_bind (m := payload _) (wpAny_pure ?_)
      have hsum : Array.foldl (fun x1 (x2 : Bs) => x1 + x2.size) ((#[] : Bs).size * (bs.toArray.size - 1)) bs.toArray = (cat bs).size := by
        rw [cat_size]
        simp only [List.size_toArray, List.length_nil, Nat.zero_mul, List.foldl_toArray']
        exact fold_sizes bs
      rw [hsum, if_neg (by rw [KBy.tooLong_not hz]; exact Bool.false_ne_true), joined_eq]
      refine wpAny_bind (m := Kind.new _ _) (wpAny_mkBytes ?_ (by rw [sizeLine_eq]; exact hz))
      refine wpAny_bind (wpAny_holding (wpAny_point ?_))
      exact wpAny_bind (letGo_join (wpAny_pure ⟨_, rfl, h, _, rfl, k _⟩) vs)
    · exact ⟨rfl, 0, Nat.zero_le _, by simp, rfl, rfl⟩)
end
end Mine

namespace Mine
abbrev sliceObj (l u s : Value) : Obj := { cls := .type "slice", data := .fields #[l, u, s] }
section
variable {M : Model} {A : Around} {h : Heap} {env : Env} {P : Value → Heap → Prop} {pos : Pos}
theorem Ev.part_none (k : P .none h) : Ev M A (evalPart none env) h P := Ev.pure k
theorem Ev.part_some {e : Expr} (k : Ev M A (eval e env) h P) : Ev M A (evalPart (some e) env) h P := k
theorem Ev.slice {lower upper step : Option Expr} (k : Ev M A (evalPart lower env) h fun l h1 => Ev M A (evalPart upper env) h1 fun u h2 => Ev M A (evalPart step env) h2 fun s h3 =>
      ∀ h4, h4.get? h3.objs.size = some (sliceObj l u s) → Keep [] h3 h4 → P (.ref h3.objs.size) h4) : Ev M A (eval (.Slice lower upper step pos) env) h P :=
  fun g d tk os => wpAny_Slice (k.wp fun l h1 t1 p => p.wp fun u h2 t2 q => q.wp fun s h3 t3 r => ⟨_, t3, rfl, r _ (Heap.get?_push_size _ rfl) (.push _ _)⟩)
end
section
variable {prog : Program} {w : World} {A : Around} {h : Heap} {env : Env} {P : Value → Heap → Prop} {pos : Pos}
theorem Items.str {x : Str} {t : Tok} : Items h (.str x t) := ⟨"str", _, fun g d tk os => typeIs_str _ _ _, F.slot_str_getitem.lookup⟩
def strSliceIndices' (x : Str) (i : Nat) : List Nat := Builtin.Str.strSliceIndices (some (i : Int)) none 1 x.length
/-- a text from a place on -/
theorem Ev.strFrom {x : Str} {t ui : Tok} {a : Addr} {i : Nat} (ha : h.get? a = some (sliceObj (.int i ui) .none .none)) (hz : x.length ≤ 16777216) (k : ∀ t, P (.str ⟨(x.cps.toList.drop i).toArray⟩ t) h) :
    Ev (model prog w) A (getItem (.str x t) (.ref a)) h P := by
  intro g d tk os
  have key : StrLaws.sliceText x (some (i : Int)) none = ⟨(x.cps.toList.drop i).toArray⟩ := by
    by_cases hi : (i : Int) ≤ x.cps.toList.length
    · rw [StrLaws.sliceText_from ⟨by omega, hi⟩]
      congr 2
      rw [show ((i : Int)).toNat = i by omega]
      exact List.take_of_length_le (by simp)
    · have e : StrLaws.sliceText x (some (i : Int)) none = StrLaws.sliceText x (some (x.cps.toList.length : Int)) none := by
        unfold StrLaws.sliceText
        have e2 : strSliceIndices' x i = strSliceIndices' x x.cps.toList.length := by
          unfold strSliceIndices'
          simp only [Builtin.Str.strSliceIndices]
          have h1 : ¬ ((i : Int) < 0) := by omega
          have h2 : ¬ ((x.cps.toList.length : Int) < 0) := by omega
          have h3 : x.length = x.cps.toList.length := by simp [Str.length]
          simp only [h1, h2, if_false, h3, show ((1 : Int) > 0) = True from by simp, if_true]
          congr 1
          omega
        unfold strSliceIndices' at e2
        rw [e2]
      rw [e, StrLaws.sliceText_from ⟨by omega, Int.le_refl _⟩]
      rw [List.drop_of_length_le (by omega), List.drop_of_length_le (by omega), List.take_nil]
  refine wpAny_getItem_str_slice (s := ⟨h, g, d, tk, os⟩) (l := some (i, ui)) (u := none) (st := none) ⟨_, ha, rfl, rfl⟩ rfl ?_
  have hq : ∀ t', P (.str (StrLaws.sliceText x (some (i : Int)) none) t') h := fun t' => by rw [key]; exact k t'
  exact post_val_or_str ⟨Nat.le_trans (Txt.slice_le x _ _) (by rw [sizeLine_eq]; exact hz), fun t' k' => ⟨h, k', rfl, hq t'⟩⟩
theorem Ev.add_str {x y : Str} {t u : Tok} (hz : x.length + y.length ≤ 16777216) (k : ∀ t, P (.str (x ++ y) t) h) : Ev (model prog w) A (binaryOp .Add (.str x t) (.str y u)) h P :=
  fun g d tk os => PyProof.Rows.add_str (s := ⟨h, g, d, tk, os⟩) (fun t' tk' => ⟨h, tk', rfl, k t'⟩) (by rw [sizeLine_eq]; exact hz)
theorem mulB : ∀ n : Nat, n ≤ 8 → Txt.mul (Str.ofString "B") (n : Int) = ⟨(List.replicate n 66).toArray⟩ := by decide +kernel
theorem mulOkB : ∀ n : Nat, n ≤ 8 → MulOk (Str.ofString "B") (n : Int) := fun n hn => mulOk_of 16 1048576 (by decide) (by omega) (by omega) (by decide) (by decide)
theorem Ev.mulB {n : Nat} {t u : Tok} (hn : n ≤ 8) (k : ∀ t, P (.str ⟨(List.replicate n 66).toArray⟩ t) h) : Ev (model prog w) A (binaryOp .Mult (.str (Str.ofString "B") t) (.int (n : Int) u)) h P :=
  fun g d tk os => SB.mul (s := ⟨h, g, d, tk, os⟩) (mulOkB n hn) fun t' k' => ⟨h, k', rfl, by rw [Mine.mulB n hn]; exact k t'⟩
theorem Ev.find {x y : Str} {t u : Tok} (k : ∀ t, P (.int (Txt.find x y) t) h) : Ev (model prog w) A (PySem.call (.builtin "str.find") [.str x t, .str y u] []) h P :=
  fun g d tk os => SC.find (s := ⟨h, g, d, tk, os⟩) ⟨h, _, rfl, k _⟩
end
end Mine

namespace Mine
section
variable {prog : Program} {w : World} {A : Around} {h : Heap} {env : Env} {P : Flow → Heap → Prop} {x : Str} {px pos : Pos} {iter : Expr} {body : List Stmt}
/-- one turn of a loop's body -/
def Turn (prog : Program) (w : World) (A : Around) (env : Env) (x : Str) (body : List Stmt) (fix : List Addr) (v : Value) (h : Heap) (N : Heap → Prop) (P : Flow → Heap → Prop) : Prop :=
  Ev (model prog w) A (storeName env x v) h fun _ h' => Ev (model prog w) A (execs body env) h' fun f h'' => match f with
    | .next | .cont => (∃ S, Keep S h h'' ∧ ∀ a ∈ fix, a ∉ S) ∧ N h''
    | .brk => P .next h''
    | .ret v => P (.ret v) h''
theorem Ev.forCore (e : Ev (model prog w) A (eval iter env) h fun xv h1 => Ev (model prog w) A (pyIter xv) h1 fun itv h2 => ∃ (it : Addr) (n : Nat) (It I : Nat → Heap → Prop) (val : Nat → Value → Prop) (fix : List Addr), itv = .ref it ∧ It 0 h2 ∧ I 0 h2 ∧
      (∀ i h, i < n → It i h → Ev (model prog w) A (pyNext (.ref it)) h fun r h' => ∃ v, r = some v ∧ val i v ∧ It (i + 1) h' ∧ Keep [it] h h') ∧
      (∀ h, It n h → Ev (model prog w) A (pyNext (.ref it)) h fun r h' => r = none ∧ Keep [it] h h') ∧
      (∀ i h h' S, It i h → Keep S h h' → (∀ a ∈ fix, a ∉ S) → It i h') ∧
      (∀ i h h', It i h → I i h → Keep [it] h h' → I i h') ∧
      (∀ i v h, i < n → val i v → It (i + 1) h → I i h → Turn prog w A env x body fix v h (I (i + 1)) P) ∧ (∀ h, I n h → P .next h))
    (hs : ∀ x, foldedSetIterable iter env x = Pure.pure x := by intro _; rfl) (ht : ∀ it v, letOwnedTupleGo (.Name x px) it v = Pure.pure () := by intro _ _; rfl) :
    Ev (model prog w) A (exec (.For (.Name x px) iter body [] pos) env) h P := by
  intro g d tk os
  refine wpAny_For (e.wp fun xv h1 t1 e1 => e1.wp fun itv h2 t2 e2 => ?_) hs
  obtain ⟨it, n, It, I, val, fix, rfl, i0, j0, step, stop, stab, cl, turn, fin⟩ := e2
  refine codeAny_forLoop (fun m s => ∃ i h tk, s = ⟨h, g, d, tk, os⟩ ∧ m = n - i ∧ i ≤ n ∧ It i h ∧ I i h) (fun m s hI => ?_) n ⟨0, h2, t2, rfl, by omega, by omega, i0, j0⟩ (ht _)
  obtain ⟨i, h3, t3, rfl, hm, hi, a1, a2⟩ := hI
  by_cases hin : i < n
  · refine (step i h3 hin a1).wp fun r h4 t4 q => ?_
    obtain ⟨v, rfl, q1, q2, q3⟩ := q
    have a4 := cl i h3 h4 a1 a2 q3
    refine wpAny_assign_Name ((turn i v h4 hin q1 q2 a4).wp fun _ h5 t5 p5 => p5.wp fun f h6 t6 p6 => ?_)
    cases f with
    | next => obtain ⟨⟨S, k1, k2⟩, k3⟩ := p6; exact ⟨n - (i + 1), by omega, i + 1, h6, t6, rfl, rfl, by omega, stab _ _ _ _ q2 k1 k2, k3⟩
    | cont => obtain ⟨⟨S, k1, k2⟩, k3⟩ := p6; exact ⟨n - (i + 1), by omega, i + 1, h6, t6, rfl, rfl, by omega, stab _ _ _ _ q2 k1 k2, k3⟩
    | brk => exact ⟨h6, t6, rfl, p6⟩
    | ret v => exact ⟨h6, t6, rfl, p6⟩
  · have : i = n := by omega
    subst this
    refine (stop h3 a1).wp fun r h4 t4 q => ?_
    obtain ⟨rfl, q3⟩ := q
    exact wpAny_execs_nil ⟨h4, t4, rfl, fin _ (cl i h3 h4 a1 a2 q3)⟩

/-- over a list that stands -/
theorem Ev.forList {vs : List Value} (hh : A.handled = none) (e : Ev (model prog w) A (eval iter env) h fun xv h1 => ∃ (l : Addr) (I : Nat → Heap → Prop), xv = .ref l ∧ h1.IsList l vs.toArray ∧
      (∀ h2, Keep [] h1 h2 → h2.objs.size = h1.objs.size + 1 → I 0 h2) ∧ (∀ i h h', I i h → Keep [h1.objs.size] h h' → I i h') ∧
      (∀ i v h, vs[i]? = some v → I i h → Turn prog w A env x body [h1.objs.size, l] v h (I (i + 1)) P) ∧ (∀ h, I vs.length h → P .next h))
    (hs : ∀ x, foldedSetIterable iter env x = Pure.pure x := by intro _; rfl) (ht : ∀ it v, letOwnedTupleGo (.Name x px) it v = Pure.pure () := by intro _ _; rfl) :
    Ev (model prog w) A (exec (.For (.Name x px) iter body [] pos) env) h P := by
  refine Ev.forCore (e.mono fun xv h1 ⟨l, I, e1, hl, i0, cl, turn, fin⟩ => ?_) hs ht
  subst e1
  intro g d tk os
  refine wpAny_pyIter_list (s := ⟨h1, g, d, tk, os⟩) hl ⟨_, tk, rfl, h1.objs.size, vs.length, fun i h => h.IsListIter h1.objs.size l i ∧ h.IsList l vs.toArray, I, fun i v => vs[i]? = some v, [h1.objs.size, l], rfl,
    ⟨⟨_, Heap.get?_push_size _ rfl, rfl, rfl⟩, hl.push _⟩, i0 _ (.push _ _) (Heap.size_push ..), ?_, ?_, ?_, fun i h h' _ => cl i h h', fun i v h _ hv _ => turn i v h hv, fin⟩
  · rintro i h3 hi ⟨q1, q2⟩ g d tk os
    have e0 : vs.toArray[i]? = some vs[i] := by simp [hi]
    refine wpAny_pyNext_list_item (s := ⟨h3, g, d, tk, os⟩) q1 q2 e0 fun h' r1 r2 => ⟨h', tk, rfl, _, rfl, by simp [hi], ⟨r1, ?_⟩, .of_sameBut r2⟩
    have ne : l ≠ h1.objs.size := by
      intro q
      obtain ⟨o, ho, hc, _⟩ := q1
      obtain ⟨o', ho', hc', _⟩ := q2
      rw [q, ho] at ho'
      cases ho'
      rw [hc] at hc'
      exact absurd hc' (by decide)
    exact isList_keep q2 (.of_sameBut r2) (ni ne)
  · rintro h3 ⟨q1, q2⟩
    refine Ev.keeping (S := [h1.objs.size]) fun g d tk os => wpAny_pyNext_list_end (s := ⟨h3, g, d, tk, os⟩) hh q1 q2 (by simp) fun h' r => ⟨h', tk, rfl, fun a o n e => r a o (fun z => n (by rw [z]; exact .head _)) e, fun k => ⟨rfl, k⟩⟩
  · rintro i h3 h4 S ⟨q1, q2⟩ k n
    obtain ⟨o, ho, r⟩ := q1
    exact ⟨⟨o, k.get _ _ (n _ (by simp)) ho, r⟩, isList_keep q2 k (n _ (by simp))⟩
/-- over a range of step 1 -/
theorem Ev.forRange (hh : A.handled = none) (e : Ev (model prog w) A (eval iter env) h fun xv h1 => ∃ (r : Addr) (a b : Int) (t u v : Tok) (I : Nat → Heap → Prop), xv = .ref r ∧ IsRange h1 r a b 1 t u v ∧ a ≤ b ∧ -1000000 ≤ a ∧ b ≤ 1000000 ∧
      (∀ h2, Keep [] h1 h2 → h2.objs.size = h1.objs.size + 1 → I 0 h2) ∧ (∀ i h h', (∃ x y, IsRangeIter h h1.objs.size x y 1) → I i h → Keep [h1.objs.size] h h' → I i h') ∧
      (∀ (i : Nat) tk h, (i : Int) < b - a → (∃ x y, IsRangeIter h h1.objs.size x y 1) → I i h → Turn prog w A env x body [h1.objs.size] (.int (a + i) tk) h (I (i + 1)) P) ∧ (∀ h, I (b - a).toNat h → P .next h))
    (hs : ∀ x, foldedSetIterable iter env x = Pure.pure x := by intro _; rfl) (ht : ∀ it v, letOwnedTupleGo (.Name x px) it v = Pure.pure () := by intro _ _; rfl) :
    Ev (model prog w) A (exec (.For (.Name x px) iter body [] pos) env) h P := by
  refine Ev.forCore (e.mono fun xv h1 ⟨r, a, b, t, u, v, I, e1, hr, hab, ha, hb, i0, cl, turn, fin⟩ => ?_) hs ht
  subst e1
  intro g d tk os
  refine wpAny_pyIter_range (s := ⟨h1, g, d, tk, os⟩) hr (small_one (by omega) (by omega) (by omega) (by omega)) ⟨_, tk, rfl, h1.objs.size, (b - a).toNat, fun i h => IsRangeIter h h1.objs.size (a + i) (b - a - i) 1, I, fun i v => ∃ tk, v = .int (a + i) tk, [h1.objs.size], rfl,
    ?_, i0 _ (.push _ _) (Heap.size_push ..), ?_, ?_, ?_, fun i h h' it => cl i h h' ⟨_, _, it⟩, fun i v h hi ⟨tk, e⟩ it hI => e ▸ turn i tk h (by omega) ⟨_, _, it⟩ hI, fin⟩
  · have e : Builtin.Range.rangeSize a b 1 = b - a := by rw [rangeSize_one]; split <;> omega
    rw [e]
    simp only [Int.add_zero, Int.sub_zero, Int.ofNat_zero]
    exact Heap.get?_push_size _ rfl
  · rintro i h3 hi q1 g d tk os
    refine wpAny_pyNext_range_item (s := ⟨h3, g, d, tk, os⟩) q1 (by omega) fun h' r1 r2 => ⟨h', _, rfl, _, rfl, ⟨_, rfl⟩, ?_, .of_sameBut r2⟩
    show IsRangeIter h' h1.objs.size (a + ((i + 1 : Nat) : Int)) (b - a - ((i + 1 : Nat) : Int)) 1
    rw [show a + ((i + 1 : Nat) : Int) = a + i + 1 by omega, show b - a - ((i + 1 : Nat) : Int) = b - a - i - 1 by omega]
    exact r1
  · rintro h3 q1
    refine Ev.keeping (S := [h1.objs.size]) fun g d tk os => wpAny_pyNext_range_end (s := ⟨h3, g, d, tk, os⟩) hh q1 (by omega) fun h' r => ⟨h', tk, rfl, fun a o n e => r a o (fun z => n (by rw [z]; exact .head _)) e, fun k => ⟨rfl, k⟩⟩
  · rintro i h3 h4 S q1 k n
    exact k.get _ _ (n _ (by simp)) q1
end
end Mine

namespace Mine
section
variable {prog : Program} {w : World} {A : Around} {h : Heap} {env : Env} {P : Value → Heap → Prop} {pos : Pos}
theorem Ev.range1 {n : Int} {t : Tok} (k : ∀ h' t' u', Keep [] h h' → h.objs.size < h'.objs.size → IsRange h' h.objs.size 0 n 1 t' t u' → P (.ref h.objs.size) h') : Ev (model prog w) A (PySem.call (.type "range") [.int n t] []) h P :=
  fun g d tk os => call_range_1 (s := ⟨h, g, d, tk, os⟩) ⟨_, _, rfl, k _ _ _ (.push _ _) (by rw [Heap.size_push]; exact Nat.lt_succ_self _) (.new _ _ _ _ _ _ _)⟩
theorem Ev.range2 {a b : Int} {t u : Tok} (k : ∀ h' v', Keep [] h h' → h.objs.size < h'.objs.size → IsRange h' h.objs.size a b 1 t u v' → P (.ref h.objs.size) h') : Ev (model prog w) A (PySem.call (.type "range") [.int a t, .int b u] []) h P :=
  fun g d tk os => call_range_2 (s := ⟨h, g, d, tk, os⟩) ⟨_, _, rfl, k _ _ (.push _ _) (by rw [Heap.size_push]; exact Nat.lt_succ_self _) (.new _ _ _ _ _ _ _)⟩
theorem Ev.fdiv_int {a b : Int} {t u : Tok} (hb : b ≠ 0) (hs : b.natAbs < 1073741824) (k : ∀ t, P (.int (a.fdiv b) t) h) : Ev (model prog w) A (binaryOp .FloorDiv (.int a t) (.int b u)) h P :=
  fun g d tk os => floordiv_int hb ⟨h, _, rfl, k _⟩ (.inl (PyProof.noPylong_small hs))
theorem Ev.add_bytes {b c : Array UInt8} {t u : Tok} (hz : b.size + c.size ≤ 16777216) (k : ∀ t, P (.bytes (b ++ c) t) h) : Ev (model prog w) A (binaryOp .Add (.bytes b t) (.bytes c u)) h P :=
  fun g d tk os => KBy.add_bytes (s := ⟨h, g, d, tk, os⟩) hz fun t' k' => ⟨h, k', rfl, k t'⟩
/-- bytes of a list of one int -/
theorem Ev.bytes1 {l : Addr} {n : Int} {t : Tok} (hh : A.handled = none) (hl : Lst h l [.int n t]) (h0 : 0 ≤ n) (h1 : n < 256) (k : ∀ h' t, Keep [] h h' → P (.bytes #[n.toNat.toUInt8] t) h') : Ev (model prog w) A (PySem.call (.type "bytes") [.ref l] []) h P :=
  Ev.keeping (S := []) fun g d tk os => call_bytes_ints (s := ⟨h, g, d, tk, os⟩) (ns := [n]) hl.isList (.cons _ _ .nil) (by simpa using ⟨h0, h1⟩) (by rw [sizeLine_eq]; simp) hh fun h' t k' hk => ⟨h', k', rfl, fun a o _ e => hk a o e, fun kk => k h' t kk⟩
/-- a part of a list -/
theorem Ev.getSlice {l sl : Addr} {vs : List Value} {vl vu vst : Value} {lo hi st : Option Int} (hl : h.IsList l vs.toArray) (hs : h.get? sl = some (sliceObj vl vu vst)) (pl : IsPart vl lo) (pu : IsPart vu hi) (ps : IsPart vst st) (h0 : st ≠ some 0) (hz : vs.length ≤ 16777216)
    {us : List Value} (e : slicePick vs.toArray lo hi st = us.toArray) (k : ∀ h', Lst h' h.objs.size us → Keep [] h h' → h'.objs.size = h.objs.size + 1 → P (.ref h.objs.size) h') : Ev (model prog w) A (getItem (.ref l) (.ref sl)) h P :=
  fun g d tk os => wpAny_getItem_list_slice (s := ⟨h, g, d, tk, os⟩) hl ⟨_, hs, rfl, rfl⟩ pl pu ps h0 ⟨_, tk, rfl, by rw [e]; exact k _ (.new _ _) (.push _ _) (Heap.size_push ..)⟩ (by rw [sizeLine_eq]; simpa using hz)
theorem Ev.item_str {x : Str} {i : Int} {t u : Tok} (h0 : 0 ≤ i) (h1 : i < x.length) (hz : x.length ≤ 16777216) (k : ∀ t, P (.str (Txt.item x i) t) h) : Ev (model prog w) A (getItem (.str x t) (.int i u)) h P := by
  intro g d tk os
  obtain ⟨T, id, _, _, q⟩ := PyProof.Rows.SBL.item (prog := prog) (w := w) (A := A) (E := fun _ _ => False) (t := t) (u := u) (s := ⟨h, g, d, tk, os⟩) (Q := fun v s' => ∃ h' tk', s' = ⟨h', g, d, tk', os⟩ ∧ P v h') (x := x) (i := i) (by omega) (by omega) (by omega) (fun _ => ⟨h, _, rfl, k _⟩)
  exact q
/-- lists of bytes: are they the same -/
theorem Ev.ne_lists {l b : Addr} {vs us : List Value} {xs ys : List Bs} (hl : Lst h l vs) (hb : Lst h b us) (x : Bts vs xs) (y : Bts us ys) (hu : A.units < cLine) (e : xs = ys) (k : P (.bool false) h) : Ev (model prog w) A (compareOp .NotEq (.ref l) (.ref b)) h P := by
  subst e
  intro g d tk os
  have hlen : vs.length = us.length := x.length.trans y.length.symm
  have key := SeqAt.RcNeAt.lists (A := A) (s := ⟨h, g, d, tk, os⟩) (e := fun _ => true) hl.isList hb.isList (by simpa using hlen) hu (fun j h1 h2 => by
    have h1' : j < vs.length := by simpa using h1
    have h2' : j < us.length := by simpa using h2
    obtain ⟨b1, t1, e1, e2⟩ := x.get j h1'
    obtain ⟨b2, t2, e3, e4⟩ := y.get j h2'
    rw [e2] at e4; cases e4
    have f1 : vs.toArray[j] = .bytes b1 t1 := by
      have := List.getElem?_eq_getElem h1'
      rw [e1] at this
      simpa using this.symm
    have f2 : us.toArray[j] = .bytes b1 t2 := by
      have := List.getElem?_eq_getElem h2'
      rw [e3] at this
      simpa using this.symm
    rw [f1, f2]
    have := eqAt_bytes (A := A.in1) (s := ⟨h, g, d, tk, os⟩) b1 b1 t1 t2
    simpa using this)
  refine key prog w _ _ ⟨h, tk, rfl, ?_⟩
  have e : (!(List.range vs.toArray.size).all fun _ => true) = false := by simp
  rw [e]; exact k
theorem Bts.take {vs : List Value} {bs : List Bs} (x : Bts vs bs) (n : Nat) : Bts (vs.take n) (bs.take n) := by
  induction x generalizing n with
  | nil => simp; exact .nil
  | cons x ih => cases n with
    | zero => exact .nil
    | succ n => exact .cons (ih n)
theorem Bts.drop {vs : List Value} {bs : List Bs} (x : Bts vs bs) (n : Nat) : Bts (vs.drop n) (bs.drop n) := by
  induction x generalizing n with
  | nil => simp; exact .nil
  | cons x ih => cases n with
    | zero => exact .cons x
    | succ n => exact ih n
end
end Mine

namespace Mine
/-- the tests of a comprehension -/
def tests (ifs : List Expr) (env : Env) : Sem Bool := forIn ifs true fun c r => if r = true then do let ok ← isTrue c env (eval c env); pure (ForInStep.yield ok) else pure (ForInStep.yield r)
section
variable {prog : Program} {w : World} {A : Around} {h : Heap} {env : Env}
theorem Ev.tests_nil {P : Bool → Heap → Prop} (k : P true h) : Ev (model prog w) A (tests [] env) h P := fun g d tk os => wpAny_tests_nil ⟨h, tk, rfl, k⟩
theorem Ev.tests_one {c : Expr} {P : Bool → Heap → Prop} (k : Ev (model prog w) A (isTrue c env (eval c env)) h P) : Ev (model prog w) A (tests [c] env) h P := fun g d tk os => wpAny_tests_one (k g d tk os)
theorem compLoop_any {elt target iter : Expr} {ifs : List Expr} {scope : Scope} {pos : Pos} {it acc : Value} {R : Result → Shared → Prop} {s : Shared} (I : Nat → Shared → Prop)
    (turn : ∀ n s, I n s → wpAny (model prog w) A (pyNext it) (fun r s₁ => match r with
      | none => R (.ok .next) s₁
      | some v => wpAny (model prog w) A (letOwnedTupleGo target it v) (fun _ s₁' => wpAny (model prog w) A (assign target env v) (fun _ s₂ => wpAny (model prog w) A (tests ifs env) (fun ok s₃ =>
          if ok = true then wpAny (model prog w) A (eval elt env) (fun x s₄ =>
              wpAny (model prog w) A (call (.builtin "list.append") [acc, x]) (fun _ s₅ => ∃ m, m < n ∧ I m s₅) (notedBy (model prog w) A env fun e s' => R (.error e) s') s₄) (notedBy (model prog w) A env fun e s' => R (.error e) s') s₃
          else ∃ m, m < n ∧ I m s₃) (notedBy (model prog w) A env fun e s' => R (.error e) s') s₂) (notedBy (model prog w) A env fun e s' => R (.error e) s') s₁') (notedBy (model prog w) A env fun e s' => R (.error e) s') s₁) (notedBy (model prog w) A env fun e s' => R (.error e) s') s)
    (n : Nat) (h : I n s) : codeAny (model prog w) A (.compLoop (.ListComp elt [⟨target, iter, ifs, 0⟩] scope pos) 0 it acc env) R s := by
  refine codeAny_loop rfl I (fun n s hI => ?_) n h
  show wpAny _ A ((compTurn (.ListComp elt [⟨target, iter, ifs, 0⟩] scope pos) 0 it acc env).onRaise (fun x => do noteFrame x env; theTreesLotGoes x)) _ _ s
  refine wpAny_noted ?_
  rw [compTurn_list]
  refine wpAny_bind (wpAny_standAt (wpAny_bind (wpAny_mono (turn n s hI) (fun r s₁ h₁ => ?_) fun _ _ h' => h')))
  cases r with
  | none => exact wpAny_pure h₁
  | some v =>
    refine wpAny_bind (wpAny_mono h₁ (fun _ s₁' h₁' => ?_) fun _ _ h' => h')
    refine wpAny_bind (wpAny_mono h₁' (fun _ s₂ h₂ => wpAny_bind (wpAny_mono h₂ (fun ok s₃ h₃ => ?_) fun _ _ h' => h')) fun _ _ h' => h')
    cases ok with
    | false => exact wpAny_pure ⟨rfl, h₃⟩
    | true =>
      exact wpAny_bind (wpAny_bind (wpAny_mono h₃ (fun x s₄ h₄ => wpAny_bind (wpAny_mono h₄ (fun _ s₅ h₅ => wpAny_pure (wpAny_pure ⟨rfl, h₅⟩)) fun _ _ h' => h')) fun _ _ h' => h'))
/-- a name gets a comprehension -/
theorem Ev.assignComp {elt target iter : Expr} {ifs : List Expr} {scope : Scope} {y : Str} {py pos spos : Pos} {P : Flow → Heap → Prop}
    (hfree : ∀ z ∈ scope.names, z.2 ≠ .free) (hcell : ∀ z ∈ scope.names, z.2 ≠ .cell) (hkind : scope.kind = .function) (hnames : ∀ z ∈ scope.names, z.2 = .local → scope.names.lookup z.1 = some .local)
    (hsw : swapsWith (.ListComp elt [⟨target, iter, ifs, 0⟩] scope pos) (some (.Name y py)) spos.line env = Pure.pure true)
    (e : Ev (model prog w) A (eval iter env) h fun xv h1 => Ev (model prog w) A (pyIter xv) h1 fun itv h2 => ∀ h3, Keep [] h2 h3 → Lst h3 h2.objs.size [] → h3.Ns (h2.objs.size + 1) (fun _ => none) → h3.objs.size = h2.objs.size + 2 →
      ∃ (it : Addr) (n : Nat) (I : Nat → Heap → Prop), itv = .ref it ∧ I 0 h3 ∧ Ev (model prog w) A (pyIter (.ref it)) h3 (fun v h' => v = .ref it ∧ h' = h3) ∧
        (∀ i h, i < n → I i h → Ev (model prog w) A (pyNext (.ref it)) h fun r h4 => ∃ v, r = some v ∧ Ev (model prog w) A (letOwnedTupleGo target (.ref it) v) h4 fun _ h5 =>
          Ev (model prog w) A (PySem.assign target (compEnv scope (h2.objs.size + 1) env) v) h5 fun _ h6 => Ev (model prog w) A (tests ifs (compEnv scope (h2.objs.size + 1) env)) h6 fun ok h7 =>
            if ok = true then Ev (model prog w) A (eval elt (compEnv scope (h2.objs.size + 1) env)) h7 fun x h8 => Ev (model prog w) A (PySem.call (.builtin "list.append") [.ref h2.objs.size, x] []) h8 fun _ h9 => I (i + 1) h9 else I (i + 1) h7) ∧
        (∀ h, I n h → Ev (model prog w) A (pyNext (.ref it)) h fun r h4 => r = none ∧ Ev (model prog w) A (storeName env y (.ref h2.objs.size)) h4 fun _ h5 => (∃ m, h5.Ns (h2.objs.size + 1) m) ∧ ∀ h6, Keep [h2.objs.size + 1] h5 h6 → P .next h6))
    (hs : ∀ x, foldedSetIterable iter env x = Pure.pure x := by intro _; rfl) :
    Ev (model prog w) A (exec (.Assign [.Name y py] (.ListComp elt [⟨target, iter, ifs, 0⟩] scope pos) spos) env) h P := by
  intro g d tk os
  rw [exec_Assign_Name_used _ _ _ _ hsw]
  refine wpAny_bind (wpAny_standAt (wpAny_bind ?_))
  show wpAny _ A (do let _ ← comprehension (.ListComp elt [⟨target, iter, ifs, 0⟩] scope pos) scope env _ (newList []) false (eval iter env) (some (PySem.assign (.Name y py) env))) _ _ _
  refine wpAny_bind (wpAny_mono (wpAny_comprehension_use (Q := fun _ s' => ∃ h' tk', s' = ⟨h', g, d, tk', os⟩ ∧ P .next h') rfl hs hfree hkind hnames (e.wp fun xv h1 t1 e1 => e1.wp fun itv h2 t2 e2 => ?_))
    (fun _ s' hq => wpAny_pure (wpAny_pure hq)) fun _ _ e => e)
  refine wpAny_newObj_type (hd := by size_fits) (wpAny_newFunctionEnv hcell (by intro y hy; simp at hy) (fun h3 hns hsb => ?_) hkind)
  dsimp only at hns hsb ⊢
  have hD : (h2.push { cls := .type "list", dict := none, data := .seq ([] : List Value).toArray }).objs.size = h2.objs.size + 1 := Heap.size_push ..
  rw [hD] at hns hsb ⊢
  have kk : Keep [] h2 h3 := ⟨by rw [hsb.1, Heap.size_push, hD]; omega, fun a o _ ea => hsb.extBut a o (Nat.ne_of_lt (Nat.lt_succ_of_lt (Heap.lt_size ea))) (Heap.get?_push_of_some _ (Heap.get?_push_of_some _ ea))⟩
  have qq : Lst h3 h2.objs.size [] := ⟨0, hsb.extBut _ _ (Nat.ne_of_lt (Nat.lt_succ_self _)) (Heap.get?_push_of_some _ (Heap.get?_push_size _ rfl))⟩
  obtain ⟨it, n, I, rfl, i0, itr, turn, fin⟩ := e2 h3 kk qq hns (by rw [hsb.1, Heap.size_push, hD])
  have loop : ∀ tk, codeAny (model prog w) A (.compLoop (.ListComp elt [⟨target, iter, ifs, 0⟩] scope pos) 0 (.ref it) (.ref h2.objs.size) (compEnv scope (h2.objs.size + 1) env)) (fun r s' => match r with
      | .ok _ => wpAny (model prog w) A (PySem.assign (.Name y py) env (.ref h2.objs.size)) (fun _ s'' => ∃ m, s''.heap.Ns (h2.objs.size + 1) m ∧ ∀ h', Heap.SameBut (h2.objs.size + 1) s''.heap h' → ∃ h'' tk', ({ s'' with heap := h' } : Shared) = ⟨h'', g, d, tk', os⟩ ∧ P .next h'') (fun _ _ => False) s'
      | .error x => ∃ m, s'.heap.Ns (h2.objs.size + 1) m ∧ ∀ h', Heap.SameBut (h2.objs.size + 1) s'.heap h' → wpAny (model prog w) A (passOn "comprehension.variables-let-go" x (compEnv scope (h2.objs.size + 1) env)) (fun (_ : Value) s' => ∃ h' tk', s' = ⟨h', g, d, tk', os⟩ ∧ P .next h') (fun _ _ => False) { s' with heap := h' }) ⟨h3, g, d, tk, os⟩ := by
    intro tk
    refine compLoop_any (fun m s => ∃ i h tk, s = ⟨h, g, d, tk, os⟩ ∧ m = n - i ∧ i ≤ n ∧ I i h) (fun m s hI => ?_) n ⟨0, h3, tk, rfl, by omega, by omega, i0⟩
    obtain ⟨i, h', tk', rfl, hm, hi, hI⟩ := hI
    by_cases hin : i < n
    · refine (turn i h' hin hI).wp fun r h4 t4 q => ?_
      obtain ⟨v, rfl, q⟩ := q
      refine q.wp fun _ h5 t5 q => Ev.wp q fun _ h6 t6 q => Ev.wp q fun ok h7 t7 q => ?_
      cases ok with
      | false =>
        rw [if_neg (by decide)] at q ⊢
        exact ⟨n - (i + 1), by omega, i + 1, h7, t7, rfl, rfl, by omega, q⟩
      | true =>
        rw [if_pos rfl] at q ⊢
        exact Ev.wp q fun x h8 t8 q => Ev.wp q fun _ h9 t9 q => ⟨n - (i + 1), by omega, i + 1, h9, t9, rfl, rfl, by omega, q⟩
    · have : i = n := by omega
      subst this
      refine (fin h' hI).wp fun r h4 t4 q => ?_
      obtain ⟨rfl, q⟩ := q
      exact wpAny_assign_Name (q.wp fun _ h5 t5 ⟨⟨m, hm⟩, q⟩ => ⟨m, hm, fun h6 hs6 => ⟨h6, t5, rfl, q h6 (.of_sameBut hs6)⟩⟩)
  exact codeAny_compStart_list (loop _) (itr.wp fun v h' tk' ⟨e1, e2⟩ => by subst e1 e2; exact loop _)
end
end Mine

namespace Mine
theorem Lst.at {h : Heap} {a : Addr} {vs : List Value} (x : Lst h a vs) : ∃ n, IsL h a vs.toArray n := x
section
variable {prog : Program} {w : World} {A : Around} {h : Heap} {env : Env} {P : Value → Heap → Prop} {pos : Pos}
theorem Ev.pop0 {l : Addr} {v : Value} {vs : List Value} {t : Tok} (hl : Lst h l (v :: vs)) (hz : vs.length ≤ 1000000) (k : ∀ h', Keep [l] h h' → Lst h' l vs → P v h') : Ev (model prog w) A (PySem.call (.builtin "list.pop") [.ref l, .int 0 t] []) h P := by
  obtain ⟨n, ho⟩ := hl
  intro g d tk os
  refine call_meets (s := ⟨h, g, d, tk, os⟩) F.slot_list_pop ⟨_, ho, rfl⟩ F.entry_list_pop (F.args_list_pop_2 _ _) (MeetsSeq.list_pop_at l (v :: vs).toArray n 0 t 0 v (by decide) (by simp [seqIndex?]) (by simp) (by rw [sizeLine_eq]; simp; omega)) ⟨ho, ?_⟩
  refine ⟨_, tk, rfl, k _ (.update _ _ _) ?_⟩
  have := IsL.update (n := n) ho fun xs => xs.eraseIdxIfInBounds 0
  have e : ((v :: vs).toArray.eraseIdxIfInBounds 0) = vs.toArray := by simp
  rw [e] at this
  exact ⟨_, this⟩
theorem Ev.extend {l b : Addr} {vs us : List Value} (hl : Lst h l vs) (hb : Lst h b us) (hz : vs.length + us.length ≤ 1000000) (k : ∀ h', Keep [l] h h' → Lst h' l (vs ++ us) → P .none h') : Ev (model prog w) A (PySem.call (.builtin "list.extend") [.ref l, .ref b] []) h P := by
  obtain ⟨n, ho⟩ := hl
  obtain ⟨n2, ho2⟩ := hb
  intro g d tk os
  refine call_meets (s := ⟨h, g, d, tk, os⟩) F.slot_list_extend ⟨_, ho, rfl⟩ F.entry_list_extend (F.args_list_extend_2 _ _) (AutoSeq1.list_extend_list_list_0 l vs.toArray n b us.toArray n2 ?_ (by rw [sizeLine_eq]; simp; omega) (by rw [sizeLine_eq]; simp; omega)) ⟨ho, ho2, ?_⟩
  · have : Builtin.List.listTooLong (vs.toArray.size + us.toArray.size) = false := by
      simp only [Builtin.List.listTooLong, List.size_toArray]
      simp only [sizeLine_eq, decide_eq_false_iff_not]
      omega
    rw [this]; simp
  refine ⟨_, tk, rfl, k _ (.update _ _ _) ?_⟩
  have := IsL.update (n := n) ho fun xs => xs ++ us.toArray
  rw [List.append_toArray] at this
  exact ⟨_, this⟩
theorem Ev.add_list {l b : Addr} {vs us : List Value} (hl : Lst h l vs) (hb : Lst h b us) (hz : vs.length + us.length ≤ 1000000) (k : ∀ h', Keep [] h h' → Lst h' h.objs.size (vs ++ us) → h'.objs.size = h.objs.size + 1 → P (.ref h.objs.size) h') : Ev (model prog w) A (binaryOp .Add (.ref l) (.ref b)) h P := by
  obtain ⟨n, ho⟩ := hl
  obtain ⟨n2, ho2⟩ := hb
  exact fun g d tk os => PySem.P.add_list (s := ⟨h, g, d, tk, os⟩) ho ho2 ⟨_, tk, rfl, by rw [List.append_toArray]; exact k _ (.push _ _) (.new _ _) (Heap.size_push ..)⟩ (by rw [sizeLine_eq]; simp; omega)
/-- is it empty -/
theorem Ev.ne_nil {l b : Addr} {vs : List Value} (hl : Lst h l vs) (hb : Lst h b []) (hu : A.units < cLine) (k : P (.bool (!vs.isEmpty)) h) : Ev (model prog w) A (compareOp .NotEq (.ref l) (.ref b)) h P := by
  intro g d tk os
  cases vs with
  | nil =>
    have key := SeqAt.RcNeAt.lists (A := A) (s := ⟨h, g, d, tk, os⟩) (e := fun _ => true) hl.isList hb.isList rfl hu (fun j h1 h2 => by simp at h1)
    exact key prog w _ _ ⟨h, tk, rfl, k⟩
  | cons v r =>
    have key := SeqAt.RcNeAt.lists_lengths (A := A) (s := ⟨h, g, d, tk, os⟩) hl.isList hb.isList (by simp) hu
    exact key prog w _ _ ⟨h, tk, rfl, k⟩
end

/-- two lists of values, alike one by one -/
inductive Alike (A : Around) (s : Shared) : List Value → List Value → Prop
  | nil : Alike A s [] []
  | cons {v u : Value} {vs us : List Value} : SeqAt.EqAt A s v u true → Alike A s vs us → Alike A s (v :: vs) (u :: us)
theorem Alike.length {A : Around} {s : Shared} {vs us : List Value} (x : Alike A s vs us) : vs.length = us.length := by
  induction x with
  | nil => rfl
  | cons _ _ ih => simp [ih]
theorem Alike.get {A : Around} {s : Shared} {vs us : List Value} (x : Alike A s vs us) : ∀ j (h1 : j < vs.length) (h2 : j < us.length), SeqAt.EqAt A s vs[j] us[j] true := by
  induction x with
  | nil => intro j h1; simp at h1
  | cons e _ ih =>
    intro j h1 h2
    cases j with
    | zero => exact e
    | succ j => exact ih j (by simpa using h1) (by simpa using h2)
theorem Alike.append {A : Around} {s : Shared} {vs us vs' us' : List Value} (x : Alike A s vs us) (y : Alike A s vs' us') : Alike A s (vs ++ vs') (us ++ us') := by
  induction x with
  | nil => exact y
  | cons e _ ih => exact .cons e ih
theorem alike_bts {A : Around} {s : Shared} {vs us : List Value} {bs : List Bs} (x : Bts vs bs) : Bts us bs → Alike A s vs us := by
  induction x generalizing us with
  | nil => intro y; cases y; exact .nil
  | @cons b t vs bs x ih =>
    intro y
    cases y with
    | @cons _ u us _ y =>
      refine .cons ?_ (ih y)
      have := eqAt_bytes (A := A) (s := s) b b t u
      simpa using this
theorem eqAt_lists {A : Around} {g d tk os} {h : Heap} {l b : Addr} {vs us : List Value} (hne : l ≠ b) (hl : Lst h l vs) (hb : Lst h b us) (hu : A.units < cLine) (x : Alike A.in1 ⟨h, g, d, tk, os⟩ vs us) : SeqAt.EqAt A ⟨h, g, d, tk, os⟩ (.ref l) (.ref b) true := by
  refine SeqAt.EqAt.of_refs hne ?_
  have key := SeqAt.RcAt.lists (A := A) (s := ⟨h, g, d, tk, os⟩) (e := fun _ => true) hl.isList hb.isList (by simpa using x.length) hu (fun j h1 h2 => by
    have := x.get j (by simpa using h1) (by simpa using h2)
    simpa using this)
  have e : ((List.range vs.toArray.size).all fun _ => true) = true := by simp
  rw [e] at key; exact key
section
variable {prog : Program} {w : World} {A : Around} {h : Heap} {env : Env} {P : Value → Heap → Prop} {pos : Pos}
theorem Ev.ne_alike {l b : Addr} {vs us : List Value} (hl : Lst h l vs) (hb : h.IsList b us.toArray) (hu : A.units < cLine) (x : ∀ g d tk os, Alike A.in1 ⟨h, g, d, tk, os⟩ vs us) (k : P (.bool false) h) : Ev (model prog w) A (compareOp .NotEq (.ref l) (.ref b)) h P := by
  intro g d tk os
  have key := SeqAt.RcNeAt.lists (A := A) (s := ⟨h, g, d, tk, os⟩) (e := fun _ => true) hl.isList hb (by simpa using (x g d tk os).length) hu (fun j h1 h2 => by
    have := (x g d tk os).get j (by simpa using h1) (by simpa using h2)
    simpa using this)
  refine key prog w _ _ ⟨h, tk, rfl, ?_⟩
  have e : (!(List.range vs.toArray.size).all fun _ => true) = false := by simp
  rw [e]; exact k
theorem Ev.eq_alike {l b : Addr} {vs us : List Value} (hl : Lst h l vs) (hb : Lst h b us) (hu : A.units < cLine) (x : ∀ g d tk os, Alike A.in1 ⟨h, g, d, tk, os⟩ vs us) (k : P (.bool true) h) : Ev (model prog w) A (compareOp .Eq (.ref l) (.ref b)) h P := by
  intro g d tk os
  have key := SeqAt.RcAt.lists (A := A) (s := ⟨h, g, d, tk, os⟩) (e := fun _ => true) hl.isList hb.isList (by simpa using (x g d tk os).length) hu (fun j h1 h2 => by
    have := (x g d tk os).get j (by simpa using h1) (by simpa using h2)
    simpa using this)
  refine key prog w _ _ ⟨h, tk, rfl, ?_⟩
  have e : ((List.range vs.toArray.size).all fun _ => true) = true := by simp
  rw [e]; exact k
/-- the first octet of a line, or none -/
theorem Ev.head_bytes {b : Array UInt8} {t u : Tok} {a : Addr} (ha : h.get? a = some (sliceObj .none (.int 1 u) .none)) (hz : b.size ≤ 16777216) (k : ∀ t, P (.bytes (b.toList.take 1).toArray t) h) : Ev (model prog w) A (getItem (.bytes b t) (.ref a)) h P := by
  intro g d tk os
  have e : KBy.picked b none (some 1) = (b.toList.take 1).toArray := by
    rw [KBc.picked_eq]
    simp only [Option.elim, List.drop_zero, Nat.sub_zero]
    congr 1
    have : clipAt b.size (1 : Int) = min 1 b.size := clipAt_nat b.size 1
    rw [this]
    rcases Nat.le_total 1 b.size with q | q
    · rw [Nat.min_eq_left q]
    · rw [Nat.min_eq_right q, List.take_of_length_le (by simp), List.take_of_length_le (by simpa using q)]
  refine getItem_meets (s := ⟨h, g, d, tk, os⟩) (typeIs_bytes _ _ _) (by decide) FB.slot_bytes_getitem FB.entry_bytes_getitem (FB.args_bytes_getitem_2 _ _) (KBc.meets_slice2 b t _ .none (.int 1 u)) ⟨⟨_, ha, rfl, rfl⟩, Nat.le_trans (KBc.size_picked_le b _ _) (by rw [sizeLine_eq]; exact hz), fun t' k' => ⟨h, k', rfl, ?_⟩⟩
  rw [e]; exact k t'
theorem Items.bytes {b : Array UInt8} {t : Tok} : Items h (.bytes b t) := ⟨"bytes", _, fun g d tk os => typeIs_bytes _ _ _, FB.slot_bytes_getitem.lookup⟩
/-- enumerate over a list -/
theorem Ev.enumerate {l : Addr} {vs : List Value} (hl : h.IsList l vs.toArray) (k : ∀ h', IsEnum h' (h.objs.size + 1) h.objs.size 0 .none → h'.IsListIter h.objs.size l 0 → h'.objs.size = h.objs.size + 2 → Keep [] h h' → P (.ref (h.objs.size + 1)) h') :
    Ev (model prog w) A (PySem.call (.type "enumerate") [.ref l] []) h P :=
  fun g d tk os => call_enumerate_list (s := ⟨h, g, d, tk, os⟩) hl fun h' a b c e => ⟨h', tk, rfl, k h' a b c ⟨by rw [c]; exact Nat.le_add_right _ _, fun x o _ q => e x o q⟩⟩
end
end Mine

namespace Mine
/-- what stands of the top, for law 04 -/
structure Top4 (w : World) (mg mb : Str → Option Value) (g0 : Heap) : Prop where
  G : Gd (K4 w) mg mb g0
  C2 : CodeHd g0 59 55
  t2 : g0.get? 55 = none
abbrev q54 : Str := (("_law_source" : Str) ++ ".<locals>.") ++ "<lambda>"
abbrev p54 : Pos := ⟨25, 22, 25, 72⟩
/-- x is a source whose readline is as F tells -/
def Reader4 (h : Heap) (x : Addr) (F : Addr → Prop) : Prop :=
  ∃ t d0 m f o fd, h.get? x = some (excObj 31 t (some d0)) ∧ h.Ns d0 m ∧ m "readline" = some (.ref f) ∧ h.get? f = some o ∧ o.data = .func fd ∧ F f
/-- a queue: its next line -/
def nx4 : List Bs → Bs × List Bs
  | [] => (#[], [])
  | b :: r => (b, r)
section
variable {w : World} {mg mb : Str → Option Value} {g0 : Heap}
theorem ns30' {h : Heap} (X : (K4 w).In h) : ∃ mN, h.Ns 30 mN ∧ mN "__init__" = none := by
  refine ⟨fun n => nsFind _ n, ⟨_, _, _, X 30 _ rfl, rfl, ?_, fun _ => rfl⟩, by kernel_rfl⟩
  intro e he
  simp only [List.mem_toArray, List.mem_cons, List.not_mem_nil, or_false] at he
  rcases he with rfl | rfl | rfl | rfl | rfl <;> exact ⟨_, _, rfl⟩
set_option maxHeartbeats 1000000 in
theorem source4 (c : Top4 w mg mb g0) {h : Heap} {A : Around} {y : Addr} (X : List Addr) (hX : ∀ a ∈ X, Plain h a) (st : Stay g0 h) (T1 : Tab h 55 p54 q54) (r : Room A 1) :
    EvC (model pg4 w) A (.call (.ref 60) ⟨[.ref y], []⟩) h fun v h' => ∃ x, v = .ref x ∧ Keep [55] h h' ∧ Tab h' 55 p54 q54 ∧ (∀ h2, Keep X h' h2 → Reader4 h2 x fun f =>
      ∀ (A : Around) (lim : Value) (vs : List Value) (bs : List Bs), Stay g0 h2 → Lst h2 y vs → Bts vs bs → bs.length ≤ 1000 → Room A 1 →
        EvC (model pg4 w) A (.call (.ref f) ⟨[lim], []⟩) h2 fun v h' => ∃ tk vs', v = .bytes (nx4 bs).1 tk ∧ Keep [y] h2 h' ∧ Lst h' y vs' ∧ Bts vs' (nx4 bs).2) := by
  have G := c.G.keeps st
  have ho := G.X 60 _ rfl
  have hcd : h.CodeRec (.ref 59) (Str.ofString "_law_source") := codeRec_of G.X (by kernel_rfl)
  refine EvC.fnC (binds := [("queue", .ref y)]) r.here ho rfl G.lim hcd rfl rfl rfl (kindsX rfl _) fun h1 hn1 k1 l1 hc => ?_
  have hc1 : h1.IsCell (h.objs.size + 1) (some (.ref y)) := (hc "queue" (h.objs.size + 1) rfl).1
  replace hn1 : h1.Ns h.objs.size (fun _ => none) := hn1
  have st1 := st.keep' k1
  have G1 := c.G.keeps st1
  have T11 := T1.keep k1 (by simp) all0
  have h55 : (55 : Nat) < h.objs.size := let ⟨_, e, _⟩ := T1; Heap.lt_size e
  have hC : h1.get? 31 = _ := G1.X 31 _ rfl
  obtain ⟨cd, hcls⟩ := exc4 (w := w)
  obtain ⟨mN, hN1, hN2⟩ := ns30' G1.X
  -- source = HTTPException()
  refine Ev.cons (Ev.assign (Ev.callN (Ev.global G1 rfl (Ev.items_nil ⟨keeper_cls (K := K4 w) hC rfl rfl, Ev.newExc hC hN1 hN2 fun h2 x t k2 hx1 hx2 => ?_⟩))))
  refine Ev.store (k2.ns hn1 (by simp)) fun h3 hn3 k3 => ?_
  have st2 := st1.keep' k2
  have st3 := st2.keep k3 (all1 (st.none (Nat.le_refl _)))
  have G3 := c.G.keeps st3
  have hxL : x ≠ h.objs.size := ne_ns hx1 hn1
  have hx3 := k3.get _ _ (ni hxL) hx2
  have T13 := (T11.keep k2 (by simp) all0).keep k3 (ni (by omega)) (all1 (.ns (k2.ns hn1 (by simp))))
  have x55 : x ≠ 55 := by
    obtain ⟨ps, e, _⟩ := T11
    exact ne_some hx1 e
  -- source.readline = lambda ..
  refine Ev.cons (Ev.assignAttr (Ev.lambda (Ev.mkLam G3 (c.C2.keeps st3) T13 rfl rfl rfl fun f c' ctv h4 k4 lf hf4 rec4 T4 => ?_)))
  have st4 := st3.keep k4 (all1 c.t2)
  have G4 := c.G.keeps st4
  have hn4 := k4.ns hn3 (ni (by omega))
  have hx4 := k4.get _ _ (ni x55) hx3
  refine Ev.local hn4 upd_same (Ev.setAttr_exc hcls G4.X hx4 rl4 fun h5 d0 k5 ld hx5 hd5 => ?_)
  refine Ev.cons (Ev.ret (Ev.local (k5.ns hn4 (ni hxL.symm)) upd_same ?_))
  replace T4 : Tab h4 55 p54 q54 := T4
  replace rec4 : h4.CodeRec (.ref c') q54 := rec4
  have z12 := k1.size; have z23 := k2.size; have z34 := k3.size; have z45 := k4.size
  have lc1 := hc1.lt
  have lf4 : f < h4.objs.size := Heap.lt_size hf4
  have k14 : Keep [55] h h4 := ((k1.nil.trans k2.nil).then k3 (all1 (.inr (Nat.le_refl _)))).trans k4
  have hxn : h.get? x = none := k1.none hx1 (by simp)
  have kall : Keep [55] h h5 := k14.thenN k5 (all1 (.inr hxn))
  have ka : Keep [h.objs.size, 55, x] h1 h5 := ((k2.nil.trans (k3.mono (by simp))).trans (k4.mono (by simp))).trans (k5.mono (by simp))
  have xf : x ≠ f := by have := Heap.lt_size hx3; exact Nat.ne_of_lt (Nat.lt_of_lt_of_le this lf)
  have xc1 : x ≠ h.objs.size + 1 := let ⟨o, e, _⟩ := hc1; ne_some hx1 e
  have kXf : ∀ a ∈ X, Plain h5 a ∧ a ≠ h.objs.size + 1 ∧ a ≠ f ∧ a ≠ x ∧ a ≠ d0 := fun a ha => by
    have pa := hX a ha
    have la := pa.lt
    have p5 : Plain h5 a := by
      by_cases q : a = 55
      · rw [q]; exact .tab (T4.keep k5 (ni (fun q => x55 q.symm)) (all1 (.exc hx4)))
      · exact pa.keep kall (ni q)
    refine ⟨p5, Nat.ne_of_lt (by omega), Nat.ne_of_lt (by omega), ?_, Nat.ne_of_lt (by omega)⟩
    obtain ⟨o, e, _⟩ := pa
    exact (ne_some hxn e).symm
  have nX : ∀ {a : Addr}, (∀ b ∈ X, b ≠ a) → a ∉ X := fun q hq => q _ hq rfl
  refine ⟨x, rfl, kall, T4.keep k5 (ni (fun q => x55 q.symm)) (all1 (.exc hx4)), fun h7 k7 => ?_⟩
  have rec7 := CodeRec.keep (CodeRec.keep rec4 k5 (all1 (.exc hx4))) k7 fun a ha => (kXf a ha).1.no
  have hf7 := k7.get _ _ (nX fun b hb => (kXf b hb).2.2.1) (k5.get _ _ (ni xf.symm) hf4)
  have hc17 := cell_keep (cell_keep hc1 ka (ni3 (by omega) (by omega) xc1.symm)) k7 (nX fun b hb => (kXf b hb).2.1)
  refine ⟨t, d0, _, f, _, _, k7.get _ _ (nX fun b hb => (kXf b hb).2.2.2.1) hx5, k7.ns hd5 (nX fun b hb => (kXf b hb).2.2.2.2), upd_same, hf7, rfl, fun A lim vs bs st7 q7 b7 hz r7 => ?_⟩
  have G7 := c.G.keeps st7
  refine EvC.lam (binds := [("limit", lim)]) r7.here hf7 rfl G7.lim rec7 rfl rfl (nocell rfl) (locs rfl) fun h8 hn8 k8 l8 => ?_
  have st8 := st7.keep' k8
  have G8 := c.G.keeps st8
  have c18 := cell_keep hc17 k8 (by simp)
  have q8 := q7.keep k8 (by simp)
  have hlen := b7.length
  -- queue.pop(0) if queue != [] else b''
  refine Ev.ifexp (Ev.isTrue1 (Ev.free rfl c18 (Ev.list (Ev.items_nil ⟨by simp, fun h9 q9 k9 z9 => Ev.ne_nil (q8.keep k9 (by simp)) q9 (by have := r7.line; show A.units + 3 < cLine; omega) ⟨_, rfl, ?_⟩⟩))))
  have q9' := q8.keep k9 (by simp)
  have c19 := cell_keep c18 k9 (by simp)
  cases b7 with
  | nil =>
    rw [if_neg (by decide)]
    exact Ev.bytes fun tb => ⟨tb, [], rfl, k8.nil.trans k9.nil, q9', .nil⟩
  | @cons b tb vs bs b7 =>
    rw [if_pos (by rfl)]
    refine Ev.callM (Ev.free rfl c19 ⟨_, _, fun pl => getMethod_plain (fun g d tk os => q9'.isList.typeIs) F.plainAttrs_list F.slot_list_pop F.type_list_pop
      (fun a e => by cases e; obtain ⟨n, q⟩ := q9'; exact ⟨_, q, rfl⟩), Ev.items_cons (Ev.int fun t => Ev.items_nil ⟨keeper_builtin, Ev.pop0 q9' (by simp at hz hlen; omega) fun h10 k10 q10 => ⟨tb, vs, rfl, (k8.nil.trans k9.nil).trans k10, q10, b7⟩⟩)⟩)
end
end Mine

namespace Mine
/-- how a block is moved -/
def mv : Nat → List Bs → List Bs
  | 0, bs => bs
  | 1, bs => bs.take (bs.length - 1)
  | 2, bs => bs.reverse
  | _, bs => [cat bs]
theorem Bts.reverse {vs : List Value} {bs : List Bs} (x : Bts vs bs) : Bts vs.reverse bs.reverse := by
  induction x with
  | nil => exact .nil
  | cons x ih => simp only [List.reverse_cons]; exact ih.append (.one _ _)
section
variable {prog : Program} {w : World} {A : Around} {h : Heap} {env : Env} {P : Value → Heap → Prop} {pos : Pos}
theorem Ev.usub {e : Expr} (k : Ev (model prog w) A (eval e env) h fun v h1 => ∃ i t, v = .int i t ∧ ∀ t, P (.int (-i) t) h1) : Ev (model prog w) A (eval (.UnaryOp .USub e pos) env) h P :=
  fun g d tk os => wpAny_UnaryOp (k.wp fun v h1 t1 ⟨i, t, e, q⟩ => by subst e; exact PyProof.Rows.neg_int ⟨h1, _, rfl, q _⟩)
end
section
variable {w : World} {mg mb : Str → Option Value} {g0 : Heap}
set_option maxHeartbeats 2000000 in
theorem moved4 (c : Top4 w mg mb g0) {h : Heap} {A : Around} {a : Addr} {vs : List Value} {bs : List Bs} {how : Nat} {t : Tok} (st : Stay g0 h) (q : Lst h a vs) (b : Bts vs bs) (hz : bs.length ≤ 1000) (hc : (cat bs).size ≤ 16777216) (hh : how < 4) (r : Room A 1) :
    EvC (model pg4 w) A (.call (.ref 67) ⟨[.ref a, .int how t], []⟩) h fun v h' => ∃ n us, v = .ref n ∧ Keep [] h h' ∧ h.objs.size ≤ n ∧ Lst h' n us ∧ Bts us (mv how bs) := by
  have G := c.G.keeps st
  have ho := G.X 67 _ rfl
  have hcd : h.CodeRec (.ref 66) (Str.ofString "_law_moved") := codeRec_of G.X (by kernel_rfl)
  have hlen := b.length
  refine EvC.fn (binds := [("block", .ref a), ("how", .int how t)]) r.here ho rfl G.lim hcd rfl rfl (by decide) (locs rfl) fun h1 hn1 k1 l1 => ?_
  have q1 := q.keep k1 (by simp)
  -- if how == 0
  refine Ev.cons (Ev.ite (Ev.isTrue1 (Ev.local hn1 rfl (Ev.int fun t => Ev.eq_int ⟨_, rfl, ?_⟩))))
  by_cases e0 : how = 0
  · subst e0
    rw [if_pos (by simp)]
    refine Ev.cons (Ev.ret (Ev.subscript (Ev.local hn1 rfl (Ev.slice (Ev.part_none (Ev.part_none (Ev.part_none fun h2 s2 k2 => ?_)))))))
    have q2 := q1.keep k2 (by simp)
    have z2 := k2.size
    exact ⟨.lst q2, Ev.getSlice q2.isList s2 .none .none .none (by simp) (by omega) (slicePick_all _) fun h3 q3 k3 z3 => ⟨_, _, rfl, (k1.trans k2).trans k3, by omega, q3, b⟩⟩
  rw [if_neg (by simpa using e0)]
  refine Ev.nil (Ev.cons (Ev.ite (Ev.isTrue1 (Ev.local hn1 rfl (Ev.int fun t => Ev.eq_int ⟨_, rfl, ?_⟩)))))
  by_cases e1 : how = 1
  · subst e1
    rw [if_pos (by simp)]
    refine Ev.cons (Ev.ret (Ev.subscript (Ev.local hn1 rfl (Ev.slice (Ev.part_none (Ev.part_some (Ev.usub (Ev.int fun t => ⟨_, _, rfl, fun t => Ev.part_none fun h2 s2 k2 => ?_⟩))))))))
    have q2 := q1.keep k2 (by simp)
    have z2 := k2.size
    refine ⟨.lst q2, Ev.getSlice (us := vs.take (vs.length - 1)) q2.isList s2 .none (.int _ _) .none (by simp) (by omega) ?_ fun h3 q3 k3 z3 => ⟨_, _, rfl, (k1.trans k2).trans k3, by omega, q3, ?_⟩⟩
    · have := slicePick_butLast vs.toArray 1 (by omega)
      simpa using this
    · show Bts _ (bs.take (bs.length - 1))
      rw [hlen]; exact b.take _
  rw [if_neg (by simp; omega)]
  refine Ev.nil (Ev.cons (Ev.ite (Ev.isTrue1 (Ev.local hn1 rfl (Ev.int fun t => Ev.eq_int ⟨_, rfl, ?_⟩)))))
  by_cases e2 : how = 2
  · subst e2
    rw [if_pos (by simp)]
    refine Ev.cons (Ev.ret (Ev.subscript (Ev.local hn1 rfl (Ev.slice (Ev.part_none (Ev.part_none (Ev.part_some (Ev.usub (Ev.int fun t => ⟨_, _, rfl, fun t h2 s2 k2 => ?_⟩)))))))))
    have q2 := q1.keep k2 (by simp)
    have z2 := k2.size
    refine ⟨.lst q2, Ev.getSlice (us := vs.reverse) q2.isList s2 .none .none (.int _ _) (by decide) (by omega) ?_ fun h3 q3 k3 z3 => ⟨_, _, rfl, (k1.trans k2).trans k3, by omega, q3, b.reverse⟩⟩
    exact krv_pick vs.toArray
  rw [if_neg (by simp; omega)]
  have e3 : how = 3 := by omega
  subst e3
  refine Ev.nil (Ev.cons (Ev.ret (Ev.list (Ev.items_cons (Ev.callM (Ev.bytes fun tb => ⟨_, _, fun pl => getMethod_plain (fun g d tk os => typeIs_bytes _ _ _) FB.plainAttrs_bytes slot_join type_join (fun a e => nomatch e), Ev.items_cons (Ev.local hn1 rfl (Ev.items_nil ⟨keeper_builtin, Ev.join q1 b hc fun t => Ev.items_nil ⟨by simp, fun h2 q2 k2 z2 => ?_⟩⟩))⟩))))))
  exact ⟨_, _, rfl, k1.trans k2, Nat.le_of_lt l1, q2, .one _ _⟩
end
end Mine

namespace Mine
/-- opens with an octet that is no return and no line feed -/
def Solid (b : Bs) : Prop := ∃ c r, b.toList = c :: r ∧ c ≠ 13 ∧ c ≠ 10
def LineOk (b : Bs) : Prop := blank b = true ∨ Solid b
theorem Solid.not {b : Bs} (x : Solid b) : blank b = false := by
  obtain ⟨c, r, e, h1, h2⟩ := x
  simp [blank, e, h1, h2]
theorem Solid.append {b : Bs} (x : Solid b) (c : Bs) : Solid (b ++ c) := by
  obtain ⟨d, r, e, h1, h2⟩ := x
  exact ⟨d, r ++ c.toList, by simp [e], h1, h2⟩
theorem blank_size {b : Bs} (h : blank b = true) : b.size ≤ 2 := by
  simp only [blank, Bool.or_eq_true, beq_iff_eq] at h
  rw [← Array.length_toList]
  rcases h with (h | h) | h <;> rw [h] <;> simp
/-- the law's own test of a line -/
def opens (b : Bs) : Bool := [([] : List UInt8), [13], [10]].any fun c => c == b.toList.take 1
theorem opens_eq {b : Bs} (x : LineOk b) : opens b = blank b := by
  rcases x with h | h
  · rw [h]
    simp only [blank, Bool.or_eq_true, beq_iff_eq] at h
    rcases h with (h | h) | h <;> simp [opens, h]
  · rw [h.not]
    obtain ⟨c, r, e, h1, h2⟩ := h
    simp [opens, e, h1.symm, h2.symm]
/-- a block and what is left -/
def blk : List Bs → List Bs × List Bs
  | [] => ([#[]], [])
  | b :: r => if blank b = true then ([b], r) else (b :: (blk r).1, (blk r).2)
theorem blk_take : ∀ (r : List Bs), (∀ b ∈ r, b.size ≤ 65536) → Take nx4 r (blk r).1 (blk r).2
  | [], _ => .last rfl (by decide) (by decide)
  | b :: r, h => by
    unfold blk
    by_cases q : blank b = true
    · rw [if_pos q]; exact .last rfl q (h b (.head _))
    · rw [if_neg q]; exact .more rfl (by simpa using q) (h b (.head _)) (blk_take r fun c hc => h c (.tail _ hc))
/-- the places of the blank ones -/
def spots (k : Nat) : List Bs → List Nat
  | [] => []
  | b :: r => if blank b = true then k :: spots (k + 1) r else spots (k + 1) r
theorem blk_spots : ∀ (r : List Bs) (k : Nat), (spots k r = [] ∧ (blk r).1 = r ++ [#[]] ∧ (blk r).2 = []) ∨ ∃ j rest, spots k r = (k + j) :: rest ∧ (blk r).1 = r.take (j + 1) ∧ (blk r).2 = r.drop (j + 1) ∧ j < r.length
  | [], k => .inl ⟨rfl, rfl, rfl⟩
  | b :: r, k => by
    unfold blk spots
    by_cases q : blank b = true
    · rw [if_pos q, if_pos q]
      exact .inr ⟨0, _, rfl, rfl, rfl, by simp⟩
    · rw [if_neg q, if_neg q]
      rcases blk_spots r (k + 1) with ⟨h1, h2, h3⟩ | ⟨j, rest, h1, h2, h3, h4⟩
      · exact .inl ⟨h1, by simp [h2], h3⟩
      · exact .inr ⟨j + 1, rest, by rw [h1]; congr 1; omega, by simp [h2], by simp [h3], by simp; omega⟩
theorem blk_rest (r : List Bs) : (blk r).2 = r.drop (blk r).1.length := by
  rcases blk_spots r 0 with ⟨h1, h2, h3⟩ | ⟨j, rest, h1, h2, h3, h4⟩
  · rw [h2, h3, List.drop_of_length_le (by simp)]
  · rw [h2, h3]; congr 1; simp; omega
/-- a weight over lines -/
def mu (wt : Bs → Nat) (r : List Bs) : Nat := (r.map wt).sum
section
variable {wt : Bs → Nat}
theorem mu_nil : mu wt [] = 0 := rfl
theorem mu_cons (b : Bs) (r : List Bs) : mu wt (b :: r) = wt b + mu wt r := by simp [mu]
theorem mu_append (a b : List Bs) : mu wt (a ++ b) = mu wt a + mu wt b := by simp [mu]
theorem mu_reverse (a : List Bs) : mu wt a.reverse = mu wt a := by
  induction a with
  | nil => rfl
  | cons x r ih => simp only [List.reverse_cons, mu_append, ih, mu_cons, mu_nil]; omega
theorem mu_take (a : List Bs) (n : Nat) : mu wt (a.take n) ≤ mu wt a := by
  have : mu wt a = mu wt (a.take n) + mu wt (a.drop n) := by rw [← mu_append, List.take_append_drop]
  omega
theorem mu_mem {a : List Bs} {b : Bs} (h : b ∈ a) : wt b ≤ mu wt a := by
  induction a with
  | nil => cases h
  | cons x r ih =>
    rw [mu_cons]
    rcases List.mem_cons.mp h with rfl | h
    · omega
    · have := ih h; omega
theorem mu_blk : ∀ r : List Bs, mu wt (blk r).1 + mu wt (blk r).2 ≤ mu wt r + wt #[]
  | [] => by simp [blk, mu]
  | b :: r => by
    have ih := mu_blk r
    unfold blk
    by_cases q : blank b = true
    · rw [if_pos q]; simp only [mu_cons, mu_nil]; omega
    · rw [if_neg q]; simp only [mu_cons]; omega
end
abbrev wn (b : Bs) : Nat := if blank b = true then 0 else 1
abbrev wb (b : Bs) : Nat := b.size
abbrev wl (_ : Bs) : Nat := 1
theorem mu_wl (r : List Bs) : mu wl r = r.length := by
  induction r with
  | nil => rfl
  | cons b r ih => rw [mu_cons, ih, List.length_cons]; show 1 + r.length = r.length + 1; omega
theorem mu_wb (r : List Bs) : mu wb r = (cat r).size := by
  induction r with
  | nil => rfl
  | cons b r ih => rw [mu_cons, ih]; simp [cat, wb]
theorem blk_len : ∀ r : List Bs, (blk r).1.length ≤ mu wn r + 1
  | [] => by simp [blk, mu]
  | b :: r => by
    have ih := blk_len r
    unfold blk
    by_cases q : blank b = true
    · rw [if_pos q]; simp
    · rw [if_neg q, mu_cons]; simp only [List.length_cons, wn, if_neg q]; omega
theorem blk_pos : ∀ r : List Bs, 1 ≤ (blk r).1.length
  | [] => by simp [blk]
  | b :: r => by
    unfold blk
    by_cases q : blank b = true
    · rw [if_pos q]; simp
    · rw [if_neg q]; simp
/-- the lines of a block are fine, and so are they joined -/
theorem blk_ok : ∀ (r : List Bs), (∀ b ∈ r, LineOk b) → (∀ b ∈ (blk r).1, LineOk b) ∧ (∀ b ∈ (blk r).2, LineOk b) ∧ LineOk (cat (blk r).1) ∧ wn (cat (blk r).1) ≤ mu wn (blk r).1
  | [], _ => ⟨fun b hb => by simp [blk] at hb; subst hb; exact .inl (by decide), fun b hb => by simp [blk] at hb, .inl (by decide), by decide⟩
  | b :: r, h => by
    have ih := blk_ok r fun c hc => h c (.tail _ hc)
    have hb := h b (.head _)
    unfold blk
    by_cases q : blank b = true
    · rw [if_pos q]
      refine ⟨fun c hc => by rw [List.mem_singleton.mp hc]; exact hb, fun c hc => h c (.tail _ hc), ?_, ?_⟩
      · simp only [cat, Array.append_empty]; exact hb
      · simp only [cat, Array.append_empty, wn, if_pos q]; omega
    · rw [if_neg q]
      have sb : Solid b := hb.resolve_left q
      refine ⟨fun c hc => ?_, ih.2.1, .inr ?_, ?_⟩
      · rcases List.mem_cons.mp hc with rfl | hc
        · exact hb
        · exact ih.1 c hc
      · exact sb.append _
      · rw [mu_cons]
        simp only [wn, if_neg q]
        split <;> omega
theorem mv_ok {r : List Bs} {how : Nat} (hr : ∀ b ∈ r, LineOk b) : ∀ b ∈ mv how (blk r).1, LineOk b := by
  have h := blk_ok r hr
  match how with
  | 0 => exact h.1
  | 1 => exact fun b hb => h.1 b (List.mem_of_mem_take hb)
  | 2 => exact fun b hb => h.1 b (List.mem_reverse.mp hb)
  | n + 3 => exact fun b hb => by rw [List.mem_singleton.mp hb]; exact h.2.2.1
theorem mv_mu {r : List Bs} {how : Nat} (hr : ∀ b ∈ r, LineOk b) : mu wn (mv how (blk r).1) ≤ mu wn (blk r).1 ∧ mu wb (mv how (blk r).1) ≤ mu wb (blk r).1 ∧ mu wl (mv how (blk r).1) ≤ mu wl (blk r).1 := by
  have h := blk_ok r hr
  have hp := blk_pos r
  match how with
  | 0 => exact ⟨Nat.le_refl _, Nat.le_refl _, Nat.le_refl _⟩
  | 1 => exact ⟨mu_take _ _, mu_take _ _, mu_take _ _⟩
  | 2 => exact ⟨Nat.le_of_eq (mu_reverse _), Nat.le_of_eq (mu_reverse _), Nat.le_of_eq (mu_reverse _)⟩
  | n + 3 =>
    refine ⟨?_, ?_, ?_⟩
    · show mu wn [cat (blk r).1] ≤ _
      rw [mu_cons, mu_nil]; exact h.2.2.2
    · show mu wb [cat (blk r).1] ≤ _
      rw [mu_cons, mu_nil, mu_wb]; exact Nat.le_refl _
    · show mu wl [cat (blk r).1] ≤ _
      rw [mu_wl]; rw [mu_wl]; exact hp
/-- three rows -/
def updr {α : Type} (f : Nat → α) (i : Nat) (x : α) : Nat → α := fun j => if j = i then x else f j
theorem updr_same {α : Type} {f : Nat → α} {i : Nat} {x : α} : updr f i x i = x := if_pos rfl
theorem updr_ne {α : Type} {f : Nat → α} {i j : Nat} {x : α} (n : j ≠ i) : updr f i x j = f j := if_neg n
def tot (wt : Bs → Nat) (rv : Nat → List Bs) : Nat := mu wt (rv 0) + mu wt (rv 1) + mu wt (rv 2)
theorem tot_upd {wt : Bs → Nat} (rv : Nat → List Bs) {i : Nat} (hi : i < 3) (x : List Bs) : tot wt (updr rv i x) + mu wt (rv i) = tot wt rv + mu wt x := by
  unfold tot updr
  match i, hi with
  | 0, _ => simp; omega
  | 1, _ => simp; omega
  | 2, _ => simp; omega
theorem tot_ge {wt : Bs → Nat} (rv : Nat → List Bs) {i : Nat} (hi : i < 3) : mu wt (rv i) ≤ tot wt rv := by
  unfold tot
  match i, hi with
  | 0, _ => omega
  | 1, _ => omega
  | 2, _ => omega
structure Inv4 (s : Nat) (rv : Nat → List Bs) : Prop where
  ok : ∀ i, i < 3 → ∀ b ∈ rv i, LineOk b
  n : tot wn rv ≤ 6 + s
  b : tot wb rv ≤ 18 + 3 * s
  l : tot wl rv ≤ 9 + 2 * s
theorem Inv4.add {s : Nat} {rv : Nat → List Bs} (x : Inv4 s rv) {i : Nat} (hi : i < 3) {b : Bs} (hb : Solid b) (hz : b.size ≤ 3) :
    (∀ j, j < 3 → ∀ c ∈ updr rv i (rv i ++ [b]) j, LineOk c) ∧ tot wn (updr rv i (rv i ++ [b])) ≤ 7 + s ∧ tot wb (updr rv i (rv i ++ [b])) ≤ 21 + 3 * s ∧ tot wl (updr rv i (rv i ++ [b])) ≤ 10 + 2 * s := by
  have h1 := tot_upd (wt := wn) rv hi (rv i ++ [b])
  have h2 := tot_upd (wt := wb) rv hi (rv i ++ [b])
  have h3 := tot_upd (wt := wl) rv hi (rv i ++ [b])
  rw [mu_append, mu_cons, mu_nil] at h1 h2 h3
  have e1 : wn b ≤ 1 := by unfold wn; split <;> omega
  have e2 : wb b ≤ 3 := hz
  have e3 : wl b = 1 := rfl
  have := x.n; have := x.b; have := x.l
  refine ⟨fun j hj c hc => ?_, by omega, by omega, by omega⟩
  by_cases q : j = i
  · subst q
    rw [updr_same] at hc
    rcases List.mem_append.mp hc with hc | hc
    · exact x.ok j hj c hc
    · rw [List.mem_singleton.mp hc]; exact .inr hb
  · rw [updr_ne q] at hc; exact x.ok j hj c hc
/-- a block is moved -/
theorem Inv4.move {s : Nat} {rv : Nat → List Bs} (ok : ∀ i, i < 3 → ∀ b ∈ rv i, LineOk b) (hn : tot wn rv ≤ 7 + s) (hb : tot wb rv ≤ 21 + 3 * s) (hl : tot wl rv ≤ 10 + 2 * s) {i j : Nat} (hi : i < 3) (hj : j < 3) (how : Nat) :
    let r2 := updr rv i (blk (rv i)).2
    Inv4 (s + 1) (updr r2 j (r2 j ++ mv how (blk (rv i)).1)) := by
  intro r2
  have g := blk_ok (rv i) (ok i hi)
  have gm := mv_ok (how := how) (ok i hi)
  have gu := mv_mu (how := how) (ok i hi)
  have a1 := tot_upd (wt := wn) rv hi (blk (rv i)).2
  have a2 := tot_upd (wt := wb) rv hi (blk (rv i)).2
  have a3 := tot_upd (wt := wl) rv hi (blk (rv i)).2
  have b1 := tot_upd (wt := wn) r2 hj (r2 j ++ mv how (blk (rv i)).1)
  have b2 := tot_upd (wt := wb) r2 hj (r2 j ++ mv how (blk (rv i)).1)
  have b3 := tot_upd (wt := wl) r2 hj (r2 j ++ mv how (blk (rv i)).1)
  rw [mu_append] at b1 b2 b3
  have c1 := mu_blk (wt := wn) (rv i)
  have c2 := mu_blk (wt := wb) (rv i)
  have c3 := mu_blk (wt := wl) (rv i)
  have d1 : wn #[] = 0 := by decide
  have d2 : wb #[] = 0 := rfl
  have d3 : wl #[] = 1 := rfl
  have ok2 : ∀ k, k < 3 → ∀ b ∈ r2 k, LineOk b := fun k hk b hb => by
    by_cases q : k = i
    · subst q
      rw [show r2 k = (blk (rv k)).2 from updr_same] at hb
      exact g.2.1 b hb
    · rw [show r2 k = rv k from updr_ne q] at hb
      exact ok k hk b hb
  refine ⟨fun k hk b hb => ?_, ?_, ?_, ?_⟩
  · by_cases q : k = j
    · subst q
      rw [updr_same] at hb
      rcases List.mem_append.mp hb with hb | hb
      · exact ok2 k hk b hb
      · exact gm b hb
    · rw [updr_ne q] at hb; exact ok2 k hk b hb
  · show tot wn (updr r2 j _) ≤ _
    have : tot wn r2 = tot wn (updr rv i (blk (rv i)).2) := rfl
    omega
  · show tot wb (updr r2 j _) ≤ _
    have : tot wb r2 = tot wb (updr rv i (blk (rv i)).2) := rfl
    omega
  · show tot wl (updr r2 j _) ≤ _
    have : tot wl r2 = tot wl (updr rv i (blk (rv i)).2) := rfl
    omega
abbrev row0 : List Bs := [#[97, 10], #[32, 10], #[10], #[99, 10]]
abbrev row1 : List Bs := [#[13, 10], #[100, 10], #[9, 13, 10], #[13, 10], #[102, 10]]
def rows0 : Nat → List Bs := fun i => if i = 0 then row0 else if i = 1 then row1 else []
theorem solid_of {c : UInt8} {r : List UInt8} (h1 : c ≠ 13) (h2 : c ≠ 10) : Solid (c :: r).toArray := ⟨c, r, rfl, h1, h2⟩
theorem inv4_start : Inv4 0 rows0 := by
  refine ⟨fun i hi b hb => ?_, by decide, by decide, by decide⟩
  match i, hi with
  | 0, _ =>
    have : b ∈ row0 := hb
    simp only [List.mem_cons, List.not_mem_nil, or_false] at this
    rcases this with rfl | rfl | rfl | rfl
    · exact .inr (solid_of (c := 97) (r := [10]) (by decide) (by decide))
    · exact .inr (solid_of (c := 32) (r := [10]) (by decide) (by decide))
    · exact .inl (by decide)
    · exact .inr (solid_of (c := 99) (r := [10]) (by decide) (by decide))
  | 1, _ =>
    have : b ∈ row1 := hb
    simp only [List.mem_cons, List.not_mem_nil, or_false] at this
    rcases this with rfl | rfl | rfl | rfl | rfl
    · exact .inl (by decide)
    · exact .inr (solid_of (c := 100) (r := [10]) (by decide) (by decide))
    · exact .inr (solid_of (c := 9) (r := [13, 10]) (by decide) (by decide))
    · exact .inl (by decide)
    · exact .inr (solid_of (c := 102) (r := [10]) (by decide) (by decide))
  | 2, _ => cases hb
end Mine

namespace Mine
section
variable {prog : Program} {w : World} {A : Around} {h : Heap} {env : Env} {P : Flow → Heap → Prop} {pos : Pos}
/-- three names at once -/
theorem Ev.assign3 {a b c : Str} {pa pb pc tp : Pos} {k0 : Nat} {value : Expr} (hh : A.handled = none)
    (e : Ev (model prog w) A (eval value env) h fun v h1 => ∃ t va vb vc, v = .ref t ∧ h1.get? t = some { cls := .type "tuple", data := .seq #[va, vb, vc] } ∧ ∀ h2, Keep [] h1 h2 →
      Ev (model prog w) A (storeName env c vc) h2 fun _ h3 => Ev (model prog w) A (storeName env b vb) h3 fun _ h4 => Ev (model prog w) A (storeName env a va) h4 fun _ h5 => P .next h5)
    (hs : swapsWithSole [.Tuple [.Name a pa, .Name b pb, .Name c pc] k0 tp] value pos.line env = Pure.pure false := by rfl)
    (hw : swappedStores [.Tuple [.Name a pa, .Name b pb, .Name c pc] k0 tp] value env = Pure.pure (some [a, b, c]) := by rfl) :
    Ev (model prog w) A (exec (.Assign [.Tuple [.Name a pa, .Name b pb, .Name c pc] k0 tp] value pos) env) h P := by
  intro g d tk os
  refine Assign_Tuple_swapped (names := [a, b, c]) (e.wp fun v h1 t1 q => ?_) hs hw
  obtain ⟨t, va, vb, vc, rfl, ht, q⟩ := q
  have up : Ev (model prog w) A (unpackItems (.ref t) 3 none) h1 fun r h2 => r = [va, vb, vc] ∧ Keep [] h1 h2 :=
    Ev.keeping (S := []) fun g d tk os => wpAny_unpackItems_tuple (s := ⟨h1, g, d, tk, os⟩) (items := #[va, vb, vc]) hh ⟨_, ht, rfl, 0, rfl⟩ fun h' he => ⟨h', tk, rfl, fun x o _ ex => he x o (Nat.ne_of_lt (Heap.lt_size ex)) ex, fun kk => ⟨rfl, kk⟩⟩
  refine up.wp fun r h2 t2 ⟨e1, k2⟩ => ?_
  subst e1
  show wpAny _ _ (PySem.holding [vb, va] (bindName env c vc) >>= fun _ => PySem.holding [va] (bindName env b vb) >>= fun _ => PySem.holding [] (bindName env a va) >>= fun _ => Pure.pure ()) _ _ _
  refine wpAny_bind (wpAny_holding (wpAny_bindName ((q h2 k2).wp fun _ h3 t3 q3 => wpAny_bind (wpAny_holding (wpAny_bindName (q3.wp fun _ h4 t4 q4 => wpAny_bind (wpAny_holding (wpAny_bindName (q4.wp fun _ h5 t5 q5 => wpAny_pure ⟨h5, t5, rfl, q5⟩)))))))))
end

/-- a list with its role -/
def Lr (h : Heap) (ρ : Addr → Nat) (k : Nat) (a : Addr) (vs : List Value) : Prop := Lst h a vs ∧ ρ a = k
theorem Lr.keep {h h' : Heap} {ρ : Addr → Nat} {k : Nat} {a : Addr} {vs : List Value} {S : List Addr} (x : Lr h ρ k a vs) (kp : Keep S h h') (n : ∀ b ∈ S, ρ b ≠ k ∨ h.objs.size ≤ b) : Lr h' ρ k a vs :=
  ⟨x.1.keep kp fun q => (n a q).elim (fun z => z x.2) fun z => absurd x.1.lt (Nat.not_lt.mpr z), x.2⟩
def updρ (ρ : Addr → Nat) (n k : Nat) : Addr → Nat := fun a => if a = n then k else ρ a
theorem Lr.role {h : Heap} {ρ : Addr → Nat} {k n k' : Nat} {a : Addr} {vs : List Value} (x : Lr h ρ k a vs) (l : h.objs.size ≤ n) : Lr h (updρ ρ n k') k a vs :=
  ⟨x.1, (if_neg (Nat.ne_of_lt (Nat.lt_of_lt_of_le x.1.lt l))).trans x.2⟩
theorem Lr.apart {h : Heap} {ρ : Addr → Nat} {k k' : Nat} {a b : Addr} {vs us : List Value} (x : Lr h ρ k a vs) (y : Lr h ρ k' b us) (n : k ≠ k') : a ≠ b := fun q => n (x.2.symm.trans ((congrArg ρ q).trans y.2))

def Ir (h : Heap) (ρ : Addr → Nat) (k : Nat) (a : Addr) (vs : List Value) : Prop := h.IsList a vs.toArray ∧ ρ a = k
theorem isList_lt {h : Heap} {a : Nat} {vs : Array Value} (x : h.IsList a vs) : a < h.objs.size := let ⟨_, e, _⟩ := x; Heap.lt_size e
theorem Ir.keep {h h' : Heap} {ρ : Addr → Nat} {k : Nat} {a : Addr} {vs : List Value} {S : List Addr} (x : Ir h ρ k a vs) (kp : Keep S h h') (n : ∀ b ∈ S, ρ b ≠ k ∨ h.objs.size ≤ b) : Ir h' ρ k a vs :=
  ⟨isList_keep x.1 kp fun q => (n a q).elim (fun z => z x.2) fun z => absurd (isList_lt x.1) (Nat.not_lt.mpr z), x.2⟩
theorem Ir.role {h : Heap} {ρ : Addr → Nat} {k n k' : Nat} {a : Addr} {vs : List Value} (x : Ir h ρ k a vs) (l : h.objs.size ≤ n) : Ir h (updρ ρ n k') k a vs :=
  ⟨x.1, (if_neg (Nat.ne_of_lt (Nat.lt_of_lt_of_le (isList_lt x.1) l))).trans x.2⟩
/-- the told lists and the lists that were due, pair by pair -/
inductive Told (h : Heap) (ρ : Addr → Nat) : List Value → List Value → Prop
  | nil : Told h ρ [] []
  | cons {a b : Addr} {vs us : List Value} {bs : List Bs} {n : Int} {t u : Tok} {ks ds : List Value} : Lr h ρ 11 a (vs ++ [.int n t]) → Lr h ρ 12 b (us ++ [.int n u]) → Bts vs bs → Bts us bs → Told h ρ ks ds → Told h ρ (.ref a :: ks) (.ref b :: ds)
theorem Told.keep {h h' : Heap} {ρ : Addr → Nat} {ks ds : List Value} {S : List Addr} (x : Told h ρ ks ds) (kp : Keep S h h') (n : ∀ b ∈ S, (ρ b ≠ 11 ∧ ρ b ≠ 12) ∨ h.objs.size ≤ b) : Told h' ρ ks ds := by
  induction x with
  | nil => exact .nil
  | cons a b c d _ ih => exact .cons (a.keep kp fun z hz => (n z hz).imp (·.1) id) (b.keep kp fun z hz => (n z hz).imp (·.2) id) c d ih
theorem Told.role {h : Heap} {ρ : Addr → Nat} {ks ds : List Value} {n k : Nat} (x : Told h ρ ks ds) (l : h.objs.size ≤ n) : Told h (updρ ρ n k) ks ds := by
  induction x with
  | nil => exact .nil
  | cons a b c d _ ih => exact .cons (a.role l) (b.role l) c d ih
theorem Told.append {h : Heap} {ρ : Addr → Nat} {ks ds ks' ds' : List Value} (x : Told h ρ ks ds) (y : Told h ρ ks' ds') : Told h ρ (ks ++ ks') (ds ++ ds') := by
  induction x with
  | nil => exact y
  | cons a b c d _ ih => exact .cons a b c d ih
theorem Told.alike {A : Around} {g d tk os} {h : Heap} {ρ : Addr → Nat} {ks ds : List Value} (x : Told h ρ ks ds) (hu : A.units < cLine) : Alike A ⟨h, g, d, tk, os⟩ ks ds := by
  induction x with
  | nil => exact .nil
  | @cons a b vs us bs n t u ks ds x y v w _ ih =>
    refine .cons (eqAt_lists (x.apart y (by decide)) x.1 y.1 hu ((alike_bts v w).append (.cons ?_ .nil))) ih
    have := SeqAt.EqAt.int_int (A := A.in1) (s := ⟨h, g, d, tk, os⟩) n t n u
    simpa using this

/-- the addresses that stay -/
structure Ads where
  L : Addr
  R : Addr
  Q : Addr
  S : Addr
  K : Addr
  D : Addr
  qa : Nat → Addr
  xa : Nat → Addr
abbrev refs3 (f : Nat → Addr) : List Value := [.ref (f 0), .ref (f 1), .ref (f 2)]
/-- what stands in the heap -/
structure Hp (a : Ads) (h : Heap) (ρ : Addr → Nat) (ra : Nat → Addr) (rq rr : Nat → List Bs) (ks ds : List Value) : Prop where
  L : ρ a.L = 100
  R : Ir h ρ 0 a.R (refs3 ra)
  Q : Lr h ρ 1 a.Q (refs3 a.qa)
  S : Lr h ρ 2 a.S (refs3 a.xa)
  K : Lr h ρ 3 a.K ks
  D : Lr h ρ 4 a.D ds
  q : ∀ i, i < 3 → ∃ vs, Lr h ρ (5 + i) (a.qa i) vs ∧ Bts vs (rq i)
  r : ∀ i, i < 3 → ∃ vs, Lr h ρ (8 + i) (ra i) vs ∧ Bts vs (rr i)
  T : Told h ρ ks ds
section
variable {a : Ads} {h h' : Heap} {ρ : Addr → Nat} {ra : Nat → Addr} {rq rr : Nat → List Bs} {ks ds : List Value}
theorem Hp.keep {S : List Addr} (x : Hp a h ρ ra rq rr ks ds) (kp : Keep S h h') (n : ∀ b ∈ S, ρ b = 100 ∨ h.objs.size ≤ b) : Hp a h' ρ ra rq rr ks ds := by
  have f : ∀ k, k ≠ 100 → ∀ b ∈ S, ρ b ≠ k ∨ h.objs.size ≤ b := fun k hk b hb => (n b hb).imp (fun e q => hk (q.symm.trans e)) id
  exact ⟨x.L, x.R.keep kp (f _ (by decide)), x.Q.keep kp (f _ (by decide)), x.S.keep kp (f _ (by decide)), x.K.keep kp (f _ (by decide)), x.D.keep kp (f _ (by decide)),
    fun i hi => let ⟨vs, p, q⟩ := x.q i hi; ⟨vs, p.keep kp (f _ (by omega)), q⟩, fun i hi => let ⟨vs, p, q⟩ := x.r i hi; ⟨vs, p.keep kp (f _ (by omega)), q⟩,
    x.T.keep kp fun b hb => (n b hb).imp (fun e => ⟨by rw [e]; decide, by rw [e]; decide⟩) id⟩
theorem Hp.role {n k : Nat} (x : Hp a h ρ ra rq rr ks ds) (l : h.objs.size ≤ n) (hL : a.L ≠ n) : Hp a h (updρ ρ n k) ra rq rr ks ds :=
  ⟨(if_neg hL).trans x.L, x.R.role l, x.Q.role l, x.S.role l, x.K.role l, x.D.role l, fun i hi => let ⟨vs, p, q⟩ := x.q i hi; ⟨vs, p.role l, q⟩, fun i hi => let ⟨vs, p, q⟩ := x.r i hi; ⟨vs, p.role l, q⟩, x.T.role l⟩
theorem one_ne {b c : Addr} {ρ : Addr → Nat} {k k' n : Nat} (e : ρ c = k') (ne : k' ≠ k) : ∀ b ∈ [c], ρ b ≠ k ∨ n ≤ b := fun b hb => .inl (by rw [List.mem_singleton.mp hb, e]; exact ne)
theorem one_told {c : Addr} {ρ : Addr → Nat} {k' n : Nat} (e : ρ c = k') (n1 : k' ≠ 11) (n2 : k' ≠ 12) : ∀ b ∈ [c], (ρ b ≠ 11 ∧ ρ b ≠ 12) ∨ n ≤ b := fun b hb => .inl (by rw [List.mem_singleton.mp hb, e]; exact ⟨n1, n2⟩)
/-- a queue turns -/
theorem Hp.setQ (x : Hp a h ρ ra rq rr ks ds) {j : Nat} (hj : j < 3) (kp : Keep [a.qa j] h h') {vs : List Value} {bs : List Bs} (l : Lst h' (a.qa j) vs) (b : Bts vs bs) : Hp a h' ρ ra (updr rq j bs) rr ks ds := by
  obtain ⟨v0, p0, _⟩ := x.q j hj
  have e := p0.2
  refine ⟨x.L, x.R.keep kp (one_ne (b := 0) e (by omega)), x.Q.keep kp (one_ne (b := 0) e (by omega)), x.S.keep kp (one_ne (b := 0) e (by omega)), x.K.keep kp (one_ne (b := 0) e (by omega)), x.D.keep kp (one_ne (b := 0) e (by omega)),
    fun i hi => ?_, fun i hi => let ⟨vs, p, q⟩ := x.r i hi; ⟨vs, p.keep kp (one_ne (b := 0) e (by omega)), q⟩, x.T.keep kp (one_told e (by omega) (by omega))⟩
  by_cases q : i = j
  · subst q
    exact ⟨vs, ⟨l, e⟩, by rw [updr_same]; exact b⟩
  · obtain ⟨us, p, r⟩ := x.q i hi
    exact ⟨us, p.keep kp (one_ne (b := 0) e (by omega)), by rw [updr_ne q]; exact r⟩
/-- a row turns -/
theorem Hp.setRow (x : Hp a h ρ ra rq rr ks ds) {j : Nat} (hj : j < 3) (kp : Keep [ra j] h h') {vs : List Value} {bs : List Bs} (l : Lst h' (ra j) vs) (b : Bts vs bs) : Hp a h' ρ ra rq (updr rr j bs) ks ds := by
  obtain ⟨v0, p0, _⟩ := x.r j hj
  have e := p0.2
  refine ⟨x.L, x.R.keep kp (one_ne (b := 0) e (by omega)), x.Q.keep kp (one_ne (b := 0) e (by omega)), x.S.keep kp (one_ne (b := 0) e (by omega)), x.K.keep kp (one_ne (b := 0) e (by omega)), x.D.keep kp (one_ne (b := 0) e (by omega)),
    fun i hi => let ⟨vs, p, q⟩ := x.q i hi; ⟨vs, p.keep kp (one_ne (b := 0) e (by omega)), q⟩, fun i hi => ?_, x.T.keep kp (one_told e (by omega) (by omega))⟩
  by_cases q : i = j
  · subst q
    exact ⟨vs, ⟨l, e⟩, by rw [updr_same]; exact b⟩
  · obtain ⟨us, p, r⟩ := x.r i hi
    exact ⟨us, p.keep kp (one_ne (b := 0) e (by omega)), by rw [updr_ne q]; exact r⟩
/-- a row is replaced -/
theorem Hp.setR (x : Hp a h ρ ra rq rr ks ds) {j n : Nat} (hj : j < 3) (kp : Keep [a.R] h h') {vs : List Value} {bs : List Bs} (lR : h'.IsList a.R (refs3 (updr ra j n)).toArray) (l : Lr h ρ (8 + j) n vs) (b : Bts vs bs) : Hp a h' ρ (updr ra j n) rq (updr rr j bs) ks ds := by
  have e := x.R.2
  refine ⟨x.L, ⟨lR, e⟩, x.Q.keep kp (one_ne (b := 0) e (by omega)), x.S.keep kp (one_ne (b := 0) e (by omega)), x.K.keep kp (one_ne (b := 0) e (by omega)), x.D.keep kp (one_ne (b := 0) e (by omega)),
    fun i hi => let ⟨vs, p, q⟩ := x.q i hi; ⟨vs, p.keep kp (one_ne (b := 0) e (by omega)), q⟩, fun i hi => ?_, x.T.keep kp (one_told e (by omega) (by omega))⟩
  by_cases q : i = j
  · subst q
    exact ⟨vs, by rw [updr_same]; exact l.keep kp (one_ne (b := 0) e (by omega)), by rw [updr_same]; exact b⟩
  · obtain ⟨us, p, r⟩ := x.r i hi
    exact ⟨us, by rw [updr_ne q]; exact p.keep kp (one_ne (b := 0) e (by omega)), by rw [updr_ne q]; exact r⟩
/-- a pair is laid down -/
theorem Hp.setKD (x : Hp a h ρ ra rq rr ks ds) {h2 : Heap} (kp : Keep [a.K] h h') (kp2 : Keep [a.D] h' h2) {v u : Value} (lK : Lst h' a.K (ks ++ [v])) (lD : Lst h2 a.D (ds ++ [u])) (t : Told h ρ [v] [u]) : Hp a h2 ρ ra rq rr (ks ++ [v]) (ds ++ [u]) := by
  have e := x.K.2
  have e2 := x.D.2
  have f : ∀ {k : Nat} {b : Addr} {vs : List Value}, Lr h ρ k b vs → k ≠ 3 → k ≠ 4 → Lr h2 ρ k b vs := fun l n1 n2 => (l.keep kp (one_ne (b := 0) e n1.symm)).keep kp2 (one_ne (b := 0) e2 n2.symm)
  have fR : Ir h2 ρ 0 a.R (refs3 ra) := (x.R.keep kp (one_ne (b := 0) e (by omega))).keep kp2 (one_ne (b := 0) e2 (by omega))
  have lK' : Lr h' ρ 3 a.K (ks ++ [v]) := ⟨lK, e⟩
  refine ⟨x.L, fR, f x.Q (by omega) (by omega), f x.S (by omega) (by omega), lK'.keep kp2 (one_ne (b := 0) e2 (by omega)), ⟨lD, e2⟩,
    fun i hi => let ⟨vs, p, q⟩ := x.q i hi; ⟨vs, f p (by omega) (by omega), q⟩, fun i hi => let ⟨vs, p, q⟩ := x.r i hi; ⟨vs, f p (by omega) (by omega), q⟩,
    ((x.T.append t).keep kp (one_told e (by omega) (by omega))).keep kp2 (one_told e2 (by omega) (by omega))⟩
end
end Mine

namespace Mine
/-- parts of the text -/
def fnParts4 : Stmt → Option (List Stmt × Scope)
  | .FunctionDef _ _ body _ _ _ scope _ _ _ => some (body, scope)
  | _ => none
def subs4 : Stmt → List Stmt
  | .For _ _ b _ _ => b
  | .While _ b _ _ => b
  | _ => []
def nth4 (l : List Stmt) (i : Nat) : Stmt := l.getD i (.Break ⟨0, 0, 0, 0⟩)
def law4 : Option (List Stmt × Scope) := pg4.main.body.getLast?.bind fnParts4
theorem ltN4 {h : Heap} {L : Nat} {m : Str → Option Value} (n : h.Ns L m) : L < h.objs.size := n.lt
theorem nb4 {a b c d e : Nat} (n1 : a ≠ b) (n2 : a ≠ c) (n3 : a ≠ d) (n4 : a ≠ e) : a ∉ [b, c, d, e] := by simp [n1, n2, n3, n4]
theorem al4 {b c d e : Nat} {P : Nat → Prop} (p : P b) (q : P c) (r : P d) (s : P e) : ∀ a ∈ [b, c, d, e], P a := fun a h => by
  simp only [List.mem_cons, List.not_mem_nil, or_false] at h
  rcases h with rfl | rfl | rfl | rfl <;> assumption
section
variable {prog : Program} {w : World} {A : Around} {h : Heap} {env : Env} {pos : Pos}
theorem Ev.assignTup2 {a b : Str} {pa pb tp : Pos} {k0 : Nat} {t : Addr} {va vb : Value} {P : Unit → Heap → Prop} (hh : A.handled = none) (ht : h.get? t = some { cls := .type "tuple", data := .seq #[va, vb] })
    (k : ∀ h2, Keep [] h h2 → Ev (model prog w) A (storeName env a va) h2 fun _ h3 => Ev (model prog w) A (storeName env b vb) h3 fun _ h4 => P () h4) : Ev (model prog w) A (PySem.assign (.Tuple [.Name a pa, .Name b pb] k0 tp) env (.ref t)) h P := by
  have up : Ev (model prog w) A (unpackItems (.ref t) 2 none) h fun r h2 => r = [va, vb] ∧ Keep [] h h2 :=
    Ev.keeping (S := []) fun g d tk os => wpAny_unpackItems_tuple (s := ⟨h, g, d, tk, os⟩) (items := #[va, vb]) hh ⟨_, ht, rfl, 0, rfl⟩ fun h' he => ⟨h', tk, rfl, fun x o _ ex => he x o (Nat.ne_of_lt (Heap.lt_size ex)) ex, fun kk => ⟨rfl, kk⟩⟩
  intro g d tk os
  rw [arm_assign_Tuple]
  refine wpAny_bind (wpAny_standAt ?_)
  unfold unpack
  show wpAny _ _ (PySem.holding [.ref t] (unpackItems (.ref t) 2 none) >>= fun items => assignInOrder [PySem.assign (.Name a pa) env, PySem.assign (.Name b pb) env] items) _ _ _
  refine wpAny_bind (wpAny_holding (up.wp fun r h2 t2 ⟨e1, k2⟩ => ?_))
  subst e1
  show wpAny _ _ (PySem.holding [vb] (PySem.assign (.Name a pa) env va) >>= fun _ => PySem.holding [] (PySem.assign (.Name b pb) env vb) >>= fun _ => Pure.pure ()) _ _ _
  exact wpAny_bind (wpAny_holding (wpAny_assign_Name ((k h2 k2).wp fun _ h3 t3 q3 => wpAny_bind (wpAny_holding (wpAny_assign_Name (q3.wp fun _ h4 t4 q4 => wpAny_pure ⟨h4, t4, rfl, q4⟩))))))
end
theorem spots_add (bs : List Bs) (b : Bs) : ∀ k, spots k (bs ++ [b]) = spots k bs ++ (if blank b = true then [k + bs.length] else []) := by
  induction bs with
  | nil => intro k; simp only [List.nil_append, spots, List.length_nil, Nat.add_zero]
  | cons c r ih =>
    intro k
    simp only [List.cons_append, spots, ih, List.length_cons]
    rw [show k + 1 + r.length = k + (r.length + 1) by omega]
    split <;> rfl
/-- ints that are these numbers -/
inductive Ns4 : List Value → List Nat → Prop
  | nil : Ns4 [] []
  | cons {n : Nat} {t : Tok} {vs : List Value} {ns : List Nat} : Ns4 vs ns → Ns4 (.int (n : Int) t :: vs) (n :: ns)
theorem Ns4.append {vs us : List Value} {bs cs : List Nat} (x : Ns4 vs bs) (y : Ns4 us cs) : Ns4 (vs ++ us) (bs ++ cs) := by
  induction x with
  | nil => exact y
  | cons _ ih => exact .cons ih
theorem Ns4.length {vs : List Value} {bs : List Nat} (x : Ns4 vs bs) : vs.length = bs.length := by
  induction x with
  | nil => rfl
  | cons _ ih => simp [ih]
theorem spots_len (bs : List Bs) : ∀ k, (spots k bs).length ≤ bs.length := by
  induction bs with
  | nil => intro k; simp [spots]
  | cons c r ih =>
    intro k
    have := ih (k + 1)
    unfold spots
    split <;> simp <;> omega
section
variable {w : World} {mg mb : Str → Option Value} {g0 : Heap} {A : Around} {h : Heap} {body : List Stmt} {scope : Scope} {L fa : Addr} {cd : Value} {P : Flow → Heap → Prop}
set_option maxHeartbeats 2000000 in
/-- the places of the blank lines -/
theorem blanks4 (hd : law4 = some (body, scope)) (c : Top4 w mg mb g0) (r : Room A 20) {m : Str → Option Value} {row : Addr} {vs : List Value} {bs : List Bs}
    (hn : h.Ns L m) (st : Stay g0 h) (hrow : m "row" = some (.ref row)) (ql : Lst h row vs) (bl : Bts vs bs) (hok : ∀ b ∈ bs, LineOk b) (hz : bs.length ≤ 1000) (hsz : ∀ b ∈ bs, b.size ≤ 65536)
    (k : ∀ h' D ws, Keep [L] h h' → h'.Ns L (upd m "blanks" (.ref D)) → h.objs.size ≤ D → Lst h' D ws → Ns4 ws (spots 0 bs) → P .next h') :
    Ev (model pg4 w) A (exec (nth4 (subs4 (nth4 body 5)) 3) (envOf "law" scope L fa cd)) h P := by
  obtain ⟨rfl, rfl⟩ := Prod.mk.inj (Option.some.inj (show some (_, _) = some (body, scope) from hd))
  have G := c.G.keeps st
  have lL := ltN4 hn
  have lr := ql.lt
  have hlv := bl.length
  refine Ev.assignComp (by decide) (by decide) rfl (by decide) rfl ?_
  refine Ev.callN (Ev.builtin G rfl rfl (Ev.items_cons (Ev.local hn hrow (Ev.items_nil ⟨keeper_type, Ev.enumerate ql.isList fun h1 e1 i1 z1 k1 => ?_⟩))))
  have itr : ∀ h', IsEnum h' (h.objs.size + 1) h.objs.size 0 .none → Ev (model pg4 w) A (pyIter (.ref (h.objs.size + 1))) h' fun v h2 => v = .ref (h.objs.size + 1) ∧ h2 = h' := fun h' e g d tk os => wpAny_pyIter_enum (s := ⟨h', g, d, tk, os⟩) e ⟨h', tk, rfl, rfl, rfl⟩
  refine (itr h1 e1).mono ?_
  rintro v h2 ⟨rfl, rfl⟩ h3 k3 q3 hn3 z3
  have e3 : IsEnum h3 (h.objs.size + 1) h.objs.size 0 .none := k3.get _ _ (by simp) e1
  refine ⟨h.objs.size + 1, vs.length, fun i h' => ∃ old ws m', IsEnum h' (h.objs.size + 1) h.objs.size (i : Nat) old ∧ h'.IsListIter h.objs.size row i ∧ Lst h' row vs ∧ h'.Ns (h2.objs.size + 1) m' ∧ Lst h' h2.objs.size ws ∧ Ns4 ws (spots 0 (bs.take i)) ∧ Keep [] h h' ∧ h2.objs.size + 2 ≤ h'.objs.size, rfl, ?_, itr h3 e3, ?_, ?_⟩
  · obtain ⟨o, ho, rr⟩ := i1
    exact ⟨.none, [], _, e3, ⟨o, k3.get _ _ (by simp) ho, rr⟩, (ql.keep k1 (by simp)).keep k3 (by simp), hn3, q3, .nil, k1.trans k3, by omega⟩
  · rintro i h4 hi ⟨old, ws, m', a1, a2, a3, a4, a5, a6, a7, a8⟩
    obtain ⟨b, tb, v1, v2⟩ := bl.get i hi
    have hib : i < bs.length := by omega
    have hbm : b ∈ bs := List.mem_of_getElem? v2
    intro g d tk os
    refine wpAny_pyNext_enum_item (s := ⟨h4, g, d, tk, os⟩) a1 a2 a3.isList (by simpa using v1) (Nat.ne_of_gt (Nat.lt_succ_self _)) fun h5 b1 b2 b3 b4 b5 => ⟨h5, _, rfl, _, rfl, ?_⟩
    replace b5 : ∀ b o, b ≠ h.objs.size + 1 → b ≠ h.objs.size → h4.get? b = some o → h5.get? b = some o := b5
    replace b4 : h5.objs.size = h4.objs.size + 1 := b4
    replace b3 : h5.get? h4.objs.size = _ := b3
    have k5 : Keep [h.objs.size + 1, h.objs.size] h4 h5 := ⟨by omega, fun x o n e => b5 x o (fun q => n (by rw [q]; simp)) (fun q => n (by rw [q]; simp)) e⟩
    have go : Ev (model pg4 w) A (letOwnedTupleGo (.Tuple [.Name (Str.ofString "k") ⟨50, 23, 50, 24⟩, .Name (Str.ofString "line") ⟨50, 26, 50, 30⟩] 0 ⟨50, 23, 50, 30⟩) (.ref (h.objs.size + 1)) (.ref h4.objs.size)) h5 fun _ h6 => IsEnum h6 (h.objs.size + 1) h.objs.size ((i : Int) + 1) (.bytes b tb) ∧ Keep [h.objs.size + 1] h5 h6 :=
      fun g d tk os => wpAny_letOwnedTupleGo_enum (s := ⟨h5, g, d, tk, os⟩) b1 fun h' x y => ⟨h', tk, rfl, x, .of_sameBut y⟩
    refine go.mono ?_
    rintro _ h6 ⟨c1, k6⟩
    have t6 := k6.get _ _ (ni (by omega)) b3
    refine Ev.assignTup2 r.handled t6 fun h7 k7 => ?_
    have n7 := k7.ns (k6.ns (k5.ns a4 (ni2 (by omega) (by omega))) (ni (by omega))) (by simp)
    refine Ev.store n7 fun h8 n8 k8 => Ev.store n8 fun h9 n9 k9 => ?_
    have k49 : Keep [h.objs.size + 1, h.objs.size, h2.objs.size + 1] h4 h9 := ((((k5.mono (by simp)).trans (k6.mono (by simp))).trans k7.nil).trans (k8.mono (by simp))).trans (k9.mono (by simp))
    have z49 := k49.size
    have en9 : IsEnum h9 (h.objs.size + 1) h.objs.size (i + 1 : Nat) (.bytes b tb) := k9.get _ _ (ni (by omega)) (k8.get _ _ (ni (by omega)) (k7.get _ _ (by simp) c1))
    have it9 : h9.IsListIter h.objs.size row (i + 1) := by
      obtain ⟨o, ho, rr⟩ := b2
      exact ⟨o, k9.get _ _ (ni (by omega)) (k8.get _ _ (ni (by omega)) (k7.get _ _ (by simp) (k6.get _ _ (ni (by omega)) ho))), rr⟩
    have l9 := a3.keep k49 (ni3 (by omega) (by omega) (by omega))
    have d9 := a5.keep k49 (ni3 (by omega) (by omega) (by omega))
    have kk9 : Keep [] h h9 := a7.then k49 (fun x hx => .inr (by
      simp only [List.mem_cons, List.not_mem_nil, or_false] at hx
      rcases hx with rfl | rfl | rfl
      · exact Nat.le_succ _
      · exact Nat.le_refl _
      · exact Nat.le_trans (by omega : h.objs.size ≤ h2.objs.size) (Nat.le_succ _)))
    -- if line[:1] in (..)
    refine Ev.tests_one (Ev.isTrue1 (Ev.subscript (Ev.local n9 upd_same (Ev.slice (Ev.part_none (Ev.part_some (Ev.int fun t => Ev.part_none fun h10 s10 k10 => ⟨.bytes, Ev.head_bytes s10 (by have := hsz b hbm; omega) fun th => ?_⟩)))))))
    refine Ev.tuple (Ev.items_cons (Ev.bytes fun t1 => Ev.items_cons (Ev.bytes fun t2 => Ev.items_cons (Ev.bytes fun t3 => Ev.items_nil ⟨by simp, ?_⟩))))
    refine Ev.in_tuple_bytes (Heap.get?_push_size _ rfl) ?_ ⟨_, rfl, ?_⟩
    · intro v hv
      simp only [List.mem_cons, List.not_mem_nil, or_false] at hv
      rcases hv with rfl | rfl | rfl <;> exact ⟨_, _, rfl⟩
    have hbl : ([Value.bytes ([] : List UInt8).toArray t1, Value.bytes [13].toArray t2, Value.bytes [10].toArray t3].any (isB (b.toList.take 1).toArray)) = blank b := by
      rw [← opens_eq (hok b hbm)]
      rfl
    rw [hbl]
    have k11 := Keep.push h10 { cls := .type "tuple", data := .seq [Value.bytes ([] : List UInt8).toArray t1, Value.bytes [13].toArray t2, Value.bytes [10].toArray t3].toArray }
    generalize h10.push _ = h11 at k11
    have k9b : Keep [] h9 h11 := k10.trans k11
    have z11 := k9b.size
    have take1 : bs.take (i + 1) = bs.take i ++ [b] := by rw [List.take_add_one, v2]; rfl
    have hdl := a6.length
    have hsl := spots_len (bs.take i) 0
    have htl : (bs.take i).length = i := by simp; omega
    have it11 : h11.IsListIter h.objs.size row (i + 1) := let ⟨o, ho, rr⟩ := it9; ⟨o, k9b.get _ _ (by simp) ho, rr⟩
    have en11 := k9b.get _ _ (by simp) en9
    cases hbb : blank b with
    | false =>
      rw [if_neg (by decide)]
      refine ⟨_, ws, _, en11, it11, l9.keep k9b (by simp), k9b.ns n9 (by simp), d9.keep k9b (by simp), ?_, kk9.trans k9b, by omega⟩
      rw [take1, spots_add, hbb]; simpa using a6
    | true =>
      rw [if_pos rfl]
      have n11 := k9b.ns n9 (by simp)
      refine Ev.local n11 ((upd_ne (by decide)).trans upd_same) ?_
      refine Ev.append (d9.keep k9b (by simp)) (by omega) fun h12 k12 q12 => ?_
      have z12 := k12.size
      refine ⟨_, _, _, k12.get _ _ (ni (by omega)) en11, ?_, (l9.keep k9b (by simp)).keep k12 (ni (by omega)), k12.ns n11 (ni (by omega)), q12, ?_, (kk9.trans k9b).then k12 (all1 (.inr (by omega))), by omega⟩
      · obtain ⟨o, ho, rr⟩ := it11
        exact ⟨o, k12.get _ _ (ni (by omega)) ho, rr⟩
      · rw [take1, spots_add, hbb, if_pos rfl, htl, Nat.zero_add]
        exact a6.append (.cons .nil)
  · rintro h4 ⟨old, ws, m', a1, a2, a3, a4, a5, a6, a7, a8⟩
    refine Ev.keeping (S := [h.objs.size]) fun g d tk os => wpAny_pyNext_enum_end (s := ⟨h4, g, d, tk, os⟩) r.handled a1 a2 a3.isList (by simp) fun h5 he => ⟨h5, tk, rfl, fun x o n e => he x o (fun q => n (by rw [q]; exact .head _)) e, fun k5 => ⟨rfl, ?_⟩⟩
    have kk5 : Keep [] h h5 := a7.then k5 (all1 (.inr (Nat.le_refl _)))
    refine Ev.store (kk5.ns hn (by simp)) fun h6 n6 k6 => ?_
    have c6 := k6.ns (k5.ns a4 (ni (by omega))) (ni (by omega))
    refine ⟨⟨_, c6⟩, fun h7 k7 => ?_⟩
    rw [List.take_of_length_le (by omega)] at a6
    refine k h7 h2.objs.size ws ((kk5.nil.trans k6).then k7 (all1 (.inr (by omega)))) (k7.ns n6 (ni (by omega))) (by omega) ((((a5.keep k5 (ni (by omega))).keep k6 (ni (by omega)))).keep k7 (ni (by omega))) a6
end
end Mine

namespace Mine
/-- what turned since h0 -/
structure Base (a : Ads) (X : List Addr) (h0 : Heap) (ra : Nat → Addr) (h : Heap) : Prop where
  kp : Keep X h0 h
  L : a.L ∈ X
  R : a.R ∈ X
  K : a.K ∈ X ∨ h0.objs.size ≤ a.K
  D : a.D ∈ X ∨ h0.objs.size ≤ a.D
  q : ∀ i, i < 3 → a.qa i ∈ X
  r : ∀ i, i < 3 → ra i ∈ X ∨ h0.objs.size ≤ ra i
section
variable {a : Ads} {X : List Addr} {h0 h h' : Heap} {ra : Nat → Addr} {b : Addr}
theorem Base.go (x : Base a X h0 ra h) (kp : Keep [b] h h') (n : b ∈ X ∨ h0.objs.size ≤ b) : Base a X h0 ra h' := { x with kp := x.kp.then kp (all1 n) }
theorem Base.goN {S : List Addr} (x : Base a X h0 ra h) (kp : Keep S h h') (n : ∀ b ∈ S, b = a.L ∨ h.objs.size ≤ b) : Base a X h0 ra h' :=
  { x with kp := x.kp.then kp fun b hb => (n b hb).imp (fun (e : b = a.L) => by rw [e]; exact x.L) fun l => Nat.le_trans x.kp.size l }
theorem Base.row {n j : Nat} (x : Base a X h0 ra h) (l : h0.objs.size ≤ n) : Base a X h0 (updr ra j n) h := { x with r := fun i hi => (Nat.decEq i j).casesOn (fun q => by rw [updr_ne q]; exact x.r i hi) (fun q => by rw [q, updr_same]; exact .inr l) }
end
/-- none of the tracked ones is of the ground -/
structure Off (a : Ads) (g0 : Heap) (ra : Nat → Addr) : Prop where
  L : g0.get? a.L = none
  R : g0.get? a.R = none
  K : g0.get? a.K = none
  D : g0.get? a.D = none
  q : ∀ i, i < 3 → g0.get? (a.qa i) = none
  r : ∀ i, i < 3 → g0.get? (ra i) = none
/-- the state within a turn -/
structure Dy (a : Ads) (g0 : Heap) (X : List Addr) (hS : Heap) (Y : List Addr) (h0 : Heap) (h : Heap) (ρ : Addr → Nat) (ra : Nat → Addr) (rq rr : Nat → List Bs) (ks ds : List Value) : Prop where
  hp : Hp a h ρ ra rq rr ks ds
  b1 : Base a X hS ra h
  b2 : Base a Y h0 ra h
  of : Off a g0 ra
  st : Stay g0 h
section
variable {a : Ads} {g0 : Heap} {X Y : List Addr} {hS h0 h h' : Heap} {ρ : Addr → Nat} {ra : Nat → Addr} {rq rr : Nat → List Bs} {ks ds : List Value}
theorem Dy.keep {S : List Addr} (x : Dy a g0 X hS Y h0 h ρ ra rq rr ks ds) (kp : Keep S h h') (n : ∀ b ∈ S, b = a.L ∨ h.objs.size ≤ b) : Dy a g0 X hS Y h0 h' ρ ra rq rr ks ds :=
  ⟨x.hp.keep kp fun b hb => (n b hb).imp (fun (e : b = a.L) => by rw [e]; exact x.hp.L) id, x.b1.goN kp n, x.b2.goN kp n, x.of, x.st.keep kp fun b hb => (n b hb).elim (fun (e : b = a.L) => by rw [e]; exact x.of.L) fun l => x.st.none l⟩
theorem Dy.keep0 (x : Dy a g0 X hS Y h0 h ρ ra rq rr ks ds) (kp : Keep [] h h') : Dy a g0 X hS Y h0 h' ρ ra rq rr ks ds := x.keep kp fun _ q => nomatch q
theorem Dy.keepL (x : Dy a g0 X hS Y h0 h ρ ra rq rr ks ds) (kp : Keep [a.L] h h') : Dy a g0 X hS Y h0 h' ρ ra rq rr ks ds := x.keep kp fun b q => .inl (List.mem_singleton.mp q)
theorem Dy.role {n k : Nat} (x : Dy a g0 X hS Y h0 h ρ ra rq rr ks ds) (l : h.objs.size ≤ n) (hL : a.L ≠ n) : Dy a g0 X hS Y h0 h (updρ ρ n k) ra rq rr ks ds := { x with hp := x.hp.role l hL }
theorem Dy.setQ (x : Dy a g0 X hS Y h0 h ρ ra rq rr ks ds) {j : Nat} (hj : j < 3) (kp : Keep [a.qa j] h h') {vs : List Value} {bs : List Bs} (l : Lst h' (a.qa j) vs) (b : Bts vs bs) : Dy a g0 X hS Y h0 h' ρ ra (updr rq j bs) rr ks ds :=
  ⟨x.hp.setQ hj kp l b, x.b1.go kp (.inl (x.b1.q j hj)), x.b2.go kp (.inl (x.b2.q j hj)), x.of, x.st.keep kp (all1 (x.of.q j hj))⟩
theorem Dy.setRow (x : Dy a g0 X hS Y h0 h ρ ra rq rr ks ds) {j : Nat} (hj : j < 3) (kp : Keep [ra j] h h') {vs : List Value} {bs : List Bs} (l : Lst h' (ra j) vs) (b : Bts vs bs) : Dy a g0 X hS Y h0 h' ρ ra rq (updr rr j bs) ks ds :=
  ⟨x.hp.setRow hj kp l b, x.b1.go kp (x.b1.r j hj), x.b2.go kp (x.b2.r j hj), x.of, x.st.keep kp (all1 (x.of.r j hj))⟩
theorem Dy.setR (x : Dy a g0 X hS Y h0 h ρ ra rq rr ks ds) {j n : Nat} (hj : j < 3) (kp : Keep [a.R] h h') {vs : List Value} {bs : List Bs} (lR : h'.IsList a.R (refs3 (updr ra j n)).toArray) (l : Lr h ρ (8 + j) n vs) (b : Bts vs bs)
    (l1 : hS.objs.size ≤ n) (l2 : h0.objs.size ≤ n) (gn : g0.get? n = none) : Dy a g0 X hS Y h0 h' ρ (updr ra j n) rq (updr rr j bs) ks ds :=
  ⟨x.hp.setR hj kp lR l b, (x.b1.go kp (.inl x.b1.R)).row l1, (x.b2.go kp (.inl x.b2.R)).row l2, { x.of with r := fun i hi => (Nat.decEq i j).casesOn (fun q => by rw [updr_ne q]; exact x.of.r i hi) (fun q => by rw [q, updr_same]; exact gn) }, x.st.keep kp (all1 x.of.R)⟩
theorem Dy.setKD (x : Dy a g0 X hS Y h0 h ρ ra rq rr ks ds) {h2 : Heap} (kp : Keep [a.K] h h') (kp2 : Keep [a.D] h' h2) {v u : Value} (lK : Lst h' a.K (ks ++ [v])) (lD : Lst h2 a.D (ds ++ [u])) (t : Told h ρ [v] [u]) : Dy a g0 X hS Y h0 h2 ρ ra rq rr (ks ++ [v]) (ds ++ [u]) :=
  ⟨x.hp.setKD kp kp2 lK lD t, (x.b1.go kp x.b1.K).go kp2 x.b1.D, (x.b2.go kp x.b2.K).go kp2 x.b2.D, x.of, (x.st.keep kp (all1 x.of.K)).keep kp2 (all1 x.of.D)⟩
/-- a new list gets its role -/
theorem Dy.newRole {n k : Nat} {vs : List Value} (x : Dy a g0 X hS Y h0 h ρ ra rq rr ks ds) (kp : Keep [] h h') (l : h.objs.size ≤ n) (hL : a.L ≠ n) (q : Lst h' n vs) : Dy a g0 X hS Y h0 h' (updρ ρ n k) ra rq rr ks ds ∧ Lr h' (updρ ρ n k) k n vs := by
  refine ⟨?_, q, if_pos rfl⟩
  exact (x.role (n := n) (k := k) l hL).keep0 kp
end
/-- what a queue's reader does -/
def QSpec (w : World) (g0 : Heap) (y : Addr) (h2 : Heap) (f : Addr) : Prop :=
  ∀ (A : Around) (lim : Value) (vs : List Value) (bs : List Bs), Stay g0 h2 → Lst h2 y vs → Bts vs bs → bs.length ≤ 1000 → Room A 1 →
        EvC (model pg4 w) A (.call (.ref f) ⟨[lim], []⟩) h2 fun v h' => ∃ tk vs', v = .bytes (nx4 bs).1 tk ∧ Keep [y] h2 h' ∧ Lst h' y vs' ∧ Bts vs' (nx4 bs).2
/-- a queue's state -/
def Sq (g0 : Heap) (X : List Addr) (hS : Heap) (y : Addr) (s : List Bs) (h : Heap) : Prop := Keep X hS h ∧ Stay g0 h ∧ s.length ≤ 1000 ∧ ∃ vs, Lst h y vs ∧ Bts vs s
theorem queue_src {w : World} {mg mb : Str → Option Value} {g0 : Heap} (c : Top4 w mg mb g0) {X : List Addr} {hS : Heap} {y x : Addr} (stS : Stay g0 hS) (hy : (y : Nat) < hS.objs.size) (hyX : y ∈ X) (hgy : g0.get? y = none)
    (rd : ∀ h2, Keep X hS h2 → Reader4 h2 x (QSpec w g0 y h2)) : Src pg4 w (K4 w) mg mb 31 1 [y] hS.objs.size (fun z => hS.objs.size ≤ z) (Sq g0 X hS y) nx4 x :=
  { okB := fun _ l => l
    gd := fun {s h} q => c.G.keeps q.2.1
    lo := fun {s h} q => q.1.size
    low := all1 hy
    keep := fun {s h h' S'} ⟨k1, st, hz, vs, l, b⟩ kp hok => ⟨k1.thenN kp fun z hz => .inr (get_none (hok z hz)), st.keep kp fun z hz => stS.none (hok z hz), hz, vs, l.keep kp fun q => absurd hy (Nat.not_lt.mpr (hok _ q)), b⟩
    rd := fun {s h} ⟨k1, st, hz, vs, l, b⟩ => by
      obtain ⟨t, d0, m, f, o, fd, x1, x2, x3, x4, x5, x6⟩ := rd h k1
      refine ⟨t, d0, m, f, o, fd, x1, x2, x3, x4, x5, fun A lim r => ?_⟩
      refine (x6 A lim vs s st l b hz r).mono fun v h' ⟨tk, vs', e, k2, l2, b2⟩ => ⟨tk, e, k2, k1.trans (k2.mono (all1 hyX)), st.keep k2 (all1 hgy), ?_, vs', l2, b2⟩
      cases s with
      | nil => exact Nat.zero_le _
      | cons b r => simp only [nx4, List.length_cons] at hz ⊢; omega }
/-- names that stay -/
structure Same5 (m m' : Str → Option Value) : Prop where
  rows : m' "rows" = m "rows"
  queues : m' "queues" = m "queues"
  sources : m' "sources" = m "sources"
  kept : m' "kept" = m "kept"
  dues : m' "dues" = m "dues"
theorem Same5.upd {m m' : Str → Option Value} {x : Str} {v : Value} (s : Same5 m m') (h1 : (x : Str) ≠ "rows" := by decide) (h2 : (x : Str) ≠ "queues" := by decide) (h3 : (x : Str) ≠ "sources" := by decide) (h4 : (x : Str) ≠ "kept" := by decide) (h5 : (x : Str) ≠ "dues" := by decide) : Same5 m (Mine.upd m' x v) :=
  ⟨(upd_ne h1.symm).trans s.rows, (upd_ne h2.symm).trans s.queues, (upd_ne h3.symm).trans s.sources, (upd_ne h4.symm).trans s.kept, (upd_ne h5.symm).trans s.dues⟩
theorem Same5.refl (m : Str → Option Value) : Same5 m m := ⟨rfl, rfl, rfl, rfl, rfl⟩
theorem Same5.trans {m m' m'' : Str → Option Value} (x : Same5 m m') (y : Same5 m' m'') : Same5 m m'' := ⟨y.rows.trans x.rows, y.queues.trans x.queues, y.sources.trans x.sources, y.kept.trans x.kept, y.dues.trans x.dues⟩
end Mine

namespace Mine
theorem refs_get {f : Nat → Addr} {i : Nat} (hi : i < 3) : (refs3 f)[i]? = some (.ref (f i)) := by
  match i, hi with
  | 0, _ => rfl
  | 1, _ => rfl
  | 2, _ => rfl
theorem refs_set {f : Nat → Addr} {i n : Nat} (hi : i < 3) : (refs3 f).set i (.ref n) = refs3 (updr f i n) := by
  match i, hi with
  | 0, _ => rfl
  | 1, _ => rfl
  | 2, _ => rfl
/-- the new line -/
abbrev heads4 : List Bs := [#[103], #[32], #[9, 13]]
theorem head_ok {b : Bs} (hb : b ∈ heads4) (u : UInt8) : Solid (b ++ #[u]) ∧ (b ++ #[u]).size ≤ 3 := by
  simp only [List.mem_cons, List.not_mem_nil, or_false] at hb
  rcases hb with rfl | rfl | rfl
  · exact ⟨(solid_of (c := 103) (r := []) (by decide) (by decide)).append _, by simp⟩
  · exact ⟨(solid_of (c := 32) (r := []) (by decide) (by decide)).append _, by simp⟩
  · exact ⟨(solid_of (c := 9) (r := [13]) (by decide) (by decide)).append _, by simp⟩
/-- all names that the rest of a turn reads -/
structure Nm (m m' : Str → Option Value) (x : Int) (here there how : Nat) : Prop where
  same : Same5 m m'
  x : ∃ t, m' "x" = some (.int x t)
  here : ∃ t, m' "here" = some (.int here t)
  there : ∃ t, m' "there" = some (.int there t)
  how : ∃ t, m' "how" = some (.int how t)
theorem Nm.upd {m m' : Str → Option Value} {x : Int} {here there how : Nat} {y : Str} {v : Value} (s : Nm m m' x here there how) (h1 : (y : Str) ≠ "rows" := by decide) (h2 : (y : Str) ≠ "queues" := by decide) (h3 : (y : Str) ≠ "sources" := by decide) (h4 : (y : Str) ≠ "kept" := by decide) (h5 : (y : Str) ≠ "dues" := by decide)
    (h6 : (y : Str) ≠ "x" := by decide) (h7 : (y : Str) ≠ "here" := by decide) (h8 : (y : Str) ≠ "there" := by decide) (h9 : (y : Str) ≠ "how" := by decide) : Nm m (Mine.upd m' y v) x here there how :=
  ⟨s.same.upd h1 h2 h3 h4 h5, let ⟨t, e⟩ := s.x; ⟨t, (upd_ne h6.symm).trans e⟩, let ⟨t, e⟩ := s.here; ⟨t, (upd_ne h7.symm).trans e⟩, let ⟨t, e⟩ := s.there; ⟨t, (upd_ne h8.symm).trans e⟩, let ⟨t, e⟩ := s.how; ⟨t, (upd_ne h9.symm).trans e⟩⟩
section
variable {w : World} {mg mb : Str → Option Value} {g0 : Heap} {A : Around} {h : Heap} {body : List Stmt} {scope : Scope} {fa : Addr} {cd : Value} {P : Flow → Heap → Prop}
variable {a : Ads} {X Y : List Addr} {hS h0 : Heap} {ρ : Addr → Nat} {ra : Nat → Addr} {rv : Nat → List Bs} {ks ds : List Value}
set_option maxHeartbeats 4000000 in
/-- here, there, how; maybe a new line -/
theorem step1 (hd : law4 = some (body, scope)) (c : Top4 w mg mb g0) (r : Room A 20) {m : Str → Option Value} {x : Int} {tk : Tok} {s : Nat} (hs : s ≤ 64) (inv : Inv4 s rv) (D : Dy a g0 X hS Y h0 h ρ ra rv rv ks ds) (hn : h.Ns a.L m)
    (hx : m "x" = some (.int x tk)) (hro : m "rows" = some (.ref a.R)) (hqu : m "queues" = some (.ref a.Q)) {rest : List Stmt}
    (hrest : (subs4 (nth4 body 5)).drop 2 = rest)
    (k : ∀ h' m' rv' here there how, here < 3 → there < 3 → how < 4 → h'.Ns a.L m' → Nm m m' x here there how → (∀ i, i < 3 → ∀ b ∈ rv' i, LineOk b) → tot wn rv' ≤ 7 + s → tot wb rv' ≤ 21 + 3 * s → tot wl rv' ≤ 10 + 2 * s → Dy a g0 X hS Y h0 h' ρ ra rv' rv' ks ds → h.objs.size ≤ h'.objs.size →
      Ev (model pg4 w) A (execs rest (envOf "law" scope a.L fa cd)) h' P) :
    Ev (model pg4 w) A (execs (subs4 (nth4 body 5)) (envOf "law" scope a.L fa cd)) h P := by
  obtain ⟨rfl, rfl⟩ := Prod.mk.inj (Option.some.inj (show some (_, _) = some (body, scope) from hd))
  subst hrest
  -- here, there, how = ..
  refine Ev.cons (Ev.assign3 r.handled (Ev.tuple (Ev.items_cons (Ev.binop (Ev.local hn hx (Ev.int fun t => Ev.mod_int (by decide) fun t1 => Ev.items_cons (Ev.binop (Ev.binop (Ev.local hn hx (Ev.int fun t => Ev.fdiv_int (by decide) (by decide) fun t => Ev.int fun t => Ev.mod_int (by decide) fun t2 => Ev.items_cons (Ev.binop (Ev.binop (Ev.local hn hx (Ev.int fun t => Ev.fdiv_int (by decide) (by decide) fun t => Ev.int fun t => Ev.mod_int (by decide) fun t3 => Ev.items_nil ⟨by simp, ?_⟩))))))))))))))
  have e1 : x.fmod 3 = ((x.fmod 3).toNat : Int) := (Int.toNat_of_nonneg (fmod_lo _ (by decide))).symm
  have e2 : (x.fdiv 3).fmod 3 = (((x.fdiv 3).fmod 3).toNat : Int) := (Int.toNat_of_nonneg (fmod_lo _ (by decide))).symm
  have e3 : (x.fdiv 9).fmod 4 = (((x.fdiv 9).fmod 4).toNat : Int) := (Int.toNat_of_nonneg (fmod_lo _ (by decide))).symm
  have l1 : (x.fmod 3).toNat < 3 := by have := fmod_hi x (n := 3) (by decide); omega
  have l2 : ((x.fdiv 3).fmod 3).toNat < 3 := by have := fmod_hi (x.fdiv 3) (n := 3) (by decide); omega
  have l3 : ((x.fdiv 9).fmod 4).toNat < 4 := by have := fmod_hi (x.fdiv 9) (n := 4) (by decide); omega
  generalize (x.fmod 3).toNat = here at e1 l1
  generalize ((x.fdiv 3).fmod 3).toNat = there at e2 l2
  generalize ((x.fdiv 9).fmod 4).toNat = how at e3 l3
  rw [e1, e2, e3]
  refine ⟨_, _, _, _, rfl, Heap.get?_push_size _ rfl, fun h2 k2 => ?_⟩
  have k02 : Keep [] h h2 := (Keep.push h _).trans k2
  refine Ev.store (k02.ns hn (by simp)) fun h3 hn3 k3 => Ev.store hn3 fun h4 hn4 k4 => Ev.store hn4 fun h5 hn5 k5 => ?_
  have D5 := (((D.keep0 k02).keepL k3).keepL k4).keepL k5
  have nm5 : Nm m (upd (upd (upd m "how" (.int how t3)) "there" (.int there t2)) "here" (.int here t1)) x here there how :=
    ⟨(((Same5.refl m).upd).upd).upd, ⟨tk, (upd_ne (by decide)).trans ((upd_ne (by decide)).trans ((upd_ne (by decide)).trans hx))⟩, ⟨t1, upd_same⟩, ⟨t2, (upd_ne (by decide)).trans upd_same⟩, ⟨t3, (upd_ne (by decide)).trans ((upd_ne (by decide)).trans upd_same)⟩⟩
  have z05 : h.objs.size ≤ h5.objs.size := ((((k02.nil (S := [a.L])).trans k3).trans k4).trans k5).size
  generalize upd (upd (upd m "how" (.int how t3)) "there" (.int there t2)) "here" (.int here t1) = m5 at hn5 nm5
  obtain ⟨tx, hx5⟩ := nm5.x
  -- if x // 36 % 3 == 1
  refine Ev.cons (Ev.ite (Ev.isTrue1 (Ev.binop (Ev.binop (Ev.local hn5 hx5 (Ev.int fun t => Ev.fdiv_int (by decide) (by decide) fun t => Ev.int fun t => Ev.mod_int (by decide) fun t => Ev.int fun t => Ev.eq_int ⟨_, rfl, ?_⟩))))))
  have i1 := inv.n; have i2 := inv.b; have i3 := inv.l
  by_cases q : ((x.fdiv 36).fmod 3 == 1) = true
  case neg =>
    rw [if_neg q]
    exact Ev.nil (k h5 m5 rv here there how l1 l2 l3 hn5 nm5 inv.ok (by omega) (by omega) (by omega) D5 z05)
  rw [if_pos q]
  have G5 := c.G.keeps D5.st
  -- line = ..
  refine Ev.cons (Ev.assign (Ev.binop (Ev.subscript (Ev.list (Ev.items_cons (Ev.bytes fun u1 => Ev.items_cons (Ev.bytes fun u2 => Ev.items_cons (Ev.bytes fun u3 => Ev.items_nil ⟨by simp, fun h6 q6 k6 z6 => ?_⟩))))))))
  have hn6 := k6.ns hn5 (by simp)
  have D6 := D5.keep0 k6
  refine Ev.binop (Ev.binop (Ev.local hn6 hx5 (Ev.int fun t => Ev.fdiv_int (by decide) (by decide) fun t => Ev.int fun t => Ev.mod_int (by decide) fun t => ?_)))
  have f0 : 0 ≤ (x.fdiv 108).fmod 3 := fmod_lo _ (by decide)
  have f1 : (x.fdiv 108).fmod 3 < 3 := fmod_hi _ (by decide)
  have hb6 : Bts [Value.bytes [103].toArray u1, Value.bytes [32].toArray u2, Value.bytes [9, 13].toArray u3] heads4 := .cons (.cons (.cons .nil))
  obtain ⟨b, tb, v1, v2⟩ := hb6.get ((x.fdiv 108).fmod 3).toNat (by simp; omega)
  refine ⟨.lst q6, Ev.getItem_list q6.isList f0 v1 (by simp) ?_⟩
  have G6 := c.G.keeps D6.st
  refine Ev.callN (Ev.builtin G6 rfl rfl (Ev.items_cons (Ev.list (Ev.items_cons (Ev.subscript (Ev.list (Ev.items_cons (Ev.int fun w1 => Ev.items_cons (Ev.binop (Ev.binop (Ev.local hn6 hx5 (Ev.int fun t => Ev.fdiv_int (by decide) (by decide) fun t => Ev.int fun t => Ev.mod_int (by decide) fun w2 => Ev.items_nil ⟨by simp, fun h7 q7 k7 z7 => ?_⟩))))))))))))
  have hn7 := k7.ns hn6 (by simp)
  refine Ev.binop (Ev.binop (Ev.local hn7 hx5 (Ev.int fun t => Ev.fdiv_int (by decide) (by decide) fun t => Ev.int fun t => Ev.mod_int (by decide) fun t => ?_)))
  have p0 : 0 ≤ (x.fdiv 324).fmod 2 := fmod_lo _ (by decide)
  have p1 : (x.fdiv 324).fmod 2 < 2 := fmod_hi _ (by decide)
  obtain ⟨n, tn, y1, y2, y3⟩ : ∃ n tn, [Value.int 10 w1, Value.int ((x.fdiv 648).fmod 256) w2][((x.fdiv 324).fmod 2).toNat]? = some (.int n tn) ∧ 0 ≤ n ∧ n < 256 := by
    have : ((x.fdiv 324).fmod 2).toNat < 2 := by omega
    match hq : ((x.fdiv 324).fmod 2).toNat, this with
    | 0, _ => exact ⟨10, w1, rfl, by decide, by decide⟩
    | 1, _ => exact ⟨_, w2, rfl, fmod_lo _ (by decide), fmod_hi _ (by decide)⟩
  refine ⟨.lst q7, Ev.getItem_list q7.isList p0 y1 (by simp) (Ev.items_nil ⟨by simp, fun h8 q8 k8 z8 => Ev.items_nil ⟨keeper_type, Ev.bytes1 r.handled q8 y2 y3 fun h9 tb9 k9 => ?_⟩⟩)⟩
  have bz : b.size ≤ 2 := by
    have hm : b ∈ heads4 := List.mem_of_getElem? v2
    simp only [List.mem_cons, List.not_mem_nil, or_false] at hm
    rcases hm with rfl | rfl | rfl <;> decide
  refine Ev.add_bytes (by simp; omega) fun tl => ?_
  have ok := head_ok (List.mem_of_getElem? v2) n.toNat.toUInt8
  generalize (b ++ #[n.toNat.toUInt8] : Bs) = line at ok
  have k69 : Keep [] h6 h9 := (k7.trans k8).trans k9
  have hn9 := k69.ns hn6 (by simp)
  have D9 := D6.keep0 k69
  refine Ev.store hn9 fun h10 hn10 k10 => ?_
  have D10 := D9.keepL k10
  have nm10 := nm5.upd (y := "line") (v := .bytes line tl)
  obtain ⟨th, ht10⟩ := nm10.there
  obtain ⟨qv, q10, b10⟩ := D10.hp.q there l2
  have ql10 := b10.length
  have tl10 := tot_ge (wt := wl) rv l2
  rw [mu_wl] at tl10
  -- queues[there].append(line)
  refine Ev.cons (Ev.expr (Ev.callM (hbase := ab_Sub) (Ev.subscript (Ev.local hn10 (nm10.same.queues.trans hqu) (Ev.local hn10 ht10 ⟨.lst D10.hp.Q.1, Ev.getItem_list D10.hp.Q.1.isList (by omega) (refs_get (i := ((there : Nat) : Int).toNat) (by simpa using l2)) (by simp) ?_⟩)))))
  rw [show a.qa ((there : Nat) : Int).toNat = a.qa there by simp]
  refine ⟨_, _, fun pl => getMethod_plain (fun g d tk os => q10.1.isList.typeIs) F.plainAttrs_list F.slot_list_append F.type_list_append
      (fun z e => by cases e; obtain ⟨n, q⟩ := q10.1; exact ⟨_, q, rfl⟩), Ev.items_cons (Ev.local hn10 upd_same (Ev.items_nil ⟨keeper_builtin, Ev.append q10.1 (by omega) fun h11 k11 q11 => ⟨rfl, ?_⟩⟩))⟩
  have D11 := D10.setQ l2 k11 q11 (b10.append (.one _ _))
  have hn11 := k11.ns hn10 (ni fun e => by have := q10.2; rw [← e, D10.hp.L] at this; omega)
  obtain ⟨rw11, r11, c11⟩ := D11.hp.r there l2
  have rl11 := c11.length
  -- rows[there].append(line)
  refine Ev.cons (Ev.expr (Ev.callM (hbase := ab_Sub) (Ev.subscript (Ev.local hn11 (nm10.same.rows.trans hro) (Ev.local hn11 ht10 ⟨.isList D11.hp.R.1, Ev.getItem_list D11.hp.R.1 (by omega) (refs_get (i := ((there : Nat) : Int).toNat) (by simpa using l2)) (by simp) ?_⟩)))))
  rw [show ra ((there : Nat) : Int).toNat = ra there by simp]
  refine ⟨_, _, fun pl => getMethod_plain (fun g d tk os => r11.1.isList.typeIs) F.plainAttrs_list F.slot_list_append F.type_list_append
      (fun z e => by cases e; obtain ⟨n, q⟩ := r11.1; exact ⟨_, q, rfl⟩), Ev.items_cons (Ev.local hn11 upd_same (Ev.items_nil ⟨keeper_builtin, Ev.append r11.1 (by omega) fun h12 k12 q12 => ⟨rfl, ?_⟩⟩))⟩
  have D12 := D11.setRow l2 k12 q12 (c11.append (.one _ _))
  have hn12 := k12.ns hn11 (ni fun e => by have := r11.2; rw [← e, D11.hp.L] at this; omega)
  have ad := inv.add l2 ok.1 ok.2
  have z12 : h.objs.size ≤ h12.objs.size := by
    have := k6.size; have := k69.size; have := k10.size; have := k11.size; have := k12.size
    omega
  exact Ev.nil (k h12 _ _ here there how l1 l2 l3 hn12 nm10 ad.1 ad.2.1 ad.2.2.1 ad.2.2.2 D12 z12)
end
end Mine

namespace Mine
theorem natlt4 {a b : Nat} (x : a < b) : a < b := x
theorem natle4 {a b : Nat} (x : a ≤ b) : a ≤ b := x
section
variable {w : World} {mg mb : Str → Option Value} {g0 : Heap} {A : Around} {h : Heap} {body : List Stmt} {scope : Scope} {fa : Addr} {cd : Value} {P : Flow → Heap → Prop}
variable {a : Ads} {X Y : List Addr} {hS h0 : Heap} {ρ : Addr → Nat} {ra : Nat → Addr} {rv : Nat → List Bs} {ks ds : List Value}
set_option maxHeartbeats 4000000 in
/-- the block that is due, and the one that is told -/
theorem step2 (hd : law4 = some (body, scope)) (c : Top4 w mg mb g0) (r : Room A 20) (stS : Stay g0 hS) (rd : ∀ i, i < 3 → ∀ h2, Keep X hS h2 → Reader4 h2 (a.xa i) (QSpec w g0 (a.qa i) h2)) (qlt : ∀ i, i < 3 → (a.qa i : Nat) < hS.objs.size)
    {m0 m : Str → Option Value} {x : Int} {s here there how : Nat} (hs : s ≤ 64) (l1 : here < 3) (ok : ∀ i, i < 3 → ∀ b ∈ rv i, LineOk b) (bn : tot wn rv ≤ 7 + s) (bb : tot wb rv ≤ 21 + 3 * s) (bl : tot wl rv ≤ 10 + 2 * s)
    (D : Dy a g0 X hS Y h0 h ρ ra rv rv ks ds) (hn : h.Ns a.L m) (nm : Nm m0 m x here there how) (hro : m0 "rows" = some (.ref a.R)) (hso : m0 "sources" = some (.ref a.S)) {rest : List Stmt}
    (hrest : (subs4 (nth4 body 5)).drop 7 = rest)
    (k : ∀ h' m' ρ' n T tv B bv, h'.Ns a.L m' → Nm m0 m' x here there how → Dy a g0 X hS Y h0 h' ρ' (updr ra here n) (updr rv here (blk (rv here)).2) (updr rv here (blk (rv here)).2) ks ds → h.objs.size ≤ n → m' "told" = some (.ref T) → m' "block" = some (.ref B) →
      Lr h' ρ' 13 T tv → Bts tv (blk (rv here)).1 → Lr h' ρ' 14 B bv → Bts bv (blk (rv here)).1 → h.objs.size ≤ T → h.objs.size ≤ h'.objs.size → Ev (model pg4 w) A (execs rest (envOf "law" scope a.L fa cd)) h' P) :
    Ev (model pg4 w) A (execs ((subs4 (nth4 body 5)).drop 2) (envOf "law" scope a.L fa cd)) h P := by
  have hd' := hd
  obtain ⟨rfl, rfl⟩ := Prod.mk.inj (Option.some.inj (show some (_, _) = some (body, scope) from hd))
  subst hrest
  have lL := ltN4 hn
  obtain ⟨rvv, lr, br⟩ := D.hp.r here l1
  obtain ⟨th, hh⟩ := nm.here
  have hrl := br.length
  have tl := tot_ge (wt := wl) rv l1
  have tb := tot_ge (wt := wb) rv l1
  have tn := tot_ge (wt := wn) rv l1
  rw [mu_wl] at tl
  have hsz : ∀ b ∈ rv here, b.size ≤ 65536 := fun b hb => by have : wb b ≤ _ := mu_mem hb; have e : wb b = b.size := rfl; omega
  have blen := blk_len (rv here)
  have lrl := lr.1.lt
  have lR := isList_lt D.hp.R.1
  -- row = rows[here]
  refine Ev.cons (Ev.assign (Ev.subscript (Ev.local hn (nm.same.rows.trans hro) (Ev.local hn hh ⟨.isList D.hp.R.1, Ev.getItem_list D.hp.R.1 (by omega) (refs_get (i := ((here : Nat) : Int).toNat) (by simpa using l1)) (by simp) ?_⟩))))
  rw [show ra ((here : Nat) : Int).toNat = ra here by simp]
  refine Ev.store hn fun h1 hn1 k1 => ?_
  have D1 := D.keepL k1
  have nm1 := nm.upd (y := "row") (v := .ref (ra here))
  have lr1 := lr.1.keep k1 (ni fun e => by have := lr.2; rw [e, D.hp.L] at this; omega)
  -- blanks = [..]
  refine Ev.cons (blanks4 hd' c r hn1 D1.st upd_same lr1 br (ok here l1) (by omega) hsz fun h2 Db ws k2 hn2 lDb q2 ns2 => ?_)
  have D2 := D1.keepL k2
  have nm2 := nm1.upd (y := "blanks") (v := .ref Db)
  have z1 := k1.size
  have z2 := k2.size
  have rL : ra here ≠ a.L := fun e => by have := lr.2; rw [e, D.hp.L] at this; omega
  have lr2 := lr1.keep k2 (ni rL)
  have hr2 : upd (upd m "row" (.ref (ra here))) "blanks" (.ref Db) "row" = some (.ref (ra here)) := (upd_ne (by decide)).trans upd_same
  -- block = ..
  refine Ev.cons (Ev.assign ((?blk : Ev (model pg4 w) A _ h2 fun v h3 => ∃ B bv, v = .ref B ∧ Keep [] h2 h3 ∧ h2.objs.size ≤ B ∧ Lst h3 B bv ∧ Bts bv (blk (rv here)).1).mono ?go))
  case blk =>
    refine Ev.ifexp (Ev.isTrue1 (Ev.local hn2 upd_same (Ev.list (Ev.items_nil ⟨by simp, fun h3 q3 k3 z3 => Ev.ne_nil (q2.keep k3 (by simp)) q3 (by have := r.line; omega) ⟨_, rfl, ?_⟩⟩))))
    have hn3 := k3.ns hn2 (by simp)
    have lr3 := lr2.keep k3 (by simp)
    rcases blk_spots (rv here) 0 with ⟨s1, s2, s3⟩ | ⟨j, js, s1, s2, s3, s4⟩
    · rw [s1] at ns2
      cases ns2
      rw [if_neg (by decide), s2]
      refine Ev.binop (Ev.local hn3 hr2 (Ev.list (Ev.items_cons (Ev.bytes fun tb => Ev.items_nil ⟨by simp, fun h4 q4 k4 z4 => Ev.add_list (lr3.keep k4 (by simp)) q4 (by simp; omega) fun h5 k5 q5 z5 => ⟨_, _, rfl, (k3.trans k4).trans k5, by omega, q5, br.append (.one _ _)⟩⟩))))
    · rw [s1] at ns2
      cases ns2 with
      | @cons nn tt us ms ns2 =>
        rw [if_pos (by rfl), s2]
        refine Ev.subscript (Ev.local hn3 hr2 (Ev.slice (Ev.part_none (Ev.part_some (Ev.binop (Ev.subscript (Ev.local hn3 upd_same (Ev.int fun t => ⟨.lst (q2.keep k3 (by simp)), Ev.getItem_list (q2.keep k3 (by simp)).isList (by decide) rfl (by have := ns2.length; have := spots_len (rv here) 0; rw [s1] at this; simp at this ⊢; omega) (Ev.int fun t => Ev.add_int fun tq => Ev.part_none fun h4 s4' k4 => ?_)⟩))))))))
        have lr4 := lr3.keep k4 (by simp)
        refine ⟨.lst lr4, Ev.getSlice (us := rvv.take (j + 1)) lr4.isList s4' .none (.int _ _) .none (by simp) (by omega) ?_ fun h5 q5 k5 z5 => ⟨_, _, rfl, (k3.trans k4).trans k5, by have := k4.size; omega, q5, br.take _⟩⟩
        rw [show (((0 + j : Nat) : Int) + 1) = ((j + 1 : Nat) : Int) by omega, slicePick_upto']
  case go =>
    rintro v h3 ⟨B, bv, rfl, k3, lB, q3, b3⟩
    refine Ev.store (k3.ns hn2 (by simp)) fun h4 hn4 k4 => ?_
    have ⟨D3, lB3⟩ := D2.newRole (n := B) (k := 14) k3 lB (Nat.ne_of_lt (Nat.lt_of_lt_of_le (ltN4 hn2) lB)) q3
    have D4 := D3.keepL k4
    have lB4 := lB3.keep k4 (one_ne (b := 0) D3.hp.L (by omega))
    have nm4 := nm2.upd (y := "block") (v := .ref B)
    have z3 := k3.size
    have z4 := k4.size
    have q4 := lB4.1
    have lr4 := (lr2.keep k3 (by simp)).keep k4 (ni rL)
    have hb3 := b3.length
    have G4 := c.G.keeps D4.st
    have hr4 : upd (upd (upd m "row" (.ref (ra here))) "blanks" (.ref Db)) "block" (.ref B) "row" = some (.ref (ra here)) := (upd_ne (by decide)).trans hr2
    obtain ⟨th4, hh4⟩ := nm4.here
    -- rows[here] = row[len(block):]
    refine Ev.cons (Ev.assignSub (Ev.subscript (Ev.local hn4 hr4 (Ev.slice (Ev.part_some (Ev.callN (Ev.builtin G4 rfl rfl (Ev.items_cons (Ev.local hn4 upd_same (Ev.items_nil ⟨keeper_builtin, Ev.len_list q4 (by omega) fun t => Ev.part_none (Ev.part_none fun h5 s5 k5 => ?_)⟩))))))))))
    have lr5 := lr4.keep k5 (by simp)
    refine ⟨.lst lr5, Ev.getSlice (us := rvv.drop bv.length) lr5.isList s5 (.int _ _) .none .none (by simp) (by omega) (by rw [slicePick_from']) fun h6 q6 k6 z6 => ?_⟩
    have z5 := k5.size
    have D5 := D4.keep0 k5
    have lB5 := lB4.keep k5 (fun _ q => nomatch q)
    have ⟨D6, lr6⟩ := D5.newRole (n := h5.objs.size) (k := 8 + here) k6 (Nat.le_refl _) (Nat.ne_of_lt (by omega)) q6
    have lB6 := (lB5.role (n := h5.objs.size) (k' := 8 + here) (Nat.le_refl _)).keep k6 (fun _ q => nomatch q)
    have hn6 := k6.ns (k5.ns hn4 (by simp)) (by simp)
    refine Ev.local hn6 (nm4.same.rows.trans hro) (Ev.local hn6 hh4 (Ev.setItem_list D6.hp.R.1 (by omega) (by simp; omega) (by simp) fun h7 k7 q7 => ?_))
    rw [show ((here : Nat) : Int).toNat = here by simp, refs_set l1] at q7
    have hb6 : Bts (rvv.drop bv.length) (blk (rv here)).2 := by rw [blk_rest, ← hb3]; exact br.drop _
    have zS := D4.b1.kp.size
    have z0 := D4.b2.kp.size
    have D7 := D6.setR l1 k7 q7 lr6 hb6 (by omega) (by omega) (D5.st.none (Nat.le_refl _))
    have LR : a.L ≠ a.R := fun e => by have := D.hp.R.2; rw [← e, D.hp.L] at this; omega
    have hn7 := k7.ns hn6 (ni LR)
    have lB7 := lB6.keep k7 (one_ne (b := 0) D6.hp.R.2 (by omega))
    have G7 := c.G.keeps D7.st
    have ho := G7.X 21 _ rfl
    have z7 := k7.size
    obtain ⟨qv, lq, bq⟩ := D7.hp.q here l1
    have sr := queue_src c stS (qlt here l1) (D7.b1.q here l1) (D7.of.q here l1) (rd here l1)
    have tk := blk_take (rv here) hsz
    have sq : Sq g0 X hS (a.qa here) (rv here) h7 := ⟨D7.b1.kp, D7.st, by omega, qv, lq.1, bq⟩
    -- told = _read_headers(sources[here])
    refine Ev.cons (Ev.assign (Ev.callN (Ev.global G7 rfl (Ev.items_cons (Ev.subscript (Ev.local hn7 (nm4.same.sources.trans hso) (Ev.local hn7 hh4 ⟨.lst D7.hp.S.1, Ev.getItem_list D7.hp.S.1.isList (by omega) (refs_get (i := ((here : Nat) : Int).toNat) (by simpa using l1)) (by simp) (Ev.items_nil ⟨keeper_fn ho rfl, ?_⟩)⟩)))))))
    rw [show a.xa ((here : Nat) : Int).toNat = a.xa here by simp]
    refine Ev.call ((read_headers4 sr tk (by omega) sq (r.less (by omega))).mono ?_)
    rintro v h8 ⟨T, tv, rfl, lT, q8, b8, k8, s8⟩
    obtain ⟨_, _, _, qv8, lq8, bq8⟩ := s8
    have D7' := D7.role (n := T) (k := 13) lT (Nat.ne_of_lt (Nat.lt_of_lt_of_le (ltN4 hn7) lT))
    have lB7' := lB7.role (k' := 13) lT
    have D8 := D7'.setQ l1 k8 lq8 bq8
    obtain ⟨_, lq7', _⟩ := D7'.hp.q here l1
    have lB8 := lB7'.keep k8 (one_ne (b := 0) lq7'.2 (by omega))
    have lT8 : Lr h8 (updρ (updρ (updρ ρ B 14) h5.objs.size (8 + here)) T 13) 13 T tv := ⟨q8, if_pos rfl⟩
    have qL : a.L ≠ a.qa here := fun e => by have := lq.2; rw [← e, D7.hp.L] at this; omega
    have z8 := k8.size
    have hn8 := k8.ns hn7 (ni qL)
    refine Ev.store hn8 fun h9 hn9 k9 => ?_
    have z9 := k9.size
    have D9 := D8.keepL k9
    have nm9 := nm4.upd (y := "told") (v := .ref T)
    exact k h9 _ _ h5.objs.size T tv B bv hn9 nm9 D9 (by omega) upd_same ((upd_ne (by decide)).trans upd_same) (lT8.keep k9 (one_ne (b := 0) D8.hp.L (by omega))) b8 (lB8.keep k9 (one_ne (b := 0) D8.hp.L (by omega))) b3 (Nat.le_trans (by omega : h.objs.size ≤ h7.objs.size) lT) (by omega)
end
end Mine

namespace Mine
section
variable {a : Ads} {g0 h h' : Heap} {ρ : Addr → Nat} {ra : Nat → Addr} {rq rr : Nat → List Bs} {ks ds : List Value} {X Y : List Addr} {hS h0 : Heap}
theorem rerole {ρ : Addr → Nat} {n k k' : Nat} {b : Addr} (e : ρ n = 13) (x : ρ b = k) (ne : k ≠ 13) : updρ ρ n k' b = k := (if_neg fun (q : b = n) => ne (x.symm.trans (by rw [q]; exact e))).trans x
theorem Told.rerole {n k : Nat} (x : Told h ρ ks ds) (e : ρ n = 13) : Told h (updρ ρ n k) ks ds := by
  induction x with
  | nil => exact .nil
  | cons a b c d _ ih => exact .cons ⟨a.1, Mine.rerole e a.2 (by decide)⟩ ⟨b.1, Mine.rerole e b.2 (by decide)⟩ c d ih
theorem Hp.rerole {n k : Nat} (x : Hp a h ρ ra rq rr ks ds) (e : ρ n = 13) : Hp a h (updρ ρ n k) ra rq rr ks ds :=
  ⟨Mine.rerole e x.L (by decide), ⟨x.R.1, Mine.rerole e x.R.2 (by decide)⟩, ⟨x.Q.1, Mine.rerole e x.Q.2 (by decide)⟩, ⟨x.S.1, Mine.rerole e x.S.2 (by decide)⟩, ⟨x.K.1, Mine.rerole e x.K.2 (by decide)⟩, ⟨x.D.1, Mine.rerole e x.D.2 (by decide)⟩,
    fun i hi => let ⟨vs, p, q⟩ := x.q i hi; ⟨vs, ⟨p.1, Mine.rerole e p.2 (by omega)⟩, q⟩, fun i hi => let ⟨vs, p, q⟩ := x.r i hi; ⟨vs, ⟨p.1, Mine.rerole e p.2 (by omega)⟩, q⟩, x.T.rerole e⟩
/-- a pair is laid down, the due one made on the way -/
theorem Dy.setKD' (x : Dy a g0 X hS Y h0 h ρ ra rq rr ks ds) {h7 h8 h9 : Heap} {T E : Nat} {tv ev : List Value} {bk : List Bs} {n : Int} {t u : Tok} (kK : Keep [a.K] h h7) (kE : Keep [] h7 h8) (kD : Keep [a.D] h8 h9) (lE : h7.objs.size ≤ E) (hL : a.L ≠ E)
    (qK : Lst h7 a.K (ks ++ [.ref T])) (qD : Lst h9 a.D (ds ++ [.ref E])) (qE : Lst h8 E (ev ++ [.int n u])) (lT : Lr h ρ 11 T (tv ++ [.int n t])) (bT : Bts tv bk) (bE : Bts ev bk) : Dy a g0 X hS Y h0 h9 (updρ ρ E 12) ra rq rr (ks ++ [.ref T]) (ds ++ [.ref E]) := by
  have hE : h.objs.size ≤ E := Nat.le_trans kK.size lE
  have y := x.hp.role (n := E) (k := 12) hE hL
  have lT' := lT.role (n := E) (k' := 12) hE
  have eK := y.K.2
  have eD := y.D.2
  have f : ∀ {k : Nat} {b : Addr} {vs : List Value}, Lr h (updρ ρ E 12) k b vs → k ≠ 3 → k ≠ 4 → Lr h9 (updρ ρ E 12) k b vs := fun l n1 n2 => ((l.keep kK (one_ne (b := 0) eK n1.symm)).keep kE (fun _ q => nomatch q)).keep kD (one_ne (b := 0) eD n2.symm)
  have fR : Ir h9 (updρ ρ E 12) 0 a.R (refs3 ra) := ((y.R.keep kK (one_ne (b := 0) eK (by omega))).keep kE (fun _ q => nomatch q)).keep kD (one_ne (b := 0) eD (by omega))
  have lK' : Lr h7 (updρ ρ E 12) 3 a.K (ks ++ [.ref T]) := ⟨qK, eK⟩
  have lE' : Lr h8 (updρ ρ E 12) 12 E (ev ++ [.int n u]) := ⟨qE, if_pos rfl⟩
  refine ⟨⟨y.L, fR, f y.Q (by omega) (by omega), f y.S (by omega) (by omega), (lK'.keep kE (fun _ q => nomatch q)).keep kD (one_ne (b := 0) eD (by omega)), ⟨qD, eD⟩,
    fun i hi => let ⟨vs, p, q⟩ := y.q i hi; ⟨vs, f p (by omega) (by omega), q⟩, fun i hi => let ⟨vs, p, q⟩ := y.r i hi; ⟨vs, f p (by omega) (by omega), q⟩, ?_⟩, ?_, ?_, x.of, ((x.st.keep kK (all1 x.of.K)).keep' kE).keep kD (all1 x.of.D)⟩
  · exact (((y.T.keep kK (one_told eK (by omega) (by omega))).keep kE (fun _ q => nomatch q)).keep kD (one_told eD (by omega) (by omega))).append (.cons (f lT' (by omega) (by omega)) (lE'.keep kD (one_ne (b := 0) eD (by omega))) bT bE .nil)
  · exact ((x.b1.go kK x.b1.K).goN kE (fun _ q => nomatch q)).go kD x.b1.D
  · exact ((x.b2.go kK x.b2.K).goN kE (fun _ q => nomatch q)).go kD x.b2.D
/-- the list that was told turns -/
theorem Dy.turnT {T : Addr} (x : Dy a g0 X hS Y h0 h ρ ra rq rr ks ds) (kp : Keep [T] h h') (e : ρ T = 13) (l1 : hS.objs.size ≤ T) (l2 : h0.objs.size ≤ T) (gT : g0.get? T = none) : Dy a g0 X hS Y h0 h' ρ ra rq rr ks ds := by
  have f : ∀ k, k ≠ 13 → ∀ b ∈ [T], ρ b ≠ k ∨ h.objs.size ≤ b := fun k hk => one_ne (b := 0) e hk.symm
  exact ⟨⟨x.hp.L, x.hp.R.keep kp (f _ (by decide)), x.hp.Q.keep kp (f _ (by decide)), x.hp.S.keep kp (f _ (by decide)), x.hp.K.keep kp (f _ (by decide)), x.hp.D.keep kp (f _ (by decide)),
    fun i hi => let ⟨vs, p, q⟩ := x.hp.q i hi; ⟨vs, p.keep kp (f _ (by omega)), q⟩, fun i hi => let ⟨vs, p, q⟩ := x.hp.r i hi; ⟨vs, p.keep kp (f _ (by omega)), q⟩, x.hp.T.keep kp (one_told e (by omega) (by omega))⟩,
    x.b1.go kp (.inr l1), x.b2.go kp (.inr l2), x.of, x.st.keep kp (all1 gT)⟩
end
section
variable {w : World} {mg mb : Str → Option Value} {g0 : Heap} {A : Around} {h : Heap} {body : List Stmt} {scope : Scope} {fa : Addr} {cd : Value} {P : Flow → Heap → Prop}
variable {a : Ads} {X Y : List Addr} {hS h0 : Heap} {ρ : Addr → Nat} {ra : Nat → Addr} {rv : Nat → List Bs} {ks ds : List Value}
set_option maxHeartbeats 4000000 in
/-- the block is moved, told and due are laid down -/
theorem step3 (hd : law4 = some (body, scope)) (c : Top4 w mg mb g0) (r : Room A 20) {m0 m : Str → Option Value} {x : Int} {here there how : Nat} (l2 : there < 3) (l3 : how < 4) {T B : Addr} {tv bv : List Value} {bk : List Bs} (hbk : bk.length ≤ 100) (hcat : (cat bk).size ≤ 65536)
    (hrv : (rv there).length ≤ 400) (D : Dy a g0 X hS Y h0 h ρ ra rv rv ks ds) (hn : h.Ns a.L m) (nm : Nm m0 m x here there how) (hro : m0 "rows" = some (.ref a.R)) (hqu : m0 "queues" = some (.ref a.Q)) (hke : m0 "kept" = some (.ref a.K)) (hdu : m0 "dues" = some (.ref a.D))
    (hto : m "told" = some (.ref T)) (hbl : m "block" = some (.ref B)) (lT : Lr h ρ 13 T tv) (bT : Bts tv bk) (lB : Lr h ρ 14 B bv) (bB : Bts bv bk) (T1 : hS.objs.size ≤ T) (T2 : h0.objs.size ≤ T) (gT : g0.get? T = none) (hks : ks.length ≤ 400) (hds : ds.length ≤ 400)
    (k : ∀ h' m' ρ' n v u, h'.Ns a.L m' → Same5 m0 m' → Dy a g0 X hS Y h0 h' ρ' (updr ra there n) (updr rv there (rv there ++ mv how bk)) (updr rv there (rv there ++ mv how bk)) (ks ++ [v]) (ds ++ [u]) → h.objs.size ≤ n → h.objs.size ≤ h'.objs.size → P .next h') :
    Ev (model pg4 w) A (execs ((subs4 (nth4 body 5)).drop 7) (envOf "law" scope a.L fa cd)) h P := by
  obtain ⟨rfl, rfl⟩ := Prod.mk.inj (Option.some.inj (show some (_, _) = some (body, scope) from hd))
  have hlT := bT.length
  have hlB := bB.length
  have hul := r.line
  -- if told != block
  refine Ev.cons (Ev.ite (Ev.isTrue1 (Ev.local hn hto (Ev.local hn hbl (Ev.ne_lists lT.1 lB.1 bT bB (by omega) rfl ⟨_, rfl, ?_⟩)))))
  rw [if_neg (by decide)]
  refine Ev.nil ?_
  obtain ⟨tt, hth⟩ := nm.there
  obtain ⟨tw, hho⟩ := nm.how
  obtain ⟨tx, hx⟩ := nm.x
  obtain ⟨qv, lq, bq⟩ := D.hp.q there l2
  have hlq := bq.length
  have G := c.G.keeps D.st
  have ho := G.X 67 _ rfl
  have mvl : (mv how bk).length ≤ 101 := by
    match how, l3 with
    | 0, _ => show bk.length ≤ 101; omega
    | 1, _ => show (bk.take _).length ≤ 101; simp; omega
    | 2, _ => show bk.reverse.length ≤ 101; simp; omega
    | 3, _ => show [cat bk].length ≤ 101; simp
  -- queues[there].extend(_law_moved(told, how))
  refine Ev.cons (Ev.expr (Ev.callM (hbase := ab_Sub) (Ev.subscript (Ev.local hn (nm.same.queues.trans hqu) (Ev.local hn hth ⟨.lst D.hp.Q.1, Ev.getItem_list D.hp.Q.1.isList (by omega) (refs_get (i := ((there : Nat) : Int).toNat) (by simpa using l2)) (by simp) ?_⟩)))))
  rw [show a.qa ((there : Nat) : Int).toNat = a.qa there by simp]
  refine ⟨_, _, fun pl => getMethod_plain (fun g d tk os => lq.1.isList.typeIs) F.plainAttrs_list F.slot_list_extend F.type_list_extend (fun z e => by cases e; obtain ⟨n, q⟩ := lq.1; exact ⟨_, q, rfl⟩),
    Ev.items_cons (Ev.callN (Ev.global G rfl (Ev.items_cons (Ev.local hn hto (Ev.items_cons (Ev.local hn hho (Ev.items_nil ⟨keeper_fn ho rfl, Ev.call ((moved4 c D.st lT.1 bT (by omega) (by omega) l3 (r.less (by omega))).mono ?_)⟩)))))))⟩
  rintro v h1 ⟨n1, us1, rfl, k1, ln1, q1, b1⟩
  have hl1 := b1.length
  refine Ev.items_nil ⟨keeper_builtin, Ev.extend (lq.1.keep k1 (by simp)) q1 (by omega) fun h2 k2 q2 => ⟨rfl, ?_⟩⟩
  have D1 := D.keep0 k1
  have D2 := D1.setQ l2 k2 q2 (bq.append b1)
  have qL : a.L ≠ a.qa there := fun e => by have := lq.2; rw [← e, D.hp.L] at this; omega
  have hn2 := k2.ns (k1.ns hn (by simp)) (ni qL)
  have lT2 := (lT.keep k1 (fun _ q => nomatch q)).keep k2 (one_ne (b := 0) lq.2 (by omega))
  have lB2 := (lB.keep k1 (fun _ q => nomatch q)).keep k2 (one_ne (b := 0) lq.2 (by omega))
  obtain ⟨rw2, lr2, br2⟩ := D2.hp.r there l2
  have hlr := br2.length
  have G2 := c.G.keeps D2.st
  have ho2 := G2.X 67 _ rfl
  -- rows[there] = rows[there] + _law_moved(block, how)
  refine Ev.cons (Ev.assignSub (Ev.binop (Ev.subscript (Ev.local hn2 (nm.same.rows.trans hro) (Ev.local hn2 hth ⟨.isList D2.hp.R.1, Ev.getItem_list D2.hp.R.1 (by omega) (refs_get (i := ((there : Nat) : Int).toNat) (by simpa using l2)) (by simp) ?_⟩)))))
  rw [show ra ((there : Nat) : Int).toNat = ra there by simp]
  refine Ev.callN (Ev.global G2 rfl (Ev.items_cons (Ev.local hn2 hbl (Ev.items_cons (Ev.local hn2 hho (Ev.items_nil ⟨keeper_fn ho2 rfl, Ev.call ((moved4 c D2.st lB2.1 bB (by omega) (by omega) l3 (r.less (by omega))).mono ?_)⟩))))))
  rintro v h3 ⟨n3, us3, rfl, k3, ln3, q3, b3⟩
  have hl3 := b3.length
  refine Ev.add_list (lr2.1.keep k3 (by simp)) q3 (by omega) fun h4 k4 q4 z4 => ?_
  have D3 := D2.keep0 k3
  have z1 := k1.size; have z2 := k2.size; have z3 := k3.size
  have lL := ltN4 hn
  have ⟨D4, ln4⟩ := D3.newRole (n := h3.objs.size) (k := 8 + there) k4 (Nat.le_refl _) (Nat.ne_of_lt (by omega)) q4
  have lT4 := ((lT2.keep k3 (fun _ q => nomatch q)).role (n := h3.objs.size) (k' := 8 + there) (Nat.le_refl _)).keep k4 (fun _ q => nomatch q)
  have lB4 := ((lB2.keep k3 (fun _ q => nomatch q)).role (n := h3.objs.size) (k' := 8 + there) (Nat.le_refl _)).keep k4 (fun _ q => nomatch q)
  have hn4 := k4.ns (k3.ns hn2 (by simp)) (by simp)
  refine Ev.local hn4 (nm.same.rows.trans hro) (Ev.local hn4 hth (Ev.setItem_list D4.hp.R.1 (by omega) (by simp; omega) (by simp) fun h5 k5 q5 => ?_))
  rw [show ((there : Nat) : Int).toNat = there by simp, refs_set l2] at q5
  have zS := D3.b1.kp.size
  have z0 := D3.b2.kp.size
  have D5 := D4.setR l2 k5 q5 ln4 (br2.append b3) zS z0 (D3.st.none (Nat.le_refl _))
  have LR : a.L ≠ a.R := fun e => by have := D.hp.R.2; rw [← e, D.hp.L] at this; omega
  have hn5 := k5.ns hn4 (ni LR)
  have lT5 := lT4.keep k5 (one_ne (b := 0) D4.hp.R.2 (by omega))
  have lB5 := lB4.keep k5 (one_ne (b := 0) D4.hp.R.2 (by omega))
  -- if queues != rows
  have al : ∀ g d tk os, Alike A.in1 ⟨h5, g, d, tk, os⟩ (refs3 a.qa) (refs3 (updr ra there h3.objs.size)) := fun g d tk os => by
    have one : ∀ i, i < 3 → SeqAt.EqAt A.in1 ⟨h5, g, d, tk, os⟩ (.ref (a.qa i)) (.ref (updr ra there h3.objs.size i)) true := fun i hi => by
      obtain ⟨vs, p, q⟩ := D5.hp.q i hi
      obtain ⟨us, p', q'⟩ := D5.hp.r i hi
      exact eqAt_lists (p.apart p' (by omega)) p.1 p'.1 (by show A.units + 1 < cLine; omega) (alike_bts q q')
    exact .cons (one 0 (by omega)) (.cons (one 1 (by omega)) (.cons (one 2 (by omega)) .nil))
  refine Ev.cons (Ev.ite (Ev.isTrue1 (Ev.local hn5 (nm.same.queues.trans hqu) (Ev.local hn5 (nm.same.rows.trans hro) (Ev.ne_alike D5.hp.Q.1 D5.hp.R.1 (by omega) al ⟨_, rfl, ?_⟩)))))
  rw [if_neg (by decide)]
  refine Ev.nil ?_
  -- told.append(x % 97)
  refine Ev.cons (Ev.expr (Ev.callM (Ev.local hn5 hto ⟨_, _, fun pl => getMethod_plain (fun g d tk os => lT5.1.isList.typeIs) F.plainAttrs_list F.slot_list_append F.type_list_append (fun z e => by cases e; obtain ⟨n, q⟩ := lT5.1; exact ⟨_, q, rfl⟩),
    Ev.items_cons (Ev.binop (Ev.local hn5 hx (Ev.int fun t => Ev.mod_int (by decide) fun t6 => Ev.items_nil ⟨keeper_builtin, Ev.append lT5.1 (by omega) fun h6 k6 q6 => ⟨rfl, ?_⟩⟩)))⟩)))
  have D6 := D5.turnT k6 lT5.2 T1 T2 gT
  have TL : a.L ≠ T := fun e => by have := lT5.2; rw [← e, D5.hp.L] at this; omega
  have hn6 := k6.ns hn5 (ni TL)
  have lB6 := lB5.keep k6 (one_ne (b := 0) lT5.2 (by omega))
  -- kept.append(told)
  refine Ev.cons (Ev.expr (Ev.callM (Ev.local hn6 (nm.same.kept.trans hke) ⟨_, _, fun pl => getMethod_plain (fun g d tk os => D6.hp.K.1.isList.typeIs) F.plainAttrs_list F.slot_list_append F.type_list_append (fun z e => by cases e; obtain ⟨n, q⟩ := D6.hp.K.1; exact ⟨_, q, rfl⟩),
    Ev.items_cons (Ev.local hn6 hto (Ev.items_nil ⟨keeper_builtin, Ev.append D6.hp.K.1 (by omega) fun h7 k7 q7 => ⟨rfl, ?_⟩⟩))⟩)))
  have KL : a.L ≠ a.K := fun e => by have := D6.hp.K.2; rw [← e, D6.hp.L] at this; omega
  have hn7 := k7.ns hn6 (ni KL)
  have lB7 := lB6.keep k7 (one_ne (b := 0) D6.hp.K.2 (by omega))
  have lD7 := D6.hp.D.keep k7 (one_ne (b := 0) D6.hp.K.2 (by omega))
  have D6' : Dy a g0 X hS Y h0 h6 _ _ _ _ ks ds := { D6 with hp := D6.hp.rerole (n := T) (k := 11) lT5.2 }
  -- dues.append(block + [x % 97])
  refine Ev.cons (Ev.expr (Ev.callM (Ev.local hn7 (nm.same.dues.trans hdu) ⟨_, _, fun pl => getMethod_plain (fun g d tk os => lD7.1.isList.typeIs) F.plainAttrs_list F.slot_list_append F.type_list_append (fun z e => by cases e; obtain ⟨n, q⟩ := lD7.1; exact ⟨_, q, rfl⟩),
    Ev.items_cons (Ev.binop (Ev.local hn7 hbl (Ev.list (Ev.items_cons (Ev.binop (Ev.local hn7 hx (Ev.int fun t => Ev.mod_int (by decide) fun t8 => Ev.items_nil ⟨by simp, fun h8 q8 k8 z8 => ?_⟩)))))))⟩)))
  refine Ev.add_list (lB7.1.keep k8 (by simp)) q8 (by simp; omega) fun h9 k9 q9 z9 => Ev.items_nil ⟨keeper_builtin, ?_⟩
  have k79 : Keep [] h7 h9 := k8.trans k9
  have lD9 := lD7.keep k79 (fun _ q => nomatch q)
  refine Ev.append lD9.1 (by omega) fun h10 k10 q10 => ⟨rfl, Ev.nil ?_⟩
  have z5 := k5.size; have z6 := k6.size; have z7 := k7.size; have z10 := k10.size
  have D10 := D6'.setKD' (T := T) (E := h8.objs.size) k7 k79 k10 (by omega) (Nat.ne_of_lt (by omega)) q7 q10 q9 ⟨q6, if_pos rfl⟩ bT bB
  have DL : a.L ≠ a.D := fun e => by have := D6.hp.D.2; rw [← e, D6.hp.L] at this; omega
  exact k h10 m _ h3.objs.size _ _ (k10.ns (k79.ns hn7 (by simp)) (ni DL)) nm.same D10 (by omega) (by omega)
end
end Mine

namespace Mine
section
variable {prog : Program} {w : World} {A : Around} {h : Heap} {env : Env}
theorem Ev.iter_list {l : Addr} {vs : List Value} {P : Value → Heap → Prop} (hl : h.IsList l vs.toArray) (k : ∀ h', h'.IsListIter h.objs.size l 0 → Keep [] h h' → h'.objs.size = h.objs.size + 1 → P (.ref h.objs.size) h') : Ev (model prog w) A (pyIter (.ref l)) h P :=
  fun g d tk os => wpAny_pyIter_list (s := ⟨h, g, d, tk, os⟩) hl ⟨_, tk, rfl, k _ ⟨_, Heap.get?_push_size _ rfl, rfl, rfl⟩ (.push _ _) (Heap.size_push ..)⟩
theorem Ev.iter_self {it l : Addr} {i : Nat} {P : Value → Heap → Prop} (hi : h.IsListIter it l i) (k : P (.ref it) h) : Ev (model prog w) A (pyIter (.ref it)) h P :=
  fun g d tk os => wpAny_pyIter_listiter (s := ⟨h, g, d, tk, os⟩) hi ⟨h, tk, rfl, k⟩
theorem Ev.next_item {it l : Addr} {i : Nat} {vs : List Value} {v : Value} {P : Option Value → Heap → Prop} (hi : h.IsListIter it l i) (hl : h.IsList l vs.toArray) (hv : vs[i]? = some v) (k : ∀ h', h'.IsListIter it l (i + 1) → Keep [it] h h' → P (some v) h') : Ev (model prog w) A (pyNext (.ref it)) h P :=
  fun g d tk os => wpAny_pyNext_list_item (s := ⟨h, g, d, tk, os⟩) hi hl (by simpa using hv) fun h' r1 r2 => ⟨h', tk, rfl, k h' r1 (.of_sameBut r2)⟩
theorem Ev.next_end {it l : Addr} {i : Nat} {vs : List Value} {P : Option Value → Heap → Prop} (hh : A.handled = none) (hi : h.IsListIter it l i) (hl : h.IsList l vs.toArray) (hv : vs.length ≤ i) (k : ∀ h', Keep [it] h h' → P none h') : Ev (model prog w) A (pyNext (.ref it)) h P :=
  Ev.keeping (S := [it]) fun g d tk os => wpAny_pyNext_list_end (s := ⟨h, g, d, tk, os⟩) hh hi hl (by simpa using hv) fun h' r => ⟨h', tk, rfl, fun a o n e => r a o (fun z => n (by rw [z]; exact .head _)) e, fun kk => k h' kk⟩
theorem Ev.assignName {x : Str} {p : Pos} {v : Value} {P : Unit → Heap → Prop} (k : Ev (model prog w) A (storeName env x v) h P) : Ev (model prog w) A (PySem.assign (.Name x p) env v) h P := fun g d tk os => wpAny_assign_Name (k g d tk os)
end
theorem iter_keep {S : List Addr} {h h' : Heap} {it l : Addr} {i : Nat} (x : h.IsListIter it l i) (k : Keep S h h') (n : it ∉ S) : h'.IsListIter it l i := let ⟨o, ho, r⟩ := x; ⟨o, k.get _ _ n ho, r⟩
theorem Plain.iter {h : Heap} {it l : Addr} {i : Nat} (x : h.IsListIter it l i) : Plain h it := by
  obtain ⟨o, e, c, d⟩ := x
  exact ⟨o, e, fun vs q t d' => by rw [d] at d'; cases d'; simp⟩
theorem rows0_len {i : Nat} (hi : i < 3) : (rows0 i).length ≤ 1000 := by
  match i, hi with
  | 0, _ => decide
  | 1, _ => decide
  | 2, _ => decide
theorem map_range_add {f : Nat → Addr} {i n : Nat} : ((List.range i).map fun j => Value.ref (f j)) ++ [.ref n] = (List.range (i + 1)).map fun j => Value.ref (updr f i n j) := by
  rw [List.range_succ, List.map_append]
  congr 1
  · apply List.map_congr_left
    intro j hj
    have : j < i := List.mem_range.mp hj
    rw [updr_ne (by omega)]
  · simp [updr_same]
section
variable {w : World} {mg mb : Str → Option Value} {g0 : Heap} {A : Around} {h : Heap} {body : List Stmt} {scope : Scope} {L fa : Addr} {cd : Value} {P : Flow → Heap → Prop}
set_option maxHeartbeats 1000000 in
/-- the queues are copied -/
theorem queues4 (hd : law4 = some (body, scope)) (c : Top4 w mg mb g0) (r : Room A 20) {m : Str → Option Value} {R : Nat} {ra : Nat → Addr} (hn : h.Ns L m) (hro : m "rows" = some (.ref R)) (lR : Lst h R (refs3 ra)) (hr : ∀ i, i < 3 → ∃ vs, Lst h (ra i) vs ∧ Bts vs (rows0 i))
    (k : ∀ h' (Q : Nat) (qa : Nat → Nat), Keep [L] h h' → h'.Ns L (upd m "queues" (.ref Q)) → Lst h' Q (refs3 qa) → h.objs.size ≤ Q → Q < qa 0 → qa 0 < qa 1 → qa 1 < qa 2 → (∀ i, i < 3 → ∃ vs, Lst h' (qa i) vs ∧ Bts vs (rows0 i)) → P .next h') :
    Ev (model pg4 w) A (exec (nth4 body 1) (envOf "law" scope L fa cd)) h P := by
  obtain ⟨rfl, rfl⟩ := Prod.mk.inj (Option.some.inj (show some (_, _) = some (body, scope) from hd))
  have lL := ltN4 hn
  have ltR := lR.lt
  refine Ev.assignComp (by decide) (by decide) rfl (by decide) rfl ?_
  refine Ev.local hn hro (Ev.iter_list lR.isList fun h1 i1 k1 z1 h3 k3 q3 hn3 z3 => ?_)
  refine ⟨h.objs.size, 3, fun i h' => ∃ (qa : Nat → Nat) (m' : Str → Option Value), h'.Ns (h1.objs.size + 1) m' ∧ Lst h' h1.objs.size ((List.range i).map fun j => .ref (qa j)) ∧ h'.IsListIter h.objs.size R i ∧ Keep [] h h' ∧ h1.objs.size + 2 ≤ h'.objs.size ∧
      (∀ j, j < i → (∃ vs, Lst h' (qa j) vs ∧ Bts vs (rows0 j)) ∧ h1.objs.size + 1 < qa j) ∧ (∀ j, j + 1 < i → qa j < qa (j + 1)), rfl, ?_, ?_, ?_, ?_⟩
  · exact ⟨fun _ => 0, _, hn3, q3, iter_keep i1 k3 (by simp), k1.trans k3, by omega, fun j hj => by omega, fun j hj => by omega⟩
  · exact Ev.iter_self (iter_keep i1 k3 (by simp)) ⟨rfl, rfl⟩
  · rintro i h4 hi ⟨qa, m', a1, a2, a3, a4, a5, a6, a7⟩
    have lR4 := lR.keep a4 (by simp)
    refine Ev.next_item a3 lR4.isList (refs_get hi) fun h5 i5 k5 => ⟨_, rfl, Ev.of_eq (a := ()) rfl ?_⟩
    have a1' := k5.ns a1 (ni (by omega))
    refine Ev.assignName (Ev.store a1' fun h6 n6 k6 => Ev.tests_nil ?_)
    rw [if_pos rfl]
    obtain ⟨vs, lr, br⟩ := hr i hi
    have k46 : Keep [h.objs.size, h1.objs.size + 1] h4 h6 := (k5.mono (by simp)).trans (k6.mono (by simp))
    have kk6 : Keep [] h h6 := a4.then k46 (all2 (.inr (Nat.le_refl _)) (.inr (by omega)))
    have z46 := k46.size
    have lr6 := lr.keep kk6 (by simp)
    have hlr := br.length
    have hlen : vs.length ≤ 1000 := hlr ▸ rows0_len hi
    refine Ev.subscript (Ev.local n6 upd_same (Ev.slice (Ev.part_none (Ev.part_none (Ev.part_none fun h7 s7 k7 => ?_)))))
    have lr7 := lr6.keep k7 (by simp)
    refine ⟨.lst lr7, Ev.getSlice lr7.isList s7 .none .none .none (by simp) (by omega) (slicePick_all _) fun h8 q8 k8 z8 => ?_⟩
    have k48 : Keep [h.objs.size, h1.objs.size + 1] h4 h8 := (k46.trans k7.nil).trans k8.nil
    have a2' := a2.keep k48 (ni2 (by omega) (by omega))
    refine Ev.append a2' (by simp; omega) fun h9 k9 q9 => ?_
    have k49 : Keep [h.objs.size, h1.objs.size + 1, h1.objs.size] h4 h9 := (k48.mono (by simp)).trans (k9.mono (by simp))
    have z7 := k7.size
    have z9 := k9.size
    have k69 : Keep [h1.objs.size] h6 h9 := (k7.nil.trans k8.nil).trans k9
    refine ⟨updr qa i h7.objs.size, _, k69.ns n6 (ni (by omega)), ?_, iter_keep (iter_keep i5 k6 (ni (by omega))) k69 (ni (by omega)), kk6.then k69 (all1 (.inr (by omega))), by omega, ?_, ?_⟩
    · rw [map_range_add] at q9; exact q9
    · intro j hj
      by_cases q : j = i
      · subst q
        rw [updr_same]
        exact ⟨⟨vs, q8.keep k9 (ni (by omega)), br⟩, by omega⟩
      · obtain ⟨⟨us, l, b⟩, lq⟩ := a6 j (by omega)
        have := l.lt
        rw [updr_ne q]
        exact ⟨⟨us, l.keep k49 (ni3 (by omega) (by omega) (by omega)), b⟩, lq⟩
    · intro j hj
      rw [updr_ne (by omega : j ≠ i)]
      by_cases q : j + 1 = i
      · rw [q, updr_same]
        obtain ⟨⟨us, l, b⟩, lq⟩ := a6 j (by omega)
        have := l.lt
        omega
      · rw [updr_ne q]; exact a7 j (by omega)
  · rintro h4 ⟨qa, m', a1, a2, a3, a4, a5, a6, a7⟩
    have lR4 := lR.keep a4 (by simp)
    refine Ev.next_end r.handled a3 lR4.isList (by simp) fun h5 k5 => ⟨rfl, ?_⟩
    have kk5 : Keep [] h h5 := a4.then k5 (all1 (.inr (Nat.le_refl _)))
    refine Ev.store (kk5.ns hn (by simp)) fun h6 n6 k6 => ?_
    have c6 := k6.ns (k5.ns a1 (ni (by omega))) (ni (by omega))
    refine ⟨⟨_, c6⟩, fun h7 k7 => ?_⟩
    have kq : Keep [h.objs.size, L, h1.objs.size + 1] h4 h7 := ((k5.mono (by simp)).trans (k6.mono (by simp))).trans (k7.mono (by simp))
    have g0' := (a6 0 (by omega)).2
    refine k h7 h1.objs.size qa ((kk5.nil.trans k6).then k7 (all1 (.inr (by omega)))) (k7.ns n6 (ni (by omega))) (a2.keep kq (ni3 (by omega) (by omega) (by omega))) (by omega) (by omega) (a7 0 (by omega)) (a7 1 (by omega)) fun i hi => ?_
    obtain ⟨⟨us, l, b⟩, lq⟩ := a6 i hi
    exact ⟨us, l.keep kq (ni3 (by omega) (by omega) (by omega)), b⟩
end
end Mine

namespace Mine
theorem mem_five {X0 : List Nat} {a b c d e z : Nat} (h : z ∈ X0 ++ [a, b, c, d, e]) : z ∈ X0 ∨ z = a ∨ z = b ∨ z = c ∨ z = d ∨ z = e := by
  simpa using h
theorem in_five {X0 : List Nat} {a b c d e : Nat} : a ∈ X0 ++ [a, b, c, d, e] ∧ b ∈ X0 ++ [a, b, c, d, e] ∧ c ∈ X0 ++ [a, b, c, d, e] ∧ d ∈ X0 ++ [a, b, c, d, e] ∧ e ∈ X0 ++ [a, b, c, d, e] ∧ ∀ z ∈ X0, z ∈ X0 ++ [a, b, c, d, e] := by
  simp
  exact fun z hz => .inl hz
section
variable {w : World} {mg mb : Str → Option Value} {g0 : Heap} {A : Around} {h : Heap} {body : List Stmt} {scope : Scope} {L fa : Addr} {cd : Value} {P : Flow → Heap → Prop}
set_option maxHeartbeats 1000000 in
/-- the sources are made -/
theorem sources4 (hd : law4 = some (body, scope)) (c : Top4 w mg mb g0) (r : Room A 20) {m : Str → Option Value} {Q : Nat} {qa : Nat → Addr} (hn : h.Ns L m) (st : Stay g0 h) (hgL : g0.get? L = none) (hL55 : L ≠ 55) (hqu : m "queues" = some (.ref Q)) (lQ : Lst h Q (refs3 qa)) (hQ55 : Q ≠ 55) (T1 : Tab h 55 p54 q54)
    (X0 : List Addr) (hX0 : ∀ z ∈ X0, Plain h z ∧ z ≠ 55)
    (k : ∀ h' (S : Nat) (xa : Nat → Addr) (X : List Addr), Keep [L, 55] h h' → h'.Ns L (upd m "sources" (.ref S)) → Lst h' S (refs3 xa) → h.objs.size ≤ S → Stay g0 h' → Tab h' 55 p54 q54 → L ∈ X → (∀ z ∈ X0, z ∈ X) → (∀ i, i < 3 → ∀ h2, Keep X h' h2 → Reader4 h2 (xa i) (QSpec w g0 (qa i) h2)) → P .next h') :
    Ev (model pg4 w) A (exec (nth4 body 2) (envOf "law" scope L fa cd)) h P := by
  obtain ⟨rfl, rfl⟩ := Prod.mk.inj (Option.some.inj (show some (_, _) = some (body, scope) from hd))
  have lL := ltN4 hn
  have ltQ := lQ.lt
  have l55 := (Plain.tab T1).lt
  have hL55' : (L : Nat) ≠ 55 := hL55
  refine Ev.assignComp (by decide) (by decide) rfl (by decide) rfl ?_
  refine Ev.local hn hqu (Ev.iter_list lQ.isList fun h1 i1 k1 z1 h3 k3 q3 hn3 z3 => ?_)
  have in5 := in_five (X0 := X0) (a := h.objs.size) (b := h1.objs.size) (c := h1.objs.size + 1) (d := 55) (e := L)
  refine ⟨h.objs.size, 3, fun i h' => ∃ (xa : Nat → Addr) (m' : Str → Option Value), h'.Ns (h1.objs.size + 1) m' ∧ Lst h' h1.objs.size ((List.range i).map fun j => .ref (xa j)) ∧ h'.IsListIter h.objs.size Q i ∧ Keep [55] h h' ∧ h1.objs.size + 2 ≤ h'.objs.size ∧ Stay g0 h' ∧ Tab h' 55 p54 q54 ∧
      (∀ j, j < i → ∀ h2, Keep (X0 ++ [h.objs.size, h1.objs.size, h1.objs.size + 1, 55, L]) h' h2 → Reader4 h2 (xa j) (QSpec w g0 (qa j) h2)), rfl, ?_, ?_, ?_, ?_⟩
  · exact ⟨fun _ => 0, _, hn3, q3, iter_keep i1 k3 (by simp), (k1.trans k3).nil, by omega, (st.keep' k1).keep' k3, (T1.keep k1 (by simp) all0).keep k3 (by simp) all0, fun j hj => by omega⟩
  · exact Ev.iter_self (iter_keep i1 k3 (by simp)) ⟨rfl, rfl⟩
  · rintro i h4 hi ⟨xa, m', a1, a2, a3, a4, a5, a6, a7, a8⟩
    have lQ4 := lQ.keep a4 (ni hQ55)
    refine Ev.next_item a3 lQ4.isList (refs_get hi) fun h5 i5 k5 => ⟨_, rfl, Ev.of_eq (a := ()) rfl ?_⟩
    have a1' := k5.ns a1 (ni (by omega))
    refine Ev.assignName (Ev.store a1' fun h6 n6 k6 => Ev.tests_nil ?_)
    rw [if_pos rfl]
    have k46 : Keep [h.objs.size, h1.objs.size + 1] h4 h6 := (k5.mono (by simp)).trans (k6.mono (by simp))
    have z46 := k46.size
    have kk6 : Keep [55] h h6 := a4.then k46 (all2 (.inr (Nat.le_refl _)) (.inr (by omega)))
    have st6 := a6.keep k46 (all2 (st.none (Nat.le_refl _)) (st.none (by omega)))
    have t6 := (a7.keep k5 (ni (by omega)) (all1 (Plain.iter a3).no)).keep k6 (ni (by omega)) (all1 (.ns a1'))
    have d6 := a2.keep k46 (ni2 (by omega) (by omega))
    have i6 := iter_keep i5 k6 (ni (by omega))
    have G6 := c.G.keeps st6
    have ho := G6.X 60 _ rfl
    have nL6 := kk6.ns hn (ni hL55')
    have hX : ∀ z ∈ X0 ++ [h.objs.size, h1.objs.size, h1.objs.size + 1, 55, L], Plain h6 z := fun z hz => by
      rcases mem_five hz with q | q | q | q | q | q
      · exact (hX0 z q).1.keep kk6 (ni (hX0 z q).2)
      · rw [q]; exact .iter i6
      · rw [q]; exact .isList d6.isList
      · rw [q]; exact .ns n6
      · rw [q]; exact .tab t6
      · rw [q]; exact .ns nL6
    refine Ev.callN (Ev.global G6 rfl (Ev.items_cons (Ev.local n6 upd_same (Ev.items_nil ⟨keeper_fn ho rfl, Ev.call ((source4 c _ hX st6 t6 (r.less (by omega))).mono ?_)⟩))))
    rintro v h7 ⟨x, rfl, k7, t7, rd7⟩
    have z7 := k7.size
    have d7 := d6.keep k7 (ni (by omega))
    refine Ev.append d7 (by simp; omega) fun h8 k8 q8 => ?_
    have z8 := k8.size
    rw [map_range_add] at q8
    refine ⟨updr xa i x, _, k8.ns (k7.ns n6 (ni (by omega))) (ni (by omega)), q8, iter_keep (iter_keep i6 k7 (ni (by omega))) k8 (ni (by omega)), (kk6.trans k7).then k8 (all1 (.inr (by omega))), by omega, (st6.keep k7 (all1 c.t2)).keep k8 (all1 (st.none (by omega))), t7.keep k8 (ni (by omega)) (all1 (.lst d7)), ?_⟩
    intro j hj h9 k9
    have k8' : Keep (X0 ++ [h.objs.size, h1.objs.size, h1.objs.size + 1, 55, L]) h7 h8 := k8.mono (all1 in5.2.1)
    by_cases q : j = i
    · subst q
      rw [updr_same]
      exact rd7 h9 (k8'.trans k9)
    · rw [updr_ne q]
      refine a8 j (by omega) h9 (Keep.trans (Keep.trans (Keep.trans (k46.mono (all2 in5.1 in5.2.2.1)) (k7.mono (all1 in5.2.2.2.1))) k8') k9)
  · rintro h4 ⟨xa, m', a1, a2, a3, a4, a5, a6, a7, a8⟩
    have lQ4 := lQ.keep a4 (ni hQ55)
    refine Ev.next_end r.handled a3 lQ4.isList (by simp) fun h5 k5 => ⟨rfl, ?_⟩
    have kk5 : Keep [55] h h5 := a4.then k5 (all1 (.inr (Nat.le_refl _)))
    have n5 := kk5.ns hn (ni hL55')
    refine Ev.store n5 fun h6 n6 k6 => ?_
    have c5 := k5.ns a1 (ni (by omega))
    have c6 := k6.ns c5 (ni (by omega))
    refine ⟨⟨_, c6⟩, fun h7 k7 => ?_⟩
    have kq : Keep [h.objs.size, L, h1.objs.size + 1] h4 h7 := ((k5.mono (by simp)).trans (k6.mono (by simp))).trans (k7.mono (by simp))
    have t7 := ((a7.keep k5 (ni (by omega)) (all1 (Plain.iter a3).no)).keep k6 (ni (fun e => hL55' e.symm)) (all1 (.ns n5))).keep k7 (ni (by omega)) (all1 (.ns c6))
    refine k h7 h1.objs.size xa _ (((kk5.mono (by simp)).trans (k6.mono (by simp))).then k7 (all1 (.inr (by omega)))) (k7.ns n6 (ni (by omega))) (a2.keep kq (ni3 (by omega) (by omega) (by omega))) (by omega) (((a6.keep k5 (all1 (st.none (Nat.le_refl _)))).keep k6 (all1 hgL)).keep k7 (all1 (st.none (by omega)))) t7 in5.2.2.2.2.1 in5.2.2.2.2.2 fun i hi h8 k8 => ?_
    refine a8 i hi h8 (Keep.trans (kq.mono (fun z hz => ?_)) k8)
    simp only [List.mem_cons, List.not_mem_nil, or_false] at hz
    rcases hz with q | q | q
    · rw [q]; exact in5.1
    · rw [q]; exact in5.2.2.2.2.1
    · rw [q]; exact in5.2.2.1
end
end Mine

namespace Mine
section
variable {a : Ads} {g0 h h' : Heap} {ρ : Addr → Nat} {ra : Nat → Addr} {rq rr : Nat → List Bs} {ks ds : List Value} {b : Addr}
theorem Told.keepX (x : Told h ρ ks ds) (kp : Keep [b] h h') (ne : ∀ z vs, h.IsList z vs → z ≠ b) : Told h' ρ ks ds := by
  induction x with
  | nil => exact .nil
  | cons p q c d _ ih => exact .cons ⟨p.1.keep kp (ni (ne _ _ p.1.isList)), p.2⟩ ⟨q.1.keep kp (ni (ne _ _ q.1.isList)), q.2⟩ c d ih
/-- what is no list turns -/
theorem Hp.keepX (x : Hp a h ρ ra rq rr ks ds) (kp : Keep [b] h h') (ne : ∀ z vs, h.IsList z vs → z ≠ b) : Hp a h' ρ ra rq rr ks ds := by
  have f : ∀ {k : Nat} {z : Addr} {vs : List Value}, Lr h ρ k z vs → Lr h' ρ k z vs := fun l => ⟨l.1.keep kp (ni (ne _ _ l.1.isList)), l.2⟩
  exact ⟨x.L, ⟨isList_keep x.R.1 kp (ni (ne _ _ x.R.1)), x.R.2⟩, f x.Q, f x.S, f x.K, f x.D, fun i hi => let ⟨vs, p, q⟩ := x.q i hi; ⟨vs, f p, q⟩, fun i hi => let ⟨vs, p, q⟩ := x.r i hi; ⟨vs, f p, q⟩, x.T.keepX kp ne⟩
end
theorem iter_ne {h : Heap} {it l z : Addr} {i : Nat} {vs : Array Value} (x : h.IsListIter it l i) (y : h.IsList z vs) : z ≠ it := by
  rintro rfl
  obtain ⟨o, e, c, d⟩ := x
  obtain ⟨o', e', c', n, d'⟩ := y
  rw [e] at e'; cases e'
  rw [c] at c'
  exact absurd c' (by decide)
section
variable {prog : Program} {w : World} {A : Around} {h : Heap} {env : Env} {P : Flow → Heap → Prop} {x : Str} {px pos : Pos} {iter : Expr} {body : List Stmt}
/-- over a list that stands, the iterator shown -/
theorem Ev.forList2 (hh : A.handled = none) (e : Ev (model prog w) A (eval iter env) h fun xv h1 => ∃ (l : Addr) (vs : List Value) (I : Nat → Heap → Prop), xv = .ref l ∧ h1.IsList l vs.toArray ∧
      (∀ h2, Keep [] h1 h2 → h2.objs.size = h1.objs.size + 1 → I 0 h2) ∧ (∀ i h h', (∃ j, h.IsListIter h1.objs.size l j) → I i h → Keep [h1.objs.size] h h' → I i h') ∧
      (∀ i v h, vs[i]? = some v → I i h → Turn prog w A env x body [h1.objs.size, l] v h (I (i + 1)) P) ∧ (∀ h, I vs.length h → P .next h))
    (hs : ∀ x, foldedSetIterable iter env x = Pure.pure x := by intro _; rfl) (ht : ∀ it v, letOwnedTupleGo (.Name x px) it v = Pure.pure () := by intro _ _; rfl) :
    Ev (model prog w) A (exec (.For (.Name x px) iter body [] pos) env) h P := by
  refine Ev.forCore (e.mono fun xv h1 ⟨l, vs, I, e1, hl, i0, cl, turn, fin⟩ => ?_) hs ht
  subst e1
  refine Ev.iter_list hl fun h2 q2 k2 z2 => ?_
  refine ⟨h1.objs.size, vs.length, fun i h => h.IsListIter h1.objs.size l i ∧ h.IsList l vs.toArray, I, fun i v => vs[i]? = some v, [h1.objs.size, l], rfl, ⟨q2, isList_keep hl k2 (by simp)⟩, i0 _ k2 z2, ?_, ?_, ?_, fun i h h' q => cl i h h' ⟨i, q.1⟩, fun i v h _ hv _ => turn i v h hv, fin⟩
  · rintro i h3 hi ⟨q1, q2⟩
    exact Ev.next_item q1 q2 (List.getElem?_eq_getElem hi) fun h' r1 r2 => ⟨_, rfl, List.getElem?_eq_getElem hi, ⟨r1, isList_keep q2 r2 (ni (iter_ne q1 q2))⟩, r2⟩
  · rintro h3 ⟨q1, q2⟩
    exact Ev.next_end hh q1 q2 (Nat.le_refl _) fun h' k => ⟨rfl, k⟩
  · rintro i h3 h4 S ⟨q1, q2⟩ k n
    exact ⟨iter_keep q1 k (n _ (by simp)), isList_keep q2 k (n _ (by simp))⟩
end
theorem updr_len {rv : Nat → List Bs} {i j n : Nat} {x : List Bs} (h1 : x.length ≤ n) (h2 : (rv j).length ≤ n) : (updr rv i x j).length ≤ n := by
  unfold updr
  split <;> assumption
abbrev turned (a : Ads) (ra : Nat → Addr) : List Addr := [a.L, a.R, a.K, a.D, a.qa 0, a.qa 1, a.qa 2, ra 0, ra 1, ra 2]
theorem base_here (a : Ads) (ra : Nat → Addr) (h : Heap) : Base a (turned a ra) h ra h :=
  ⟨.refl _ _, by simp, by simp, .inl (by simp), .inl (by simp), fun i hi => by
    match i, hi with
    | 0, _ => simp
    | 1, _ => simp
    | 2, _ => simp, fun i hi => .inl (by
    match i, hi with
    | 0, _ => simp
    | 1, _ => simp
    | 2, _ => simp)⟩
section
variable {w : World} {mg mb : Str → Option Value} {g0 : Heap} {A : Around} {h : Heap} {body : List Stmt} {scope : Scope} {fa : Addr} {cd : Value} {P : Flow → Heap → Prop}
variable {a : Ads} {X : List Addr} {hS : Heap} {ρ : Addr → Nat} {ra : Nat → Addr} {rv : Nat → List Bs} {ks ds : List Value}
set_option maxHeartbeats 1000000 in
/-- a whole turn -/
theorem turn4 (hd : law4 = some (body, scope)) (c : Top4 w mg mb g0) (r : Room A 20) (stS : Stay g0 hS) (rd : ∀ i, i < 3 → ∀ h2, Keep X hS h2 → Reader4 h2 (a.xa i) (QSpec w g0 (a.qa i) h2)) (qlt : ∀ i, i < 3 → (a.qa i : Nat) < hS.objs.size)
    {m : Str → Option Value} {x : Int} {tk : Tok} {s : Nat} {Y : List Addr} {h0 : Heap} (hs : s ≤ 64) (inv : Inv4 s rv) (D : Dy a g0 X hS Y h0 h ρ ra rv rv ks ds) (hn : h.Ns a.L m) (hx : m "x" = some (.int x tk))
    (hro : m "rows" = some (.ref a.R)) (hqu : m "queues" = some (.ref a.Q)) (hso : m "sources" = some (.ref a.S)) (hke : m "kept" = some (.ref a.K)) (hdu : m "dues" = some (.ref a.D)) (hks : ks.length ≤ 400) (hds : ds.length ≤ 400)
    (k : ∀ h' m' ρ' ra' rv' v u, h'.Ns a.L m' → Same5 m m' → Inv4 (s + 1) rv' → Dy a g0 X hS Y h0 h' ρ' ra' rv' rv' (ks ++ [v]) (ds ++ [u]) → (∀ j, ra' j = ra j ∨ h.objs.size ≤ ra' j) → h.objs.size ≤ h'.objs.size → P .next h') :
    Ev (model pg4 w) A (execs (subs4 (nth4 body 5)) (envOf "law" scope a.L fa cd)) h P := by
  refine step1 hd c r hs inv D hn hx hro hqu rfl fun h1 m1 rv1 here there how l1 l2 l3 hn1 nm1 ok1 b1 b2 b3 D1 z1 => ?_
  refine step2 hd c r stS rd qlt hs l1 ok1 b1 b2 b3 D1 hn1 nm1 hro hso rfl fun h2 m2 ρ2 n T tv B bv hn2 nm2 D2 ln hto hbl lT bT lB bB lTs z2 => ?_
  have tl := tot_ge (wt := wl) rv1 l1
  have tl2 := tot_ge (wt := wl) rv1 l2
  have tb := tot_ge (wt := wb) rv1 l1
  have tn := tot_ge (wt := wn) rv1 l1
  rw [mu_wl] at tl tl2
  have bl := blk_len (rv1 here)
  have mb' := mu_blk (wt := wb) (rv1 here)
  have e0 : wb #[] = 0 := rfl
  have ec := mu_wb (blk (rv1 here)).1
  have hrest : (blk (rv1 here)).2.length ≤ 400 := by rw [blk_rest]; simp; omega
  have zS := D1.b1.kp.size
  have z0 := D1.b2.kp.size
  refine step3 hd c r l2 l3 (by omega) (by omega) (updr_len hrest (by omega)) D2 hn2 nm2 hro hqu hke hdu hto hbl lT bT lB bB (Nat.le_trans zS lTs) (Nat.le_trans z0 lTs) (D1.st.none lTs) hks hds fun h3 m3 ρ3 n3 v u hn3 sm3 D3 ln3 z3 => ?_
  refine k h3 m3 ρ3 _ _ v u hn3 sm3 (Inv4.move ok1 b1 b2 b3 l1 l2 how) D3 (fun j => ?_) (by omega)
  by_cases q : j = there
  · rw [q, updr_same]; exact .inr (by omega)
  · rw [updr_ne q]
    by_cases q2 : j = here
    · rw [q2, updr_same]; exact .inr (by omega)
    · rw [updr_ne q2]; exact .inl rfl
end
end Mine

namespace Mine
theorem nt {a : Ads} {ra : Nat → Addr} {z : Nat} (h1 : z ≠ a.L) (h2 : z ≠ a.R) (h3 : z ≠ a.K) (h4 : z ≠ a.D) (h5 : z ≠ a.qa 0) (h6 : z ≠ a.qa 1) (h7 : z ≠ a.qa 2) (h8 : z ≠ ra 0) (h9 : z ≠ ra 1) (h10 : z ≠ ra 2) : z ∉ turned a ra := by
  simp [turned, h1, h2, h3, h4, h5, h6, h7, h8, h9, h10]
theorem grown_ne {h : Heap} {P z : Addr} {vs : Array Value} (x : GrownAt P h) (y : h.IsList z vs) : P ≠ z := by
  rintro rfl
  obtain ⟨ps, e⟩ := x
  obtain ⟨o, e', c, n, d⟩ := y
  rw [e] at e'; cases e'; cases d
theorem grown_ns {h : Heap} {P L : Addr} {m : Str → Option Value} (x : GrownAt P h) (y : h.Ns L m) : P ≠ L := by
  rintro rfl
  obtain ⟨ps, e⟩ := x
  obtain ⟨o, es, ep, e', d, _⟩ := y
  rw [e] at e'; cases e'; cases d
theorem grown_keep {h h' : Heap} {P : Addr} {S : List Addr} (x : GrownAt P h) (k : Keep S h h') (n : P ∉ S) : GrownAt P h' := let ⟨ps, e⟩ := x; ⟨ps, k.get _ _ n e⟩
theorem role12 {L r0 r1 r2 R Q q0 q1 q2 S K D : Nat} (h1 : L < r0) (h2 : r0 < r1) (h3 : r1 < r2) (h4 : r2 < R) (h5 : R < Q) (h6 : Q < q0) (h7 : q0 < q1) (h8 : q1 < q2) (h9 : q2 < S) (h10 : S < K) (h11 : K < D) :
    ∃ ρ : Nat → Nat, ρ L = 100 ∧ ρ r0 = 8 ∧ ρ r1 = 9 ∧ ρ r2 = 10 ∧ ρ R = 0 ∧ ρ Q = 1 ∧ ρ q0 = 5 ∧ ρ q1 = 6 ∧ ρ q2 = 7 ∧ ρ S = 2 ∧ ρ K = 3 ∧ ρ D = 4 := by
  refine ⟨fun b => if b ≤ L then 100 else if b ≤ r0 then 8 else if b ≤ r1 then 9 else if b ≤ r2 then 10 else if b ≤ R then 0 else if b ≤ Q then 1 else if b ≤ q0 then 5 else if b ≤ q1 then 6 else if b ≤ q2 then 7 else if b ≤ S then 2 else if b ≤ K then 3 else 4, ?_⟩
  exact ⟨if_pos (Nat.le_refl _), (if_neg (by omega)).trans (if_pos (Nat.le_refl _)), (if_neg (by omega)).trans ((if_neg (by omega)).trans (if_pos (Nat.le_refl _))), (if_neg (by omega)).trans ((if_neg (by omega)).trans ((if_neg (by omega)).trans (if_pos (Nat.le_refl _)))), (if_neg (by omega)).trans ((if_neg (by omega)).trans ((if_neg (by omega)).trans ((if_neg (by omega)).trans (if_pos (Nat.le_refl _))))), (if_neg (by omega)).trans ((if_neg (by omega)).trans ((if_neg (by omega)).trans ((if_neg (by omega)).trans ((if_neg (by omega)).trans (if_pos (Nat.le_refl _)))))), (if_neg (by omega)).trans ((if_neg (by omega)).trans ((if_neg (by omega)).trans ((if_neg (by omega)).trans ((if_neg (by omega)).trans ((if_neg (by omega)).trans (if_pos (Nat.le_refl _))))))), (if_neg (by omega)).trans ((if_neg (by omega)).trans ((if_neg (by omega)).trans ((if_neg (by omega)).trans ((if_neg (by omega)).trans ((if_neg (by omega)).trans ((if_neg (by omega)).trans (if_pos (Nat.le_refl _)))))))), (if_neg (by omega)).trans ((if_neg (by omega)).trans ((if_neg (by omega)).trans ((if_neg (by omega)).trans ((if_neg (by omega)).trans ((if_neg (by omega)).trans ((if_neg (by omega)).trans ((if_neg (by omega)).trans (if_pos (Nat.le_refl _))))))))), (if_neg (by omega)).trans ((if_neg (by omega)).trans ((if_neg (by omega)).trans ((if_neg (by omega)).trans ((if_neg (by omega)).trans ((if_neg (by omega)).trans ((if_neg (by omega)).trans ((if_neg (by omega)).trans ((if_neg (by omega)).trans (if_pos (Nat.le_refl _)))))))))), (if_neg (by omega)).trans ((if_neg (by omega)).trans ((if_neg (by omega)).trans ((if_neg (by omega)).trans ((if_neg (by omega)).trans ((if_neg (by omega)).trans ((if_neg (by omega)).trans ((if_neg (by omega)).trans ((if_neg (by omega)).trans ((if_neg (by omega)).trans (if_pos (Nat.le_refl _))))))))))), (if_neg (by omega)).trans ((if_neg (by omega)).trans ((if_neg (by omega)).trans ((if_neg (by omega)).trans ((if_neg (by omega)).trans ((if_neg (by omega)).trans ((if_neg (by omega)).trans ((if_neg (by omega)).trans ((if_neg (by omega)).trans ((if_neg (by omega)).trans (if_neg (by omega)))))))))))⟩
def NLt (x y : Nat) : Prop := x < y
theorem nle {x y z : Nat} (h : x < y) (l : y ≤ z) : z ≠ x := by omega
theorem nor {x y z u : Nat} (h : NLt x y ∨ NLt u x) (l : y ≤ z) (l2 : z ≤ u) : z ≠ x := by unfold NLt at h; omega
theorem ints_append {vs us : List Value} {ns ms : List Int} (x : IntsAre vs ns) (y : IntsAre us ms) : IntsAre (vs ++ us) (ns ++ ms) := by
  induction x with
  | nil => exact y
  | cons n t _ ih => exact .cons n t ih
theorem ints_get {vs : List Value} {ns : List Int} (x : IntsAre vs ns) (i : Nat) (v : Value) (h : vs[i]? = some v) : ∃ n t, v = .int n t := by
  induction x generalizing i with
  | nil => simp at h
  | cons n t x ih => cases i with
    | zero => simp at h; exact ⟨n, t, h.symm⟩
    | succ i => exact ih i (by simpa using h)
section
variable {w : World} {mg mb : Str → Option Value} {g0 : Heap} {A : Around} {h : Heap} {body : List Stmt} {scope : Scope} {fa : Addr} {cd : Value} {P : Flow → Heap → Prop}
variable {a : Ads} {X : List Addr} {hS : Heap} {ρ : Addr → Nat} {ra : Nat → Addr}
set_option maxHeartbeats 1000000 in
theorem loop4 (hd : law4 = some (body, scope)) (c : Top4 w mg mb g0) (r : Room A 20) (stS : Stay g0 hS) (rd : ∀ i, i < 3 → ∀ h2, Keep X hS h2 → Reader4 h2 (a.xa i) (QSpec w g0 (a.qa i) h2)) (qlt : ∀ i, i < 3 → (a.qa i : Nat) < hS.objs.size)
    {m : Str → Option Value} {scr : Addr} {vs : List Value} {ns : List Int} (hn : h.Ns a.L m) (hsc : m "script" = some (.ref scr)) (hsl : g0.IsList scr vs.toArray) (hvs : IntsAre vs ns) (hlen : vs.length ≤ 63)
    (hro : m "rows" = some (.ref a.R)) (hqu : m "queues" = some (.ref a.Q)) (hso : m "sources" = some (.ref a.S)) (hke : m "kept" = some (.ref a.K)) (hdu : m "dues" = some (.ref a.D))
    (hp : Hp a h ρ ra rows0 rows0 [] []) (b1 : Base a X hS ra h) (of : Off a g0 ra) (st : Stay g0 h) (gr : GrownAt 55 h)
    (k : ∀ h' m' ρ' ra' rv' ks ds, h'.Ns a.L m' → Same5 m m' → Hp a h' ρ' ra' rv' rv' ks ds → Stay g0 h' → GrownAt 55 h' → P .next h') :
    Ev (model pg4 w) A (exec (nth4 body 5) (envOf "law" scope a.L fa cd)) h P := by
  have hd' := hd
  obtain ⟨rfl, rfl⟩ := Prod.mk.inj (Option.some.inj (show some (_, _) = some (body, scope) from hd))
  refine Ev.forList2 r.handled (Ev.binop (Ev.list (Ev.items_cons (Ev.int fun t1 => Ev.items_cons (Ev.int fun t2 => Ev.items_nil ⟨by simp, fun h1 q1 k1 z1 => ?_⟩)))))
  have hn1 := k1.ns hn (by simp)
  refine Ev.subscript (Ev.local hn1 hsc (Ev.slice (Ev.part_none (Ev.part_some (Ev.int fun t => Ev.part_none fun h2 s2 k2 => ?_)))))
  have sl2 : h2.IsList scr vs.toArray := isList_keep (isList_keep (let ⟨o, ho, r⟩ := hsl; ⟨o, st _ _ ho, r⟩) k1 (by simp)) k2 (by simp)
  refine ⟨.isList sl2, Ev.getSlice (us := vs) sl2 s2 .none (.int 63 t) .none (by simp) (by omega) (by rw [show ((63 : Int)) = ((63 : Nat) : Int) from rfl, slicePick_upto']; simp [List.take_of_length_le hlen]) fun h3 q3 k3 z3 => ?_⟩
  refine Ev.add_list ((q1.keep k2 (by simp)).keep k3 (by simp)) q3 (by simp; omega) fun h4 k4 q4 z4 => ?_
  have k04 : Keep [] h h4 := ((k1.trans k2).trans k3).trans k4
  have z1' := k1.size; have z2 := k2.size
  have lL := ltN4 hn
  have lR := isList_lt hp.R.1
  have lK := hp.K.1.lt
  have lD := hp.D.1.lt
  have lq0 := (let ⟨_, p, _⟩ := hp.q 0 (by omega); p.1.lt : (a.qa 0) < h.objs.size)
  have lq1 := (let ⟨_, p, _⟩ := hp.q 1 (by omega); p.1.lt : (a.qa 1) < h.objs.size)
  have lq2 := (let ⟨_, p, _⟩ := hp.q 2 (by omega); p.1.lt : (a.qa 2) < h.objs.size)
  have lr0 : ∀ j, j < 3 → NLt (ra j) h.objs.size := fun j hj => let ⟨_, p, _⟩ := hp.r j hj; p.1.lt
  refine ⟨h3.objs.size, _, fun i h' => ∃ (m' : Str → Option Value) (ρ' : Addr → Nat) (ra' : Nat → Addr) (rv' : Nat → List Bs) (ks ds : List Value), h'.Ns a.L m' ∧ Same5 m m' ∧ Inv4 i rv' ∧ Hp a h' ρ' ra' rv' rv' ks ds ∧ Base a X hS ra' h' ∧ Off a g0 ra' ∧ Stay g0 h' ∧ ks.length = i ∧ ds.length = i ∧
      (∀ j, j < 3 → NLt (ra' j) h.objs.size ∨ NLt h4.objs.size (ra' j)) ∧ h4.objs.size < h'.objs.size ∧ GrownAt 55 h', rfl, q4.isList, ?_, ?_, ?_, ?_⟩
  · intro h5 k5 z5
    have k05 := k04.trans k5
    exact ⟨m, ρ, ra, rows0, [], [], k05.ns hn (by simp), .refl _, inv4_start, hp.keep k05 (fun _ q => nomatch q), b1.goN k05 (fun _ q => nomatch q), of, st.keep' k05, rfl, rfl, fun j hj => .inl (lr0 j hj), by omega, grown_keep gr k05 (by simp)⟩
  · rintro i h5 h6 ⟨j, it⟩ ⟨m', ρ', ra', rv', ks, ds, x1, x2, x3, x4, x5, x6, x7, x8, x9, x10, x11, x12⟩ k6
    have zz := k6.size
    have zS := b1.kp.size
    refine ⟨m', ρ', ra', rv', ks, ds, k6.ns x1 (ni (by omega)), x2, x3, x4.keepX k6 (fun z vs y => iter_ne it y), x5.go k6 (.inr (by omega)), x6, x7.keep k6 (all1 (st.none (by omega))), x8, x9, x10, by omega, grown_keep x12 k6 (ni fun e => ?_)⟩
    obtain ⟨ps, e1⟩ := x12
    obtain ⟨o, e2, c2, d2⟩ := it
    rw [← e, e1] at e2
    cases e2
    cases c2
  · rintro i v h5 hv ⟨m', ρ', ra', rv', ks, ds, x1, x2, x3, x4, x5, x6, x7, x8, x9, x10, x11, x12⟩
    obtain ⟨n, tn, rfl⟩ := ints_get (ints_append (.cons 1 t1 (.cons 12 t2 .nil)) hvs) i v hv
    have hi : i < 2 + vs.length := by have := (List.getElem?_eq_some_iff.mp hv).1; simp at this; omega
    unfold Turn
    refine Ev.store x1 fun h6 hn6 k6 => ?_
    have D5 : Dy a g0 X hS (turned a ra') h5 h5 ρ' ra' rv' rv' ks ds := ⟨x4, x5, base_here a ra' h5, x6, x7⟩
    have D6 := D5.keepL k6
    have z6 := k6.size
    have sm := x2.upd (x := "x") (v := .int n tn)
    refine turn4 hd' c r stS rd qlt (by omega) x3 D6 hn6 upd_same (sm.rows.trans hro) (sm.queues.trans hqu) (sm.sources.trans hso) (sm.kept.trans hke) (sm.dues.trans hdu) (by omega) (by omega) fun h7 m7 ρ7 ra7 rv7 v7 u7 hn7 sm7 inv7 D7 rr7 z7 => ?_
    have y0 := x10 0 (by omega); have y1 := x10 1 (by omega); have y2 := x10 2 (by omega)
    have n55 : (55 : Nat) ∉ turned a ra' := by
      obtain ⟨_, p0, _⟩ := x4.q 0 (by omega)
      obtain ⟨_, p1, _⟩ := x4.q 1 (by omega)
      obtain ⟨_, p2, _⟩ := x4.q 2 (by omega)
      obtain ⟨_, p3, _⟩ := x4.r 0 (by omega)
      obtain ⟨_, p4, _⟩ := x4.r 1 (by omega)
      obtain ⟨_, p5, _⟩ := x4.r 2 (by omega)
      exact nt (grown_ns x12 x1) (grown_ne x12 x4.R.1) (grown_ne x12 x4.K.1.isList) (grown_ne x12 x4.D.1.isList) (grown_ne x12 p0.1.isList) (grown_ne x12 p1.1.isList) (grown_ne x12 p2.1.isList) (grown_ne x12 p3.1.isList) (grown_ne x12 p4.1.isList) (grown_ne x12 p5.1.isList)
    refine ⟨⟨turned a ra', D7.b2.kp, all2 ?_ ?_⟩, m7, ρ7, ra7, rv7, _, _, hn7, sm.trans sm7, inv7, D7.hp, D7.b1, D7.of, D7.st, by simp [x8], by simp [x9], fun j hj => ?_, by omega, grown_keep x12 D7.b2.kp n55⟩
    · exact nt (nle lL (by omega)) (nle lR (by omega)) (nle lK (by omega)) (nle lD (by omega)) (nle lq0 (by omega)) (nle lq1 (by omega)) (nle lq2 (by omega)) (nor y0 (by omega) (by omega)) (nor y1 (by omega) (by omega)) (nor y2 (by omega) (by omega))
    · exact nt (nle lL (by omega)) (nle lR (by omega)) (nle lK (by omega)) (nle lD (by omega)) (nle lq0 (by omega)) (nle lq1 (by omega)) (nle lq2 (by omega)) (nor y0 (by omega) (by omega)) (nor y1 (by omega) (by omega)) (nor y2 (by omega) (by omega))
    · rcases rr7 j with q | q
      · rw [q]; exact x10 j hj
      · exact .inr (Nat.lt_of_lt_of_le (by omega : h4.objs.size < h6.objs.size) q)
  · rintro h5 ⟨m', ρ', ra', rv', ks, ds, x1, x2, x3, x4, x5, x6, x7, x8, x9, x10, x11, x12⟩
    exact k h5 m' ρ' ra' rv' ks ds x1 x2 x4 x7 x12
end
end Mine

namespace Mine
theorem tab_ns4 {h : Heap} {a b : Addr} {m : Str → Option Value} {p : Pos} {q : Str} (x : h.Ns a m) (y : Tab h b p q) : a ≠ b := by
  rintro rfl
  obtain ⟨o, es, ep, e, hd, _⟩ := x
  obtain ⟨ps, e', _⟩ := y
  rw [e] at e'
  cases e'
  cases hd
theorem sw_List {elts : List Expr} {p : Pos} {t : Option Expr} {l : Nat} {env : Env} : swapsWith (.List elts p) t l env = Pure.pure false := rfl
abbrev tri (x y z : Nat) : Nat → Addr := fun j => if j = 0 then x else if j = 1 then y else z
theorem tri_all {x y z : Nat} {Q : Nat → Nat → Prop} (h0 : Q 0 x) (h1 : Q 1 y) (h2 : Q 2 z) : ∀ i, i < 3 → Q i (tri x y z i) := fun i hi => by
  match i, hi with
  | 0, _ => exact h0
  | 1, _ => exact h1
  | 2, _ => exact h2
theorem fn_all {f : Nat → Nat} {Q : Nat → Nat → Prop} (h0 : Q 0 (f 0)) (h1 : Q 1 (f 1)) (h2 : Q 2 (f 2)) : ∀ i, i < 3 → Q i (f i) := fun i hi => by
  match i, hi with
  | 0, _ => exact h0
  | 1, _ => exact h1
  | 2, _ => exact h2
theorem seven {R r0 r1 r2 q0 q1 q2 : Nat} {Q : Nat → Prop} (h0 : Q R) (h1 : Q r0) (h2 : Q r1) (h3 : Q r2) (h4 : Q q0) (h5 : Q q1) (h6 : Q q2) : ∀ z ∈ [R, r0, r1, r2, q0, q1, q2], Q z := fun z hz => by
  simp only [List.mem_cons, List.not_mem_nil, or_false] at hz
  rcases hz with rfl | rfl | rfl | rfl | rfl | rfl | rfl <;> assumption
def bconst (x : List UInt8 × Pos) : Expr := .Constant (.bytes x.1) 0 x.2
theorem items_bconst {M : Model} {A : Around} {env : Env} {pos : Pos} {h : Heap} : ∀ (l : List (List UInt8 × Pos)) {P : List Value → Heap → Prop} (k : ∀ vs, Bts vs (l.map fun x => x.1.toArray) → P vs h), Ev M A (spliced (backTo pos (starEach (l.map bconst) env))) h P
  | [], P, k => Ev.items_nil (k _ .nil)
  | (i, p) :: l, P, k => Ev.items_cons (e := .Constant (.bytes i) 0 p) (Ev.bytes fun t => items_bconst l fun vs b => k _ (.cons b))
section
variable {w : World} {mg mb : Str → Option Value} {g0 : Heap} {A : Around} {h : Heap} {body : List Stmt} {scope : Scope} {fa : Addr} {cd : Value} {L : Addr}
theorem kind4 (hd : law4 = some (body, scope)) : (envOf "law" scope L fa cd).scope.kind = .function ∧ (envOf "law" scope L fa cd).kindOf "rows" = some .local := by
  obtain ⟨-, rfl⟩ := Prod.mk.inj (Option.some.inj (show some (_, _) = some (body, scope) from hd))
  exact ⟨rfl, rfl⟩
theorem first4 (hd : law4 = some (body, scope)) : ∃ (L0 L1 : List (List UInt8 × Pos)) (p0 p1 p2 p3 p4 p5 : Pos), nth4 body 0 = Stmt.Assign [.Name "rows" p0] (.List [.List (L0.map bconst) p1, .List (L1.map bconst) p2, .List [] p3] p4) p5 ∧
    L0.map (fun x => x.1.toArray) = row0 ∧ L1.map (fun x => x.1.toArray) = row1 := by
  obtain ⟨rfl, rfl⟩ := Prod.mk.inj (Option.some.inj (show some (_, _) = some (body, scope) from hd))
  exact ⟨[([97, 10], _), ([32, 10], _), ([10], _), ([99, 10], _)], [([13, 10], _), ([100, 10], _), ([9, 13, 10], _), ([13, 10], _), ([102, 10], _)], _, _, _, _, _, _, rfl, rfl, rfl⟩
set_option maxHeartbeats 1000000 in
theorem rows4 (hd : law4 = some (body, scope)) {m : Str → Option Value} {P : Flow → Heap → Prop} (hn : h.Ns L m)
    (k : ∀ h1 h2 h3 h4 h5 vs0 vs1, Bts vs0 row0 → Bts vs1 row1 → Lst h1 h.objs.size vs0 → Keep [] h h1 → h1.objs.size = h.objs.size + 1 →
      Lst h2 h1.objs.size vs1 → Keep [] h1 h2 → h2.objs.size = h1.objs.size + 1 →
      Lst h3 h2.objs.size [] → Keep [] h2 h3 → h3.objs.size = h2.objs.size + 1 → Lst h4 h3.objs.size [.ref h.objs.size, .ref h1.objs.size, .ref h2.objs.size] → Keep [] h3 h4 → h4.objs.size = h3.objs.size + 1 → h5.Ns L (upd m "rows" (.ref h3.objs.size)) → Keep [L] h4 h5 → P .next h5) :
    Ev (model pg4 w) A (exec (nth4 body 0) (envOf "law" scope L fa cd)) h P := by
  obtain ⟨L0, L1, p0, p1, p2, p3, p4, p5, e, e0, e1⟩ := first4 hd
  have hk := kind4 (L := L) (fa := fa) (cd := cd) hd
  rw [e]
  clear e hd
  have n0 : (L0.map fun x => x.1.toArray).length ≤ 16777216 := by rw [e0]; decide
  have n1 : (L1.map fun x => x.1.toArray).length ≤ 16777216 := by rw [e1]; decide
  rw [← e0, ← e1] at k
  clear e0 e1
  refine Ev.assign (hs := sw_List) (Ev.list ?_)
  refine Ev.items_cons (Ev.list (items_bconst L0 fun vs0 b0 => ⟨by rw [b0.length]; exact n0, fun h1 q1 k1 z1 => ?_⟩))
  refine Ev.items_cons (Ev.list (items_bconst L1 fun vs1 b1 => ⟨by rw [b1.length]; exact n1, fun h2 q2 k2 z2 => ?_⟩))
  refine Ev.items_cons (Ev.list ?_)
  refine Ev.items_nil ⟨by simp, fun h3 q3 k3 z3 => ?_⟩
  refine Ev.items_nil ⟨by simp, fun h4 q4 k4 z4 => ?_⟩
  refine Ev.store ((((k1.trans k2).trans k3).trans k4).ns hn (by simp)) (hk := hk.1) (hl := hk.2) fun h5 hn5 k5 => ?_
  exact k h1 h2 h3 h4 h5 vs0 vs1 b0 b1 q1 k1 z1 q2 k2 z2 q3 k3 z3 q4 k4 z4 hn5 k5
theorem body4 (hd : law4 = some (body, scope)) : body = [nth4 body 0, nth4 body 1, nth4 body 2, nth4 body 3, nth4 body 4, nth4 body 5, nth4 body 6] := by
  obtain ⟨rfl, rfl⟩ := Prod.mk.inj (Option.some.inj (show some (_, _) = some (body, scope) from hd))
  rfl
theorem kept4 (hd : law4 = some (body, scope)) {m : Str → Option Value} {P : Flow → Heap → Prop} (hn : h.Ns L m)
    (k : ∀ h1 h2, Lst h1 h.objs.size [] → Keep [] h h1 → h1.objs.size = h.objs.size + 1 → h2.Ns L (upd m "kept" (.ref h.objs.size)) → Keep [L] h1 h2 → P .next h2) :
    Ev (model pg4 w) A (exec (nth4 body 3) (envOf "law" scope L fa cd)) h P := by
  obtain ⟨rfl, rfl⟩ := Prod.mk.inj (Option.some.inj (show some (_, _) = some (body, scope) from hd))
  refine Ev.assign (Ev.list (Ev.items_nil ⟨by simp, fun h8 q8 k8 z8 => Ev.store (k8.ns hn (by simp)) fun h9 hn9 k9 => ?_⟩))
  exact k h8 h9 q8 k8 z8 hn9 k9
theorem dues4 (hd : law4 = some (body, scope)) {m : Str → Option Value} {P : Flow → Heap → Prop} (hn : h.Ns L m)
    (k : ∀ h1 h2, Lst h1 h.objs.size [] → Keep [] h h1 → h1.objs.size = h.objs.size + 1 → h2.Ns L (upd m "dues" (.ref h.objs.size)) → Keep [L] h1 h2 → P .next h2) :
    Ev (model pg4 w) A (exec (nth4 body 4) (envOf "law" scope L fa cd)) h P := by
  obtain ⟨rfl, rfl⟩ := Prod.mk.inj (Option.some.inj (show some (_, _) = some (body, scope) from hd))
  refine Ev.assign (Ev.list (Ev.items_nil ⟨by simp, fun h8 q8 k8 z8 => Ev.store (k8.ns hn (by simp)) fun h9 hn9 k9 => ?_⟩))
  exact k h8 h9 q8 k8 z8 hn9 k9
theorem ret4 (hd : law4 = some (body, scope)) (r : Room A 20) {m : Str → Option Value} {P : Flow → Heap → Prop} {K D : Addr} {ks ds : List Value} (hn : h.Ns L m) (hk : m "kept" = some (.ref K)) (hu : m "dues" = some (.ref D)) (lk : Lst h K ks) (ld : Lst h D ds)
    (al : ∀ g d tk os, Alike A.in1 ⟨h, g, d, tk, os⟩ ks ds) (k : P (.ret (.bool true)) h) :
    Ev (model pg4 w) A (exec (nth4 body 6) (envOf "law" scope L fa cd)) h P := by
  obtain ⟨rfl, rfl⟩ := Prod.mk.inj (Option.some.inj (show some (_, _) = some (body, scope) from hd))
  have hul := r.line
  exact Ev.ret (Ev.compare1 (Ev.local hn hk (Ev.local hn hu (Ev.eq_alike lk ld (by omega) al k))))
set_option maxHeartbeats 2000000 in
theorem walk4 (hd : law4 = some (body, scope)) (c : Top4 w mg mb g0) (r : Room A 20) {m : Str → Option Value} {scr : Addr} {vs : List Value} {ns : List Int} {P : Flow → Heap → Prop}
    (hn : h.Ns L m) (st : Stay g0 h) (hgL : g0.get? L = none) (hs : m "script" = some (.ref scr)) (hsl : g0.IsList scr vs.toArray) (hvs : IntsAre vs ns) (hlen : vs.length ≤ 63) (T1 : Tab h 55 p54 q54)
    (k : ∀ h', Stay g0 h' → GrownAt 55 h' → P (.ret (.bool true)) h') :
    Ev (model pg4 w) A (execs body (envOf "law" scope L fa cd)) h P := by
  rw [body4 hd]
  have lL := ltN4 hn
  have hL55 : L ≠ 55 := tab_ns4 hn T1
  have l55 := (Plain.tab T1).lt
  -- rows = ..
  refine Ev.cons (rows4 hd hn fun h1 h2 h3 h4 h5 w0 w1 b0 b1 q1 k1 z1 q2 k2 z2 q3 k3 z3 q4 k4 z4 hn5 k5 => ?_)
  have k04 : Keep [] h h4 := ((k1.trans k2).trans k3).trans k4
  have z5 := k5.size
  have l0 := ((((q1.keep k2 (by simp)).keep k3 (by simp)).keep k4 (by simp))).keep k5 (ni (by omega))
  have l1 := (((q2.keep k3 (by simp)).keep k4 (by simp))).keep k5 (ni (by omega))
  have l2 := (q3.keep k4 (by simp)).keep k5 (ni (by omega))
  have lR : Lst h5 h3.objs.size (refs3 (tri h.objs.size h1.objs.size h2.objs.size)) := q4.keep k5 (ni (by omega))
  have hr : ∀ i, i < 3 → ∃ vs, Lst h5 (tri h.objs.size h1.objs.size h2.objs.size i) vs ∧ Bts vs (rows0 i) := tri_all (Q := fun i z => ∃ vs, Lst h5 z vs ∧ Bts vs (rows0 i)) ⟨_, l0, b0⟩ ⟨_, l1, b1⟩ ⟨_, l2, .nil⟩
  have k05 : Keep [L] h h5 := k04.nil.trans k5
  have T5 := T1.keep k05 (ni hL55.symm) (all1 (.ns hn))
  have st5 := st.keep k05 (all1 hgL)
  -- queues = ..
  refine Ev.cons (queues4 hd c r hn5 upd_same lR hr fun h6 Q qa k6 hn6 lQ lQs o1 o2 o3 hq => ?_)
  have z6 := k6.size
  have T6 := T5.keep k6 (ni hL55.symm) (all1 (.ns hn5))
  have st6 := st5.keep k6 (all1 hgL)
  have l0' := l0.keep k6 (ni (by omega)); have l1' := l1.keep k6 (ni (by omega)); have l2' := l2.keep k6 (ni (by omega)); have lR' := lR.keep k6 (ni (by omega))
  obtain ⟨v0, p0, e0⟩ := hq 0 (by omega)
  obtain ⟨v1, p1, e1⟩ := hq 1 (by omega)
  obtain ⟨v2, p2, e2⟩ := hq 2 (by omega)
  have lq2 := p2.lt
  have pl : ∀ {z : Addr} {us : List Value}, Lst h6 z us → Plain h6 z := fun x => .isList x.isList
  -- sources = ..
  refine Ev.cons (sources4 hd c r hn6 st6 hgL hL55 upd_same lQ (by omega) T6 [h3.objs.size, h.objs.size, h1.objs.size, h2.objs.size, qa 0, qa 1, qa 2]
    (seven (Q := fun z => Plain h6 z ∧ z ≠ 55) ⟨pl lR', by omega⟩ ⟨pl l0', by omega⟩ ⟨pl l1', by omega⟩ ⟨pl l2', by omega⟩ ⟨pl p0, by omega⟩ ⟨pl p1, by omega⟩ ⟨pl p2, by omega⟩) fun h7 S xa X k7 hn7 lS lSs st7 T7 LX X0X rd => ?_)
  have z7 := k7.size
  have kp7 : ∀ {z : Nat} {us : List Value}, Lst h6 z us → 55 < z → L ≠ z → Lst h7 z us := fun x n1 n2 => x.keep k7 (ni2 n2.symm (by omega))
  have lS7 := lS.lt
  -- kept = []
  refine Ev.cons (kept4 hd hn7 fun h8 h9 q8 k8 z8 hn9 k9 => ?_)
  -- dues = []
  refine Ev.cons (dues4 hd hn9 fun h10 h11 q10 k10 z10 hn11 k11 => ?_)
  have z9 := k9.size
  have z11 := k11.size
  have k7e : Keep [L] h7 h11 := ((k8.nil.trans k9).trans k10.nil).trans k11
  obtain ⟨ρ, g1, g2, g3, g4, g5, g6, g7, g8, g9, g10, g11, g12⟩ := role12 (L := L) (r0 := h.objs.size) (r1 := h1.objs.size) (r2 := h2.objs.size) (R := h3.objs.size) (Q := Q) (q0 := qa 0) (q1 := qa 1) (q2 := qa 2) (S := S) (K := h7.objs.size) (D := h9.objs.size) (by omega) (by omega) (by omega) (by omega) (by omega) (by omega) (by omega) (by omega) (by omega) (by omega) (by omega)
  have ke : ∀ {z : Nat} {us : List Value}, Lst h6 z us → 55 < z → L ≠ z → Lst h11 z us := fun x n1 n2 => (kp7 x n1 n2).keep k7e (ni n2.symm)
  have eR : Lst h11 h3.objs.size (refs3 (tri h.objs.size h1.objs.size h2.objs.size)) := ke lR' (by omega) (Nat.ne_of_lt (by omega))
  have eQ : Lst h11 Q (refs3 qa) := ke lQ (by omega) (Nat.ne_of_lt (by omega))
  have eS : Lst h11 S (refs3 xa) := lS.keep k7e (ni (by omega))
  have eK : Lst h11 h7.objs.size [] := ((q8.keep k9 (ni (by omega))).keep k10 (by simp)).keep k11 (ni (by omega))
  have eD : Lst h11 h9.objs.size [] := q10.keep k11 (ni (by omega))
  have f0 : Lst h11 (qa 0) v0 := ke p0 (by omega) (Nat.ne_of_lt (by omega))
  have f1 : Lst h11 (qa 1) v1 := ke p1 (by omega) (Nat.ne_of_lt (by omega))
  have f2 : Lst h11 (qa 2) v2 := ke p2 (by omega) (Nat.ne_of_lt (by omega))
  have d0 : Lst h11 h.objs.size w0 := ke l0' (by omega) (Nat.ne_of_lt (by omega))
  have d1 : Lst h11 h1.objs.size w1 := ke l1' (by omega) (Nat.ne_of_lt (by omega))
  have d2 : Lst h11 h2.objs.size [] := ke l2' (by omega) (Nat.ne_of_lt (by omega))
  have nn : ∀ {z : Nat}, h.objs.size ≤ z → g0.get? z = none := fun x => st.none x
  have nK := nn (show h.objs.size ≤ h7.objs.size by omega)
  have nD := nn (show h.objs.size ≤ h9.objs.size by omega)
  have nR := nn (show h.objs.size ≤ h3.objs.size by omega)
  have n0 := nn (show h.objs.size ≤ qa 0 by omega)
  have n1 := nn (show h.objs.size ≤ qa 1 by omega)
  have n2 := nn (show h.objs.size ≤ qa 2 by omega)
  have m0 := nn (Nat.le_refl _)
  have m1 := nn (show h.objs.size ≤ h1.objs.size by omega)
  have m2 := nn (show h.objs.size ≤ h2.objs.size by omega)
  have qlt : ∀ i, i < 3 → (qa i : Nat) < h7.objs.size := fn_all (f := qa) (Q := fun _ z => z < h7.objs.size) (by omega) (by omega) (by omega)
  have hp : Hp ⟨L, h3.objs.size, Q, S, h7.objs.size, h9.objs.size, qa, xa⟩ h11 ρ (tri h.objs.size h1.objs.size h2.objs.size) rows0 rows0 [] [] :=
    ⟨g1, ⟨eR.isList, g5⟩, ⟨eQ, g6⟩, ⟨eS, g10⟩, ⟨eK, g11⟩, ⟨eD, g12⟩,
      fn_all (Q := fun i z => ∃ vs, Lr h11 ρ (5 + i) z vs ∧ Bts vs (rows0 i)) ⟨_, ⟨f0, g7⟩, e0⟩ ⟨_, ⟨f1, g8⟩, e1⟩ ⟨_, ⟨f2, g9⟩, e2⟩,
      tri_all (Q := fun i z => ∃ vs, Lr h11 ρ (8 + i) z vs ∧ Bts vs (rows0 i)) ⟨_, ⟨d0, g2⟩, b0⟩ ⟨_, ⟨d1, g3⟩, b1⟩ ⟨_, ⟨d2, g4⟩, .nil⟩, .nil⟩
  have bs : Base ⟨L, h3.objs.size, Q, S, h7.objs.size, h9.objs.size, qa, xa⟩ X h7 (tri h.objs.size h1.objs.size h2.objs.size) h11 :=
    ⟨k7e.mono (all1 LX), LX, X0X _ (by simp), .inr (Nat.le_refl _), .inr (by show h7.objs.size ≤ h9.objs.size; omega), fn_all (Q := fun _ z => z ∈ X) (X0X _ (by simp)) (X0X _ (by simp)) (X0X _ (by simp)), tri_all (Q := fun _ z => z ∈ X ∨ h7.objs.size ≤ z) (.inl (X0X _ (by simp))) (.inl (X0X _ (by simp))) (.inl (X0X _ (by simp)))⟩
  have of : Off ⟨L, h3.objs.size, Q, S, h7.objs.size, h9.objs.size, qa, xa⟩ g0 (tri h.objs.size h1.objs.size h2.objs.size) :=
    ⟨hgL, nR, nK, nD, fn_all (Q := fun _ z => g0.get? z = none) n0 n1 n2, tri_all (Q := fun _ z => g0.get? z = none) m0 m1 m2⟩
  have gr : GrownAt 55 h11 := grown_keep (let ⟨ps, e, _⟩ := T7; ⟨ps, e⟩) k7e (ni hL55.symm)
  refine Ev.cons (loop4 (a := ⟨L, h3.objs.size, Q, S, h7.objs.size, h9.objs.size, qa, xa⟩) hd c r st7 rd qlt hn11 ?_ hsl hvs hlen ?_ ?_ ?_ ?_ ?_ hp bs of (st7.keep k7e (all1 hgL)) gr fun h12 m12 ρ12 ra12 rv12 ks ds hn12 sm12 hp12 st12 gr12 => ?_)
  · exact (upd_ne (by decide)).trans ((upd_ne (by decide)).trans ((upd_ne (by decide)).trans ((upd_ne (by decide)).trans ((upd_ne (by decide)).trans hs))))
  · exact (upd_ne (by decide)).trans ((upd_ne (by decide)).trans ((upd_ne (by decide)).trans ((upd_ne (by decide)).trans upd_same)))
  · exact (upd_ne (by decide)).trans ((upd_ne (by decide)).trans ((upd_ne (by decide)).trans upd_same))
  · exact (upd_ne (by decide)).trans ((upd_ne (by decide)).trans upd_same)
  · exact (upd_ne (by decide)).trans upd_same
  · exact upd_same
  have hul := r.line
  exact Ev.cons (ret4 hd r hn12 (sm12.kept.trans ((upd_ne (by decide)).trans upd_same)) (sm12.dues.trans upd_same) hp12.K.1 hp12.D.1 (fun g d tk os => hp12.T.alike (by show A.units + 1 < cLine; omega)) (k h12 st12 gr12))
end
theorem close4 {w : World} {s₁ : Shared} {tk : Nat} {g0 h₁ : Heap} {L fa scr : Addr} {cd : Value} {mg mb : Str → Option Value} {vs : List Value} {ns : List Int} {p : Program} {loose : List Str} {mean : ExcName → Option Value} {body : List Stmt} {scope : Scope}
    {Q : Flow → Shared → Prop} {E : Value → Shared → Prop} (hd : law4 = some (body, scope)) (X : (Mine.hd04.heap_39 w.params).In g0) (T : Top p loose mean mg mb g0) (F : Fr g0 L h₁ (fun x => List.lookup x [((Str.ofString "script"), Value.ref scr)])) (C2 : CodeHd g0 59 55)
    (N : News g0 L h₁ [(55, tabObj #[])]) (l : g0.IsList scr vs.toArray) (hI : IntsAre vs ns) (hc : ¬ ((63 : Int) < ns.length))
    (hQ : ∀ h' tk', Stay g0 h' → GrownAt 55 h' → Q (.ret (.bool true)) { s₁ with heap := h', toks := tk' }) :
    wpAny (model pg4 w) (callerA.deeper (envOf "law" scope L fa cd)) (execs body (envOf "law" scope L fa cd)) Q E { s₁ with heap := h₁, toks := tk } := by
  have n2 := N _ (.head _)
  have hlen : vs.length ≤ 63 := by rw [hI.length]; omega
  refine (walk4 (P := fun f h' => f = .ret (.bool true) ∧ Stay g0 h' ∧ GrownAt 55 h') hd ⟨⟨X, T.g, T.b, T.nolimit, T.builtins, T.bmain⟩, C2, n2.2.2⟩ ⟨rfl, of_decide_eq_true rfl, of_decide_eq_true rfl⟩ F.ns F.keep (Heap.get?_none_of_le F.above) rfl l hI hlen ⟨#[], n2.1, .inl rfl⟩ fun h' st t2 => ⟨rfl, st, t2⟩).wp ?_
  rintro v h' tk' ⟨rfl, st, t2⟩
  exact hQ h' tk' st t2
end Mine
set_option maxHeartbeats 8000000 in
theorem PySem.Challenge.cw_dm0149_04_holds : PySem.Challenge.rw_dm0149_04.Holds := by
  refine Mine.hd04 ?_
  k_go0
  refine @Mine.close4 _ _ _ _ _ _ _ _ _ _ _ _ _ _ _ _ _ _ _ _ rfl (by assumption) (by assumption) (by assumption) (by assumption) (by assumption) (by assumption) (by assumption) (by assumption) ?_
  intro h' tk' st g1
  refine ⟨⟨.inl ⟨_, .bool true, [], rfl, fun _ => rfl, .bool true, (by wrow_post), fun _ => ⟨List.nodup_nil, fun _ q => nomatch q⟩⟩, st, rfl, by assumption⟩, g1, trivial⟩
