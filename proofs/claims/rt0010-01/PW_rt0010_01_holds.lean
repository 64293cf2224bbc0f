import PyProof.Rows.All
import Wide.All
import OpenK.AllK
import Wide.FinOn
import PySem.Challenge.RW_rt0010_01
open PySem PySem.W PyProof.Rows PySem.Calls
set_option Elab.async false
set_option autoImplicit false
section

namespace Mine

/-! abstract values: immutable data is a value, what a def changes in place is a cell -/
inductive AVal where
  | none
  | bool (b : Bool)
  | int (i : Int)
  | bytes (b : List Nat)
  | cst (v : Value)
  | tup (xs : List AVal)
  | lst (xs : List AVal)
  | dct (es : List (Int × Int))
  | cell (i : Nat)
  deriving Inhabited

inductive ACell where
  | lst (xs : List AVal)
  | dct (es : List (Int × Int))
  | itL (xs : List AVal) (k : Nat)
  | itB (bs : List Nat) (k : Nat)
  | dead
  deriving Inhabited

structure ASt where
  loc : List (Option AVal)
  cells : List ACell

inductive AFlow where
  | next | brk | cont
  | ret (v : AVal)

/-- what stands fixed while the law runs -/
structure Amb where
  prog : Program
  w : World
  K : Frag
  H0 : Heap
  mg : Str → Option Value
  mb : Str → Option Value
  X : K.In H0
  g : H0.Ns mainGlobals mg
  b : H0.Ns builtinsNs mb
  nolimit : H0.NoLimit
  builtins : ∀ x : Str, x ≠ "__name__" → mb x = bootBuiltins x

noncomputable abbrev Amb.M (Z : Amb) : Model := model Z.prog Z.w
noncomputable abbrev Amb.ik (Z : Amb) : KeyKind Z.prog Z.w Int := intKind Z.prog Z.w

noncomputable def toNats (b : Array UInt8) : List Nat := b.toList.map UInt8.toNat

noncomputable def PTup (h : Heap) (a : Addr) (items : Array Value) : Prop := ∃ n, h.get? a = some { cls := .type "tuple", data := .seq items n }
theorem PTup.isTup {h : Heap} {a : Addr} {items : Array Value} (x : PTup h a items) : IsTup h a items := let ⟨n, e⟩ := x; ⟨_, e, rfl, n, rfl⟩
theorem PTup.at {h h' : Heap} {a : Addr} {items : Array Value} (x : PTup h a items) (hk : ∀ o, h.get? a = some o → h'.get? a = some o) : PTup h' a items := let ⟨n, e⟩ := x; ⟨n, hk _ e⟩

noncomputable def DVals (kvs : List (Int × Value)) (es : List (Int × Int)) : Prop := Paired (fun p q => p.1 = q.1 ∧ ∃ t, p.2 = Value.int q.2 t) kvs es

section
variable (Z : Amb)

mutual
inductive VRel (h : Heap) (D γ : List Addr) : Value → AVal → Prop
  | none : VRel h D γ .none .none
  | bool (b : Bool) : VRel h D γ (.bool b) (.bool b)
  | int (i : Int) (t : Tok) : VRel h D γ (.int i t) (.int i)
  | bytes (b : Array UInt8) (t : Tok) : VRel h D γ (.bytes b t) (.bytes (toNats b))
  | cst (v : Value) : VRel h D γ v (.cst v)
  | tup {a : Addr} {vs : List Value} {xs : List AVal} (ha : a ∉ D) (ho : PTup h a vs.toArray) (hv : VRels h D γ vs xs) : VRel h D γ (.ref a) (.tup xs)
  | lst {a : Addr} {vs : List Value} {xs : List AVal} (ha : a ∉ D) (ho : h.PlainList a vs.toArray) (hv : VRels h D γ vs xs) : VRel h D γ (.ref a) (.lst xs)
  | dct {a : Addr} {kvs : List (Int × Value)} {es : List (Int × Int)} (ha : a ∉ D) (hs : a ≠ sysModules) (ho : h.DictOf Z.ik a kvs) (hv : DVals kvs es) : VRel h D γ (.ref a) (.dct es)
  | cell {i : Nat} {a : Addr} (hi : γ[i]? = some a) : VRel h D γ (.ref a) (.cell i)
inductive VRels (h : Heap) (D γ : List Addr) : List Value → List AVal → Prop
  | nil : VRels h D γ [] []
  | cons {v : Value} {a : AVal} {vs : List Value} {as : List AVal} (hv : VRel h D γ v a) (hvs : VRels h D γ vs as) : VRels h D γ (v :: vs) (a :: as)
end
end

section
variable {Z : Amb}

theorem isTup_at {h h' : Heap} {a : Addr} {items : Array Value} (x : IsTup h a items) (e : ∀ o, h.get? a = some o → h'.get? a = some o) : IsTup h' a items := let ⟨o, ho, r⟩ := x; ⟨o, e _ ho, r⟩
theorem dictOf_at {K : Type} [DecidableEq K] {prog : Program} {w : World} {knd : KeyKind prog w K} {h h' : Heap} {a : Addr} {kvs : List (K × Value)} (x : h.DictOf knd a kvs) (e : ∀ o, h.get? a = some o → h'.get? a = some o) : h'.DictOf knd a kvs :=
  let ⟨o, es, ep, ho, r⟩ := x; ⟨o, es, ep, e _ ho, r⟩

mutual
theorem VRel.mono {h h' : Heap} {D γ : List Addr} (hk : ∀ b o, b ∉ D → h.get? b = some o → h'.get? b = some o) : ∀ {v : Value} {a : AVal}, VRel Z h D γ v a → VRel Z h' D γ v a
  | _, _, .none => .none
  | _, _, .bool b => .bool b
  | _, _, .int i t => .int i t
  | _, _, .bytes b t => .bytes b t
  | _, _, .cst v => .cst v
  | _, _, .tup ha ho hv => .tup ha (ho.at fun o e => hk _ o ha e) (VRels.mono hk hv)
  | _, _, .lst ha ho hv => .lst ha (ho.at fun o e => hk _ o ha e) (VRels.mono hk hv)
  | _, _, .dct ha hs ho hv => .dct ha hs (dictOf_at ho fun o e => hk _ o ha e) hv
  | _, _, .cell hi => .cell hi
theorem VRels.mono {h h' : Heap} {D γ : List Addr} (hk : ∀ b o, b ∉ D → h.get? b = some o → h'.get? b = some o) : ∀ {vs : List Value} {as : List AVal}, VRels Z h D γ vs as → VRels Z h' D γ vs as
  | _, _, .nil => .nil
  | _, _, .cons h1 h2 => .cons (VRel.mono hk h1) (VRels.mono hk h2)
end

theorem getElem?_append_some {α : Type} {l r : List α} {i : Nat} {a : α} (h : l[i]? = some a) : (l ++ r)[i]? = some a := by
  have := (List.getElem?_eq_some_iff.mp h).1
  rw [List.getElem?_append_left this]; exact h

mutual

theorem VRel.grow {h : Heap} {D D' γ ex : List Addr} (hD : ∀ a, a ∈ D' → a ∈ D ∨ h.get? a = none) : ∀ {v : Value} {a : AVal}, VRel Z h D γ v a → VRel Z h D' (γ ++ ex) v a
  | _, _, .none => .none
  | _, _, .bool b => .bool b
  | _, _, .int i t => .int i t
  | _, _, .bytes b t => .bytes b t
  | _, _, .cst v => .cst v
  | _, _, .tup ha ho hv => .tup (fun hm => (hD _ hm).elim ha fun e => by obtain ⟨o, q⟩ := ho; rw [e] at q; cases q) ho (VRels.grow hD hv)
  | _, _, .lst ha ho hv => .lst (fun hm => (hD _ hm).elim ha fun e => by obtain ⟨o, q⟩ := ho; rw [e] at q; cases q) ho (VRels.grow hD hv)
  | _, _, .dct ha hs ho hv => .dct (fun hm => (hD _ hm).elim ha fun e => by obtain ⟨o, _, _, q, _⟩ := ho; rw [e] at q; cases q) hs ho hv
  | _, _, .cell hi => .cell (getElem?_append_some hi)
theorem VRels.grow {h : Heap} {D D' γ ex : List Addr} (hD : ∀ a, a ∈ D' → a ∈ D ∨ h.get? a = none) : ∀ {vs : List Value} {as : List AVal}, VRels Z h D γ vs as → VRels Z h D' (γ ++ ex) vs as
  | _, _, .nil => .nil
  | _, _, .cons h1 h2 => .cons (VRel.grow hD h1) (VRels.grow hD h2)
end


mutual
noncomputable def AVal.under (n : Nat) : AVal → Prop
  | .tup xs => underAll n xs
  | .lst xs => underAll n xs
  | .cell i => i < n
  | _ => True
noncomputable def underAll (n : Nat) : List AVal → Prop
  | [] => True
  | x :: xs => x.under n ∧ underAll n xs
end

mutual

theorem VRel.shrink {h : Heap} {D D' γ ex : List Addr} (hD : ∀ a, a ∈ D' → a ∈ D) : ∀ {v : Value} {a : AVal}, VRel Z h D (γ ++ ex) v a → a.under γ.length → VRel Z h D' γ v a
  | _, _, .none, _ => .none
  | _, _, .bool b, _ => .bool b
  | _, _, .int i t, _ => .int i t
  | _, _, .bytes b t, _ => .bytes b t
  | _, _, .cst v, _ => .cst v
  | _, _, .tup ha ho hv, hb => .tup (fun hm => ha (hD _ hm)) ho (VRels.shrink hD hv (by simpa only [AVal.under] using hb))
  | _, _, .lst ha ho hv, hb => .lst (fun hm => ha (hD _ hm)) ho (VRels.shrink hD hv (by simpa only [AVal.under] using hb))
  | _, _, .dct ha hs ho hv, _ => .dct (fun hm => ha (hD _ hm)) hs ho hv
  | _, _, .cell hi, hb => .cell (by
      rw [AVal.under] at hb
      rwa [List.getElem?_append_left hb] at hi)
theorem VRels.shrink {h : Heap} {D D' γ ex : List Addr} (hD : ∀ a, a ∈ D' → a ∈ D) : ∀ {vs : List Value} {as : List AVal}, VRels Z h D (γ ++ ex) vs as → underAll γ.length as → VRels Z h D' γ vs as
  | _, _, .nil, _ => .nil
  | _, _, .cons h1 h2, hb => by
    have hb' := hb; simp only [underAll] at hb'
    exact .cons (VRel.shrink hD h1 hb'.1) (VRels.shrink hD h2 hb'.2)
end

theorem VRels.length {h : Heap} {D γ : List Addr} : ∀ {vs : List Value} {as : List AVal}, VRels Z h D γ vs as → vs.length = as.length
  | _, _, .nil => rfl
  | _, _, .cons _ t => by rw [List.length_cons, List.length_cons, VRels.length t]
theorem VRels.get {h : Heap} {D γ : List Addr} : ∀ {vs : List Value} {as : List AVal}, VRels Z h D γ vs as → ∀ {i : Nat} {a : AVal}, as[i]? = some a → ∃ v, vs[i]? = some v ∧ VRel Z h D γ v a
  | _, _, .nil, _, _, e => by simp at e
  | _, _, .cons h1 _, 0, a, e => by simp at e; subst e; exact ⟨_, rfl, h1⟩
  | _, _, .cons _ t, i + 1, a, e => by simp at e; obtain ⟨v, h1, h2⟩ := t.get e; exact ⟨v, by simpa using h1, h2⟩
theorem VRels.get' {h : Heap} {D γ : List Addr} : ∀ {vs : List Value} {as : List AVal}, VRels Z h D γ vs as → ∀ {i : Nat} {v : Value}, vs[i]? = some v → ∃ a, as[i]? = some a ∧ VRel Z h D γ v a
  | _, _, .nil, _, _, e => by simp at e
  | _, _, .cons h1 _, 0, a, e => by simp at e; subst e; exact ⟨_, rfl, h1⟩
  | _, _, .cons _ t, i + 1, a, e => by simp at e; obtain ⟨v, h1, h2⟩ := t.get' e; exact ⟨v, by simpa using h1, h2⟩
theorem VRels.append {h : Heap} {D γ : List Addr} : ∀ {vs : List Value} {as : List AVal} {vs' : List Value} {as' : List AVal}, VRels Z h D γ vs as → VRels Z h D γ vs' as' → VRels Z h D γ (vs ++ vs') (as ++ as')
  | _, _, _, _, .nil, k => k
  | _, _, _, _, .cons h1 t, k => .cons h1 (t.append k)
theorem VRels.take {h : Heap} {D γ : List Addr} : ∀ {vs : List Value} {as : List AVal} (n : Nat), VRels Z h D γ vs as → VRels Z h D γ (vs.take n) (as.take n)
  | _, _, 0, _ => by simpa using VRels.nil
  | _, _, _ + 1, .nil => by simpa using VRels.nil
  | _, _, n + 1, .cons h1 t => by simpa using VRels.cons h1 (t.take n)
theorem VRels.drop {h : Heap} {D γ : List Addr} : ∀ {vs : List Value} {as : List AVal} (n : Nat), VRels Z h D γ vs as → VRels Z h D γ (vs.drop n) (as.drop n)
  | _, _, 0, x => by simpa using x
  | _, _, _ + 1, .nil => by simpa using VRels.nil
  | _, _, n + 1, .cons _ t => by simpa using t.drop n
theorem VRels.set {h : Heap} {D γ : List Addr} : ∀ {vs : List Value} {as : List AVal} (i : Nat) {v : Value} {a : AVal}, VRels Z h D γ vs as → VRel Z h D γ v a → VRels Z h D γ (vs.set i v) (as.set i a)
  | _, _, 0, _, _, .nil, _ => by simpa using VRels.nil
  | _, _, _ + 1, _, _, .nil, _ => by simpa using VRels.nil
  | _, _, 0, _, _, .cons _ t, k => by simpa using VRels.cons k t
  | _, _, i + 1, _, _, .cons h1 t, k => by simpa using VRels.cons h1 (t.set i k)

/-! cells -/
inductive CellR (Z : Amb) (h : Heap) (D γ : List Addr) (a : Addr) : ACell → Prop
  | lst {vs : List Value} {xs : List AVal} (ho : h.PlainList a vs.toArray) (hv : VRels Z h D γ vs xs) : CellR Z h D γ a (.lst xs)
  | dct {kvs : List (Int × Value)} {es : List (Int × Int)} (hs : a ≠ sysModules) (ho : h.DictOf Z.ik a kvs) (hv : DVals kvs es) : CellR Z h D γ a (.dct es)
  | itL {l : Addr} {vs : List Value} {xs : List AVal} {k : Nat} (hi : h.IsListIter a l k) (hl : l ∉ D) (ho : h.PlainList l vs.toArray) (hv : VRels Z h D γ vs xs) : CellR Z h D γ a (.itL xs k)
  | itB {b : Array UInt8} {t : Tok} {k : Nat} (hi : KBw.IsBytesIter h a b t k) : CellR Z h D γ a (.itB (toNats b) k)
  | dead {o : Obj} (ho : h.get? a = some o) : CellR Z h D γ a .dead

theorem CellR.live {h : Heap} {D γ : List Addr} {a : Addr} {c : ACell} (x : CellR Z h D γ a c) : ∃ o, h.get? a = some o := by
  cases x with
  | lst ho _ => obtain ⟨o, e⟩ := ho; exact ⟨_, e⟩
  | dct _ ho _ => obtain ⟨o, _, _, e, _⟩ := ho; exact ⟨o, e⟩
  | itL hi _ _ _ => obtain ⟨o, e, _⟩ := hi; exact ⟨o, e⟩
  | itB hi => obtain ⟨o, e, _⟩ := hi; exact ⟨o, e⟩
  | dead ho => exact ⟨_, ho⟩

theorem CellR.mono {h h' : Heap} {D γ : List Addr} {a : Addr} {c : ACell} (x : CellR Z h D γ a c) (hk : ∀ b o, b ∉ D → h.get? b = some o → h'.get? b = some o) (ha : ∀ o, h.get? a = some o → h'.get? a = some o) : CellR Z h' D γ a c := by
  cases x with
  | lst ho hv => exact .lst (ho.at ha) (hv.mono hk)
  | dct hs ho hv => exact .dct hs (dictOf_at ho ha) hv
  | itL hi hl ho hv => exact .itL (hi.at ha) hl (ho.at fun o e => hk _ o hl e) (hv.mono hk)
  | itB hi => obtain ⟨o, e, r⟩ := hi; exact .itB ⟨o, ha _ e, r⟩
  | dead ho => exact .dead (ha _ ho)
theorem CellR.grow {h : Heap} {D D' γ ex : List Addr} {a : Addr} {c : ACell} (x : CellR Z h D γ a c) (hD : ∀ a, a ∈ D' → a ∈ D ∨ h.get? a = none) : CellR Z h D' (γ ++ ex) a c := by
  cases x with
  | lst ho hv => exact .lst ho (hv.grow hD)
  | dct hs ho hv => exact .dct hs ho hv
  | itL hi hl ho hv => exact .itL hi (fun hm => (hD _ hm).elim hl fun e => by obtain ⟨o, q⟩ := ho; rw [e] at q; cases q) ho (hv.grow hD)
  | itB hi => exact .itB hi
  | dead ho => exact .dead ho

noncomputable def CellsR (Z : Amb) (h : Heap) (D γ : List Addr) (cells : List ACell) : Prop := γ.length = cells.length ∧ ∀ (i : Nat) (a : Addr) (c : ACell), γ[i]? = some a → cells[i]? = some c → CellR Z h D γ a c

theorem CellsR.at {h : Heap} {D γ : List Addr} {cells : List ACell} (x : CellsR Z h D γ cells) {i : Nat} {a : Addr} (hi : γ[i]? = some a) : ∃ c, cells[i]? = some c ∧ CellR Z h D γ a c := by
  have hlt := (List.getElem?_eq_some_iff.mp hi).1
  have hlt' : i < cells.length := x.1 ▸ hlt
  exact ⟨cells[i]'hlt', List.getElem?_eq_getElem hlt', x.2 i a _ hi (List.getElem?_eq_getElem hlt')⟩
theorem CellsR.live {h : Heap} {D γ : List Addr} {cells : List ACell} (x : CellsR Z h D γ cells) {a : Addr} (ha : a ∈ γ) : ∃ o, h.get? a = some o := by
  obtain ⟨i, hi⟩ := List.mem_iff_getElem?.mp ha
  obtain ⟨c, _, hc⟩ := x.at hi
  exact hc.live
theorem CellsR.mono {h h' : Heap} {D γ : List Addr} {cells : List ACell} (x : CellsR Z h D γ cells) (hk : ∀ b o, b ∉ D → h.get? b = some o → h'.get? b = some o) (hg : ∀ a ∈ γ, ∀ o, h.get? a = some o → h'.get? a = some o) : CellsR Z h' D γ cells :=
  ⟨x.1, fun i a c h1 h2 => (x.2 i a c h1 h2).mono hk (hg a (List.mem_of_getElem? h1))⟩
end
end Mine

end
section

namespace Mine

structure Sx where
  sc : Scope
  vars : List Str
  wv : List Str

structure Room (A : Around) (k : Nat) : Prop where
  handled : A.handled = none
  depth : A.depth + k < recursionLimit
  units : A.units + 10 * k + 20 < cLine

theorem Room.mono {A : Around} {k k' : Nat} (h : Room A k) (hk : k' ≤ k) : Room A k' := ⟨h.handled, by have := h.depth; omega, by have := h.units; omega⟩
theorem Room.deeper {A : Around} {k : Nat} {env : Env} (h : Room A (k + 1)) : Room (A.deeper env) k :=
  ⟨h.handled, by have := h.depth; show A.depth + 1 + k < _; omega, by have := h.units; show A.units + 3 + _ + _ < _; omega⟩

section
variable (Z : Amb) (S : Sx)

inductive NsOk (L : Addr) (D γ : List Addr) (st : ASt) (h : Heap) : Prop
  | mk (m : Str → Option Value) (hn : h.Ns L m) (hv : ∀ (i : Nat) (x : Str), S.vars[i]? = some x → S.sc.names.lookup x = some .local → ∀ av, st.loc[i]? = some (some av) → ∃ v, m x = some v ∧ VRel Z h D γ v av)
inductive ClOk (x : Str) (i : Nat) (env : Env) (D γ : List Addr) (st : ASt) (h : Heap) : Prop
  | mk (c : Addr) (vo : Option Value) (e1 : env.cells.lookup x = some c) (e2 : h.IsCell c vo) (e3 : ∀ av, st.loc[i]? = some (some av) → ∃ v, vo = some v ∧ VRel Z h D γ v av)

structure Rel (env : Env) (own D γ : List Addr) (st : ASt) (h : Heap) : Prop where
  kind : S.sc.kind = .function
  esc : env.scope = S.sc
  eg : env.globals = mainGlobals
  eb : env.builtins = builtinsNs
  vnd : S.vars.Nodup
  Lown : env.locals ∈ own
  ownD : ∀ a ∈ own, a ∈ D
  γD : ∀ a ∈ γ, a ∈ D
  γnd : γ.Nodup
  ownγ : ∀ a ∈ own, a ∉ γ
  cap : ∀ (x : Str) (c : Addr), env.cells.lookup x = some c → c ∈ D ∧ c ≠ env.locals ∧ c ∉ γ
  apart : ∀ (x y : Str) (c : Addr), env.cells.lookup x = some c → env.cells.lookup y = some c → x = y
  ownc : ∀ x ∈ S.wv, ∀ (c : Addr), env.cells.lookup x = some c → c ∈ own
  base : ∀ b o, Z.H0.get? b = some o → h.get? b = some o
  live : ∀ d ∈ D, Z.H0.get? d = none ∧ ∃ o, h.get? d = some o
  ns : NsOk Z S env.locals D γ st h
  cl : ∀ (i : Nat) (x : Str), S.vars[i]? = some x → (S.sc.names.lookup x = some .cell ∨ S.sc.names.lookup x = some .free) → ClOk Z x i env D γ st h
  cells : CellsR Z h D γ st.cells

inductive Kp (s s' : Shared) : Prop
  | mk (h' : Heap) (tk : Nat) (e : s' = { s with heap := h', toks := tk }) (k : ∀ b o, s.heap.get? b = some o → h'.get? b = some o)

/-- a pure expression: nothing that stood is changed -/
noncomputable def RP (k : Nat) (e : Expr) (f : ASt → Option AVal) : Prop :=
  ∀ {A : Around} {env : Env} {own D γ : List Addr} {st : ASt} {s : Shared} {a : AVal} {E : Value → Shared → Prop}, f st = some a → Rel Z S env own D γ st s.heap → Room A k →
    wpAny Z.M A (eval e env) (fun v s' => Kp s s' ∧ VRel Z s'.heap D γ v a) E s

/-- a pure test -/
noncomputable def RT (k : Nat) (e : Expr) (f : ASt → Option Bool) : Prop :=
  ∀ {A : Around} {env : Env} {own D γ : List Addr} {st : ASt} {s : Shared} {b : Bool} {E : Value → Shared → Prop}, f st = some b → Rel Z S env own D γ st s.heap → Room A k →
    wpAny Z.M A (isTrue e env (eval e env)) (fun v s' => Kp s s' ∧ v = b) E s

inductive Chg (L : List Addr) (s s' : Shared) : Prop
  | mk (h' : Heap) (tk : Nat) (e : s' = { s with heap := h', toks := tk }) (k : ∀ b o, b ∉ L → s.heap.get? b = some o → h'.get? b = some o)

inductive FRel (h : Heap) (D γ : List Addr) : Flow → AFlow → Prop
  | next : FRel h D γ .next .next
  | brk : FRel h D γ .brk .brk
  | cont : FRel h D γ .cont .cont
  | ret {v : Value} {a : AVal} (hv : VRel Z h D γ v a) : FRel h D γ (.ret v) (.ret a)

inductive After (env : Env) (own D γ : List Addr) (s : Shared) (fl : AFlow) (st' : ASt) (x : Flow) (s' : Shared) : Prop
  | mk (ex : List Addr) (c : Chg (own ++ γ) s s') (f : ∀ a ∈ ex, s.heap.get? a = none) (r : Rel Z S env own (D ++ ex) (γ ++ ex) st' s'.heap) (q : FRel Z s'.heap (D ++ ex) (γ ++ ex) x fl)

noncomputable def RSs (k : Nat) (ss : List Stmt) (f : ASt → Option (AFlow × ASt)) : Prop :=
  ∀ {A : Around} {env : Env} {own D γ : List Addr} {st : ASt} {s : Shared} {fl : AFlow} {st' : ASt} {E : Value → Shared → Prop}, f st = some (fl, st') → Rel Z S env own D γ st s.heap → Room A k →
    wpAny Z.M A (execs ss env) (After Z S env own D γ s fl st') E s

noncomputable def RSt (k : Nat) (t : Stmt) (f : ASt → Option (AFlow × ASt)) : Prop :=
  ∀ {A : Around} {env : Env} {own D γ : List Addr} {st : ASt} {s : Shared} {fl : AFlow} {st' : ASt} {E : Value → Shared → Prop}, f st = some (fl, st') → Rel Z S env own D γ st s.heap → Room A k →
    wpAny Z.M A (exec t env) (After Z S env own D γ s fl st') E s
end

section
variable {Z : Amb} {S : Sx}

theorem Kp.refl (s : Shared) : Kp s s := ⟨s.heap, s.toks, rfl, fun _ _ e => e⟩
theorem Kp.trans {s s' s'' : Shared} (x : Kp s s') (y : Kp s' s'') : Kp s s'' := by
  obtain ⟨h1, t1, rfl, k1⟩ := x
  obtain ⟨h2, t2, rfl, k2⟩ := y
  exact ⟨h2, t2, rfl, fun b o e => k2 b o (k1 b o e)⟩
theorem Kp.get {s s' : Shared} (x : Kp s s') {b : Addr} {o : Obj} (e : s.heap.get? b = some o) : s'.heap.get? b = some o := by
  obtain ⟨h1, t1, rfl, k1⟩ := x; exact k1 b o e
theorem Kp.chg {s s' : Shared} (x : Kp s s') (L : List Addr) : Chg L s s' := by
  obtain ⟨h1, t1, rfl, k1⟩ := x; exact ⟨h1, t1, rfl, fun b o _ e => k1 b o e⟩
theorem Kp.toks (s : Shared) (t : Nat) : Kp s { s with toks := t } := ⟨s.heap, t, rfl, fun _ _ e => e⟩
theorem Chg.trans {L L' : List Addr} {s s' s'' : Shared} (x : Chg L s s') (y : Chg L' s' s'') (hL : ∀ b ∈ L', b ∈ L ∨ s.heap.get? b = none) : Chg L s s'' := by
  obtain ⟨h1, t1, rfl, k1⟩ := x
  obtain ⟨h2, t2, rfl, k2⟩ := y
  exact ⟨h2, t2, rfl, fun b o hb e => k2 b o (fun hm => (hL b hm).elim hb fun q => by rw [q] at e; cases e) (k1 b o hb e)⟩
theorem Chg.get {L : List Addr} {s s' : Shared} (x : Chg L s s') {b : Addr} {o : Obj} (hb : b ∉ L) (e : s.heap.get? b = some o) : s'.heap.get? b = some o := by
  obtain ⟨h1, t1, rfl, k1⟩ := x; exact k1 b o hb e

theorem VRel.keeps {h h' : Heap} {D γ : List Addr} {v : Value} {a : AVal} (x : VRel Z h D γ v a) (hk : ∀ b o, h.get? b = some o → h'.get? b = some o) : VRel Z h' D γ v a := x.mono fun b o _ e => hk b o e
theorem VRels.keeps {h h' : Heap} {D γ : List Addr} {v : List Value} {a : List AVal} (x : VRels Z h D γ v a) (hk : ∀ b o, h.get? b = some o → h'.get? b = some o) : VRels Z h' D γ v a := x.mono fun b o _ e => hk b o e

theorem Rel.keeps {env : Env} {own D γ : List Addr} {st : ASt} {h h' : Heap} (x : Rel Z S env own D γ st h) (hk : ∀ b o, h.get? b = some o → h'.get? b = some o) : Rel Z S env own D γ st h' :=
  { x with
    base := fun b o e => hk b o (x.base b o e)
    live := fun d hd => ⟨(x.live d hd).1, let ⟨o, e⟩ := (x.live d hd).2; ⟨o, hk d o e⟩⟩
    ns := let ⟨m, hn, hv⟩ := x.ns; ⟨m, hn.keeps hk, fun i y h1 h2 av h3 => let ⟨v, e, r⟩ := hv i y h1 h2 av h3; ⟨v, e, r.keeps hk⟩⟩
    cl := fun i y h1 h2 => let ⟨c, vo, e1, e2, e3⟩ := x.cl i y h1 h2; ⟨c, vo, e1, e2.keeps hk, fun av h3 => let ⟨v, e, r⟩ := e3 av h3; ⟨v, e, r.keeps hk⟩⟩
    cells := x.cells.mono (fun b o _ e => hk b o e) fun _ _ o e => hk _ o e }

theorem Rel.keeps' {env : Env} {own D γ : List Addr} {st : ASt} {s s' : Shared} (x : Rel Z S env own D γ st s.heap) (hk : Kp s s') : Rel Z S env own D γ st s'.heap := x.keeps fun _ _ e => hk.get e

/-- pure, then what follows -/
theorem RP.use {k : Nat} {e : Expr} {f : ASt → Option AVal} (R : RP Z S k e f) {A : Around} {env : Env} {own D γ : List Addr} {st : ASt} {s : Shared} {a : AVal} {E : Value → Shared → Prop} {Q : Value → Shared → Prop}
    (hf : f st = some a) (r : Rel Z S env own D γ st s.heap) (hr : Room A k) (h : ∀ v s', Kp s s' → VRel Z s'.heap D γ v a → Q v s') : wpAny Z.M A (eval e env) Q E s :=
  wpAny_mono (R hf r hr) (fun v s' x => h v s' x.1 x.2) fun _ _ x => x
theorem RT.use {k : Nat} {e : Expr} {f : ASt → Option Bool} (R : RT Z S k e f) {A : Around} {env : Env} {own D γ : List Addr} {st : ASt} {s : Shared} {b : Bool} {E : Value → Shared → Prop} {Q : Bool → Shared → Prop}
    (hf : f st = some b) (r : Rel Z S env own D γ st s.heap) (hr : Room A k) (h : ∀ s', Kp s s' → Q b s') : wpAny Z.M A (isTrue e env (eval e env)) Q E s :=
  wpAny_mono (R hf r hr) (fun v s' x => by obtain ⟨x1, rfl⟩ := x; exact h s' x1) fun _ _ x => x

/-! names -/
noncomputable def ldv (i : Nat) (st : ASt) : Option AVal := (st.loc[i]?).bind id

theorem ldv_some {i : Nat} {st : ASt} {a : AVal} (h : ldv i st = some a) : st.loc[i]? = some (some a) := by
  unfold ldv at h
  cases q : st.loc[i]? with
  | none => rw [q] at h; cases h
  | some o => rw [q] at h; exact congrArg some h

theorem loadVar {A : Around} {env : Env} {own D γ : List Addr} {st : ASt} {s : Shared} {a : AVal} {E : Value → Shared → Prop} {Q : Value → Shared → Prop} {i : Nat} {x : Str} {kd : NameKind}
    (hi : S.vars[i]? = some x) (hk : S.sc.names.lookup x = some kd) (hkd : kd = .local ∨ kd = .cell ∨ kd = .free) (hc : (x == ("__classdict__" : Str)) = false)
    (hf : ldv i st = some a) (r : Rel Z S env own D γ st s.heap) (h : ∀ v, VRel Z s.heap D γ v a → Q v s) : wpAny Z.M A (loadName env x) Q E s := by
  have hsc : env.scope.kind = .function := by rw [r.esc]; exact r.kind
  have hko : ∀ kd, S.sc.names.lookup x = some kd → env.kindOf x = some kd := fun kd q => by unfold Env.kindOf; rw [r.esc]; exact q
  have hl := ldv_some hf
  rcases hkd with rfl | rfl | rfl
  · obtain ⟨m, hn, hv⟩ := r.ns
    obtain ⟨v, e, rv⟩ := hv i x hi hk a hl
    exact wpAny_loadName_local hsc (hko _ hk) hn e (h v rv)
  · obtain ⟨c, vo, e1, e2, e3⟩ := r.cl i x hi (.inl hk)
    obtain ⟨v, rfl, rv⟩ := e3 a hl
    exact wpAny_loadName_cell hsc (hko _ hk) e1 e2 (h v rv)
  · obtain ⟨c, vo, e1, e2, e3⟩ := r.cl i x hi (.inr hk)
    obtain ⟨v, rfl, rv⟩ := e3 a hl
    exact wpAny_loadName_free hsc (hko _ hk) e1 e2 (h v rv) hc

theorem rp_loc {k i : Nat} {x : Str} {kd : NameKind} {pos : Pos} (hi : S.vars[i]? = some x) (hk : S.sc.names.lookup x = some kd) (hkd : kd = .local ∨ kd = .cell ∨ kd = .free) (hd : (x == ("__debug__" : Str)) = false)
    (hc : (x == ("__classdict__" : Str)) = false) : RP Z S k (.Name x pos) (ldv i) := fun hf r _ => wpAny_Name (loadVar hi hk hkd hc hf r fun _ rv => ⟨Kp.refl _, rv⟩) hd

theorem rp_glob {k : Nat} {x : Str} {pos : Pos} {v : Value} (hx : S.sc.names.lookup x = some .globalImplicit) (hv : Z.mg x = some v) (hd : (x == ("__debug__" : Str)) = false) : RP Z S k (.Name x pos) (fun _ => some (.cst v)) := by
  intro A env own D γ st s a E hf r _
  cases hf
  refine Name_function_global (by rw [r.esc]; exact r.kind) (by unfold Env.kindOf; rw [r.esc]; exact hx) (loadGlobal_global (mg := Z.mg) ?_ hv ⟨Kp.refl _, .cst v⟩) hd
  rw [r.eg]; exact Z.g.keeps r.base

theorem rp_blt {k : Nat} {x : Str} {pos : Pos} {v : Value} (hx : S.sc.names.lookup x = some .globalImplicit) (hm : Z.mg x = none) (hv : bootBuiltins x = some v) (hn : x ≠ "__name__") (hd : (x == ("__debug__" : Str)) = false) :
    RP Z S k (.Name x pos) (fun _ => some (.cst v)) := by
  intro A env own D γ st s a E hf r _
  cases hf
  refine Name_function_global (by rw [r.esc]; exact r.kind) (by unfold Env.kindOf; rw [r.esc]; exact hx) (loadGlobal_builtin (mg := Z.mg) (mb := Z.mb) ?_ hm ?_ ((Z.builtins x hn).trans hv) ⟨Kp.refl _, .cst v⟩) hd
  · rw [r.eg]; exact Z.g.keeps r.base
  · rw [r.eb]; exact Z.b.keeps r.base

/-! constants -/
theorem rp_int {k : Nat} {i : Int} {u : Nat} {pos : Pos} : RP Z S k (.Constant (.int i) u pos) (fun _ => some (.int i)) := by
  intro A env own D γ st s a E hf r _
  cases hf
  exact wpAny_Constant_int ⟨Kp.toks _ _, .int _ _⟩
theorem rp_bool {k : Nat} {b : Bool} {u : Nat} {pos : Pos} : RP Z S k (.Constant (.bool b) u pos) (fun _ => some (.bool b)) := by
  intro A env own D γ st s a E hf r _
  cases hf
  show wpAny _ _ (pure (Value.bool b)) _ _ _
  exact wpAny_pure ⟨Kp.refl _, .bool _⟩
theorem rp_none {k : Nat} {u : Nat} {pos : Pos} : RP Z S k (.Constant .none u pos) (fun _ => some .none) := by
  intro A env own D γ st s a E hf r _
  cases hf
  show wpAny _ _ (pure Value.none) _ _ _
  exact wpAny_pure ⟨Kp.refl _, .none⟩

/-! two operands -/
noncomputable abbrev Op2 := List ACell → AVal → AVal → Option AVal
noncomputable def bin2 (g : Op2) (f₁ f₂ : ASt → Option AVal) (st : ASt) : Option AVal := do let a ← f₁ st; let b ← f₂ st; g st.cells a b

inductive Bin2 (g : Op2) (f₁ f₂ : ASt → Option AVal) (st : ASt) (c : AVal) : Prop
  | mk (a b : AVal) (h1 : f₁ st = some a) (h2 : f₂ st = some b) (h3 : g st.cells a b = some c)
theorem bin2_some {g : Op2} {f₁ f₂ : ASt → Option AVal} {st : ASt} {c : AVal} (h : bin2 g f₁ f₂ st = some c) : Bin2 g f₁ f₂ st c := by
  unfold bin2 at h
  cases h1 : f₁ st with
  | none => rw [h1] at h; cases h
  | some a => cases h2 : f₂ st with
    | none => rw [h1, h2] at h; cases h
    | some b => rw [h1, h2] at h; exact ⟨a, b, h1, h2, h⟩

/-- the heap at large -/
structure Wd (Z : Amb) (D γ : List Addr) (cs : List ACell) (h : Heap) : Prop where
  base : ∀ b o, Z.H0.get? b = some o → h.get? b = some o
  live : ∀ d ∈ D, Z.H0.get? d = none ∧ ∃ o, h.get? d = some o
  γD : ∀ a ∈ γ, a ∈ D
  γnd : γ.Nodup
  cells : CellsR Z h D γ cs

theorem Rel.wd {env : Env} {own D γ : List Addr} {st : ASt} {h : Heap} (r : Rel Z S env own D γ st h) : Wd Z D γ st.cells h := ⟨r.base, r.live, r.γD, r.γnd, r.cells⟩
theorem Wd.keeps {D γ : List Addr} {cs : List ACell} {h h' : Heap} (x : Wd Z D γ cs h) (hk : ∀ b o, h.get? b = some o → h'.get? b = some o) : Wd Z D γ cs h' :=
  { x with
    base := fun b o e => hk b o (x.base b o e)
    live := fun d hd => ⟨(x.live d hd).1, let ⟨o, e⟩ := (x.live d hd).2; ⟨o, hk d o e⟩⟩
    cells := x.cells.mono (fun b o _ e => hk b o e) fun _ _ o e => hk _ o e }
theorem Wd.fresh {D γ : List Addr} {cs : List ACell} {h : Heap} (x : Wd Z D γ cs h) {a : Addr} (ha : h.get? a = none) : a ∉ D := fun hm => by
  obtain ⟨o, e⟩ := (x.live a hm).2
  rw [ha] at e; cases e
theorem none_of_size {h : Heap} {a : Addr} (ha : h.objs.size ≤ a) : h.get? a = none := by
  cases e : h.get? a with
  | none => rfl
  | some o => exact absurd (Heap.lt_size e) (Nat.not_lt.mpr ha)
theorem Wd.new {D γ : List Addr} {cs : List ACell} {h : Heap} (x : Wd Z D γ cs h) : h.objs.size ∉ D := x.fresh (none_of_size (Nat.le_refl _))

/-- an operation upon two values -/
noncomputable def ROp (Z : Amb) (k : Nat) (t : Value → Value → Sem Value) (g : Op2) : Prop :=
  ∀ {A : Around} {D γ : List Addr} {s : Shared} {v w : Value} {a b c : AVal} {cs : List ACell} {E : Value → Shared → Prop}, g cs a b = some c → VRel Z s.heap D γ v a → VRel Z s.heap D γ w b → Wd Z D γ cs s.heap → Room A k →
    wpAny Z.M A (t v w) (fun v s' => Kp s s' ∧ VRel Z s'.heap D γ v c) E s
noncomputable def ROp1 (Z : Amb) (k : Nat) (t : Value → Sem Value) (g : List ACell → AVal → Option AVal) : Prop :=
  ∀ {A : Around} {D γ : List Addr} {s : Shared} {v : Value} {a c : AVal} {cs : List ACell} {E : Value → Shared → Prop}, g cs a = some c → VRel Z s.heap D γ v a → Wd Z D γ cs s.heap → Room A k →
    wpAny Z.M A (t v) (fun v s' => Kp s s' ∧ VRel Z s'.heap D γ v c) E s
/-- a function of a row of values -/
noncomputable def RFn (Z : Amb) (k : Nat) (t : List Value → Sem Value) (g : List ACell → List AVal → Option AVal) : Prop :=
  ∀ {A : Around} {D γ : List Addr} {s : Shared} {vs : List Value} {as : List AVal} {c : AVal} {cs : List ACell} {E : Value → Shared → Prop}, g cs as = some c → VRels Z s.heap D γ vs as → Wd Z D γ cs s.heap → Room A k →
    wpAny Z.M A (t vs) (fun v s' => Kp s s' ∧ VRel Z s'.heap D γ v c) E s

theorem rp_bin {k : Nat} {l r : Expr} {op : Operator} {pos : Pos} {f₁ f₂ : ASt → Option AVal} {g : Op2} (R₁ : RP Z S k l f₁) (R₂ : RP Z S k r f₂) (hg : ROp Z k (binaryOp op) g) :
    RP Z S k (.BinOp l op r pos) (bin2 g f₁ f₂) := by
  intro A env own D γ st s c E hf rl hr
  obtain ⟨a, b, h1, h2, h3⟩ := bin2_some hf
  refine wpAny_BinOp (R₁.use h1 rl hr fun v s1 k1 v1 => R₂.use h2 (rl.keeps' k1) hr fun u s2 k2 v2 => ?_)
  exact wpAny_mono (hg h3 (v1.keeps fun _ _ e => k2.get e) v2 ((rl.keeps' k1).keeps' k2).wd hr) (fun x s' h => ⟨(k1.trans k2).trans h.1, h.2⟩) fun _ _ x => x

theorem rp_cmp {k : Nat} {l r : Expr} {op : CmpOp} {pos : Pos} {f₁ f₂ : ASt → Option AVal} {g : Op2} (R₁ : RP Z S k l f₁) (R₂ : RP Z S k r f₂) (hg : ROp Z k (compareOp op) g)
    (hm : behindInMarks op r = false) : RP Z S k (.Compare l [op] [r] pos) (bin2 g f₁ f₂) := by
  intro A env own D γ st s c E hf rl hr
  obtain ⟨a, b, h1, h2, h3⟩ := bin2_some hf
  refine wpAny_Compare1 (R₁.use h1 rl hr fun v s1 k1 v1 => R₂.use h2 (rl.keeps' k1) hr fun u s2 k2 v2 => ?_) hm
  exact wpAny_mono (hg h3 (v1.keeps fun _ _ e => k2.get e) v2 ((rl.keeps' k1).keeps' k2).wd hr) (fun x s' h => ⟨(k1.trans k2).trans h.1, h.2⟩) fun _ _ x => x

/-! tests -/
noncomputable def tcmp (g : Op2) (f₁ f₂ : ASt → Option AVal) (st : ASt) : Option Bool := match bin2 g f₁ f₂ st with
  | some (.bool b) => some b
  | _ => none
theorem rt_cmp {k : Nat} {l r : Expr} {op : CmpOp} {pos : Pos} {f₁ f₂ : ASt → Option AVal} {g : Op2} (R₁ : RP Z S k l f₁) (R₂ : RP Z S k r f₂) (hg : ROp Z k (compareOp op) g)
    (hm : behindInMarks op r = false) : RT Z S k (.Compare l [op] [r] pos) (tcmp g f₁ f₂) := by
  intro A env own D γ st s c E hf rl hr
  unfold tcmp at hf
  split at hf
  · rename_i x hq
    cases hf
    obtain ⟨a, b, h1, h2, h3⟩ := bin2_some hq
    refine wpAny_isTrue_Compare1 (R₁.use h1 rl hr fun v s1 k1 v1 => R₂.use h2 (rl.keeps' k1) hr fun u s2 k2 v2 => ?_) hm
    refine wpAny_mono (hg h3 (v1.keeps fun _ _ e => k2.get e) v2 ((rl.keeps' k1).keeps' k2).wd hr) (fun x s' h => ?_) fun _ _ x => x
    obtain ⟨k3, hv⟩ := h
    cases hv
    exact wpAny_truthy_bool ⟨(k1.trans k2).trans k3, rfl⟩
  · cases hf
end
end Mine

end
section

namespace Mine
section
variable {Z : Amb}

/-! what a value is -/
inductive Ex2 {α : Type} (p q : α → Prop) : Prop
  | mk (a : α) (h1 : p a) (h2 : q a)
inductive IsByt (v : Value) (l : List Nat) : Prop
  | mk (b : Array UInt8) (t : Tok) (e : v = .bytes b t) (h : toNats b = l)
inductive IsLst (Z : Amb) (h : Heap) (D γ : List Addr) (v : Value) (xs : List AVal) : Prop
  | mk (a : Addr) (vs : List Value) (e : v = .ref a) (h1 : a ∉ D) (h2 : h.PlainList a vs.toArray) (h3 : VRels Z h D γ vs xs)
inductive IsTup (Z : Amb) (h : Heap) (D γ : List Addr) (v : Value) (xs : List AVal) : Prop
  | mk (a : Addr) (vs : List Value) (e : v = .ref a) (h1 : a ∉ D) (h2 : PTup h a vs.toArray) (h3 : VRels Z h D γ vs xs)
inductive IsDct (Z : Amb) (h : Heap) (D : List Addr) (v : Value) (es : List (Int × Int)) : Prop
  | mk (a : Addr) (kvs : List (Int × Value)) (e : v = .ref a) (h1 : a ∉ D) (h2 : a ≠ sysModules) (h3 : h.DictOf Z.ik a kvs) (h4 : DVals kvs es)
inductive IsCons (Z : Amb) (h : Heap) (D γ : List Addr) (vs : List Value) (a : AVal) (as : List AVal) : Prop
  | mk (v : Value) (vs' : List Value) (e : vs = v :: vs') (h1 : VRel Z h D γ v a ∧ VRels Z h D γ vs' as)
inductive CDct (Z : Amb) (h : Heap) (a : Addr) (es : List (Int × Int)) : Prop
  | mk (kvs : List (Int × Value)) (h2 : a ≠ sysModules) (h3 : h.DictOf Z.ik a kvs) (h4 : DVals kvs es)
inductive CItL (Z : Amb) (h : Heap) (D γ : List Addr) (a : Addr) (xs : List AVal) (k : Nat) : Prop
  | mk (l : Addr) (vs : List Value) (h1 : h.IsListIter a l k) (h2 : l ∉ D) (h3 : h.PlainList l vs.toArray) (h4 : VRels Z h D γ vs xs)
inductive LstOf (Z : Amb) (h : Heap) (D γ : List Addr) (v : Value) (xs : List AVal) : Prop
  | mk (l : Addr) (vs : List Value) (e : v = .ref l) (h1 : h.PlainList l vs.toArray) (h2 : VRels Z h D γ vs xs)
inductive DctOf (Z : Amb) (h : Heap) (v : Value) (es : List (Int × Int)) : Prop
  | mk (l : Addr) (kvs : List (Int × Value)) (e : v = .ref l) (h2 : l ≠ sysModules) (h3 : h.DictOf Z.ik l kvs) (h4 : DVals kvs es)
theorem vrel_int {h : Heap} {D γ : List Addr} {v : Value} {i : Int} (x : VRel Z h D γ v (.int i)) : ∃ t, v = .int i t := by cases x; exact ⟨_, rfl⟩
theorem vrel_bool {h : Heap} {D γ : List Addr} {v : Value} {b : Bool} (x : VRel Z h D γ v (.bool b)) : v = .bool b := by cases x; rfl
theorem vrel_none {h : Heap} {D γ : List Addr} {v : Value} (x : VRel Z h D γ v .none) : v = .none := by cases x; rfl
theorem vrel_cst {h : Heap} {D γ : List Addr} {v u : Value} (x : VRel Z h D γ v (.cst u)) : v = u := by cases x; rfl
theorem vrel_bytes {h : Heap} {D γ : List Addr} {v : Value} {l : List Nat} (x : VRel Z h D γ v (.bytes l)) : IsByt v l := by cases x; exact ⟨_, _, rfl, rfl⟩
theorem vrel_lst {h : Heap} {D γ : List Addr} {v : Value} {xs : List AVal} (x : VRel Z h D γ v (.lst xs)) : IsLst Z h D γ v xs := by
  cases x with | lst h1 h2 h3 => exact ⟨_, _, rfl, h1, h2, h3⟩
theorem vrel_tup {h : Heap} {D γ : List Addr} {v : Value} {xs : List AVal} (x : VRel Z h D γ v (.tup xs)) : IsTup Z h D γ v xs := by
  cases x with | tup h1 h2 h3 => exact ⟨_, _, rfl, h1, h2, h3⟩
theorem vrel_dct {h : Heap} {D γ : List Addr} {v : Value} {es : List (Int × Int)} (x : VRel Z h D γ v (.dct es)) : IsDct Z h D v es := by
  cases x with | dct h1 h2 h3 h4 => exact ⟨_, _, rfl, h1, h2, h3, h4⟩
theorem vrel_cell {h : Heap} {D γ : List Addr} {v : Value} {i : Nat} (x : VRel Z h D γ v (.cell i)) : Ex2 (fun a : Addr => v = .ref a) (fun a => γ[i]? = some a) := by
  cases x with | cell h1 => exact ⟨_, rfl, h1⟩
theorem vrels_nil {h : Heap} {D γ : List Addr} {vs : List Value} (x : VRels Z h D γ vs []) : vs = [] := by cases x; rfl
theorem vrels_cons {h : Heap} {D γ : List Addr} {vs : List Value} {a : AVal} {as : List AVal} (x : VRels Z h D γ vs (a :: as)) : IsCons Z h D γ vs a as := by
  cases x with | cons h1 h2 => exact ⟨_, _, rfl, h1, h2⟩
inductive Vs1 (Z : Amb) (h : Heap) (D γ : List Addr) (vs : List Value) (a : AVal) : Prop
  | mk (u : Value) (e : vs = [u]) (h1 : VRel Z h D γ u a)
inductive Vs2 (Z : Amb) (h : Heap) (D γ : List Addr) (vs : List Value) (a b : AVal) : Prop
  | mk (u v : Value) (e : vs = [u, v]) (h1 : VRel Z h D γ u a) (h2 : VRel Z h D γ v b)
inductive Vs3 (Z : Amb) (h : Heap) (D γ : List Addr) (vs : List Value) (a b c : AVal) : Prop
  | mk (u v w : Value) (e : vs = [u, v, w]) (h1 : VRel Z h D γ u a) (h2 : VRel Z h D γ v b) (h3 : VRel Z h D γ w c)
theorem vrels_1 {h : Heap} {D γ : List Addr} {vs : List Value} {a : AVal} (x : VRels Z h D γ vs [a]) : Vs1 Z h D γ vs a := by
  cases x with | cons h1 h2 => cases h2; exact ⟨_, rfl, h1⟩
theorem vrels_2 {h : Heap} {D γ : List Addr} {vs : List Value} {a b : AVal} (x : VRels Z h D γ vs [a, b]) : Vs2 Z h D γ vs a b := by
  cases x with | cons h1 h2 => obtain ⟨_, rfl, h3⟩ := vrels_1 h2; exact ⟨_, _, rfl, h1, h3⟩
theorem vrels_3 {h : Heap} {D γ : List Addr} {vs : List Value} {a b c : AVal} (x : VRels Z h D γ vs [a, b, c]) : Vs3 Z h D γ vs a b c := by
  cases x with | cons h1 h2 => obtain ⟨_, _, rfl, h3, h4⟩ := vrels_2 h2; exact ⟨_, _, _, rfl, h1, h3, h4⟩

theorem cell_lst {h : Heap} {D γ : List Addr} {a : Addr} {xs : List AVal} (x : CellR Z h D γ a (.lst xs)) : Ex2 (fun vs : List Value => h.PlainList a vs.toArray) (fun vs => VRels Z h D γ vs xs) := by
  cases x with | lst h1 h2 => exact ⟨_, h1, h2⟩
theorem cell_dct {h : Heap} {D γ : List Addr} {a : Addr} {es : List (Int × Int)} (x : CellR Z h D γ a (.dct es)) : CDct Z h a es := by
  cases x with | dct h1 h2 h3 => exact ⟨_, h1, h2, h3⟩
theorem cell_itL {h : Heap} {D γ : List Addr} {a : Addr} {xs : List AVal} {k : Nat} (x : CellR Z h D γ a (.itL xs k)) : CItL Z h D γ a xs k := by
  cases x with | itL h1 h2 h3 h4 => exact ⟨_, _, h1, h2, h3, h4⟩
theorem cell_itB {h : Heap} {D γ : List Addr} {a : Addr} {bs : List Nat} {k : Nat} (x : CellR Z h D γ a (.itB bs k)) : ∃ b t, toNats b = bs ∧ KBw.IsBytesIter h a b t k := by
  cases x with | itB h1 => exact ⟨_, _, rfl, h1⟩

/-! views of an abstract value -/
noncomputable def AVal.int? : AVal → Option Int
  | .int i => some i
  | _ => Option.none
noncomputable def AVal.lst? : AVal → Option (List AVal)
  | .lst xs => some xs
  | _ => Option.none
noncomputable def AVal.tup? : AVal → Option (List AVal)
  | .tup xs => some xs
  | _ => Option.none
noncomputable def AVal.dct? : AVal → Option (List (Int × Int))
  | .dct es => some es
  | _ => Option.none
noncomputable def AVal.bytes? : AVal → Option (List Nat)
  | .bytes b => some b
  | _ => Option.none
noncomputable def AVal.cell? : AVal → Option Nat
  | .cell i => some i
  | _ => Option.none
noncomputable def ACell.lst? : ACell → Option (List AVal)
  | .lst xs => some xs
  | _ => none
noncomputable def ACell.dct? : ACell → Option (List (Int × Int))
  | .dct es => some es
  | _ => none
theorem int?_some {a : AVal} {i : Int} (h : a.int? = some i) : a = .int i := by cases a <;> first | rfl | (cases h; rfl) | cases h
theorem lst?_some {a : AVal} {i : List AVal} (h : a.lst? = some i) : a = .lst i := by cases a <;> first | rfl | (cases h; rfl) | cases h
theorem tup?_some {a : AVal} {i : List AVal} (h : a.tup? = some i) : a = .tup i := by cases a <;> first | rfl | (cases h; rfl) | cases h
theorem dct?_some {a : AVal} {i : List (Int × Int)} (h : a.dct? = some i) : a = .dct i := by cases a <;> first | rfl | (cases h; rfl) | cases h
theorem bytes?_some {a : AVal} {i : List Nat} (h : a.bytes? = some i) : a = .bytes i := by cases a <;> first | rfl | (cases h; rfl) | cases h
theorem cell?_some {a : AVal} {i : Nat} (h : a.cell? = some i) : a = .cell i := by cases a <;> first | rfl | (cases h; rfl) | cases h
theorem clst?_some {a : ACell} {i : List AVal} (h : a.lst? = some i) : a = .lst i := by cases a <;> first | rfl | (cases h; rfl) | cases h
theorem cdct?_some {a : ACell} {i : List (Int × Int)} (h : a.dct? = some i) : a = .dct i := by cases a <;> first | rfl | (cases h; rfl) | cases h

theorem bind_some {α β : Type} {x : Option α} {f : α → Option β} {b : β} (h : x.bind f = some b) : Ex2 (fun a => x = some a) (fun a => f a = some b) := by
  cases x with
  | none => cases h
  | some a => exact ⟨a, rfl, h⟩
theorem ite_some {α : Type} {c : Prop} [Decidable c] {x : Option α} {b : α} (h : (if c then x else none) = some b) : c ∧ x = some b := by
  by_cases hc : c
  · rw [if_pos hc] at h; exact ⟨hc, h⟩
  · rw [if_neg hc] at h; cases h

/-- a list value, or a list cell -/
noncomputable def lstOf (cs : List ACell) (a : AVal) : Option (List AVal) := match a.lst? with
  | some xs => some xs
  | none => a.cell?.bind fun i => cs[i]?.bind ACell.lst?
theorem lstOf_wp {h : Heap} {D γ : List Addr} {cs : List ACell} {v : Value} {a : AVal} {xs : List AVal} (hg : lstOf cs a = some xs) (hv : VRel Z h D γ v a) (w : Wd Z D γ cs h) :
    LstOf Z h D γ v xs := by
  unfold lstOf at hg
  split at hg
  · rename_i ys q
    cases hg
    obtain rfl := lst?_some q
    obtain ⟨l, vs, e, _, h1, h2⟩ := vrel_lst hv
    exact ⟨l, vs, e, h1, h2⟩
  · obtain ⟨i, q1, q2⟩ := bind_some hg
    obtain ⟨c, q3, q4⟩ := bind_some q2
    obtain rfl := cell?_some q1
    obtain rfl := clst?_some q4
    obtain ⟨l, e, hi⟩ := vrel_cell hv
    obtain ⟨vs, h1, h2⟩ := cell_lst (w.cells.2 i l _ hi q3)
    exact ⟨l, vs, e, h1, h2⟩
/-- a dict value, or a dict cell -/
noncomputable def dctOf (cs : List ACell) (a : AVal) : Option (List (Int × Int)) := match a.dct? with
  | some xs => some xs
  | none => a.cell?.bind fun i => cs[i]?.bind ACell.dct?
theorem dctOf_wp {h : Heap} {D γ : List Addr} {cs : List ACell} {v : Value} {a : AVal} {es : List (Int × Int)} (hg : dctOf cs a = some es) (hv : VRel Z h D γ v a) (w : Wd Z D γ cs h) :
    DctOf Z h v es := by
  unfold dctOf at hg
  split at hg
  · rename_i ys q
    cases hg
    obtain rfl := dct?_some q
    obtain ⟨l, vs, e, _, h1, h2, h3⟩ := vrel_dct hv
    exact ⟨l, vs, e, h1, h2, h3⟩
  · obtain ⟨i, q1, q2⟩ := bind_some hg
    obtain ⟨c, q3, q4⟩ := bind_some q2
    obtain rfl := cell?_some q1
    obtain rfl := cdct?_some q4
    obtain ⟨l, e, hi⟩ := vrel_cell hv
    obtain ⟨vs, h1, h2, h3⟩ := cell_dct (w.cells.2 i l _ hi q3)
    exact ⟨l, vs, e, h1, h2, h3⟩

/-! ints -/
noncomputable def g2i (f : Int → Int → Option AVal) : Op2 := fun _ a b => a.int?.bind fun x => b.int?.bind fun y => f x y
theorem rop_int {k : Nat} {tm : Value → Value → Sem Value} {f : Int → Int → Option AVal}
    (h : ∀ {A : Around} {s : Shared} {x y : Int} {t u : Tok} {c : AVal} {E : Value → Shared → Prop} {Q : Value → Shared → Prop}, f x y = some c → (∀ v tk, (∀ (h : Heap) (D γ : List Addr), VRel Z h D γ v c) → Q v { s with toks := tk }) → wpAny Z.M A (tm (.int x t) (.int y u)) Q E s) : ROp Z k tm (g2i f) := by
  intro A D γ s v w a b c cs E hg hv hw _ _
  obtain ⟨x, q1, hg⟩ := bind_some hg
  obtain ⟨y, q2, hg⟩ := bind_some hg
  obtain rfl := int?_some q1
  obtain rfl := int?_some q2
  obtain ⟨t, rfl⟩ := vrel_int hv
  obtain ⟨u, rfl⟩ := vrel_int hw
  exact h hg fun v tk hv => ⟨Kp.toks _ _, hv _ _ _⟩
/-- one or the other -/
noncomputable def gEither (g g' : Op2) : Op2 := fun cs a b => match g cs a b with
  | some c => some c
  | none => g' cs a b
theorem rop_either {k : Nat} {tm : Value → Value → Sem Value} {g g' : Op2} (h : ROp Z k tm g) (h' : ROp Z k tm g') : ROp Z k tm (gEither g g') := by
  intro A D γ s v w a b c cs E hg hv hw wd hr
  unfold gEither at hg
  split at hg
  · rename_i q; cases hg; exact h q hv hw wd hr
  · exact h' hg hv hw wd hr

noncomputable def gSub : Op2 := g2i fun a b => some (.int (a - b))
noncomputable def gDiv : Op2 := g2i fun a b => if 0 < b ∧ b < 1000000 then some (.int (a / b)) else none
noncomputable def gMod : Op2 := g2i fun a b => if 0 < b ∧ b < 1000000 then some (.int (a % b)) else none
noncomputable def gShl : Op2 := g2i fun a b => if 0 ≤ b ∧ b ≤ 64 ∧ a.natAbs < 2 ^ 62 then some (.int (a * 2 ^ b.toNat)) else none
noncomputable def gShr : Op2 := g2i fun a b => if 0 ≤ b then some (.int (a.fdiv (2 ^ b.toNat))) else none
noncomputable def gAnd : Op2 := g2i fun a b => some (.int (Builtin.bitAnd a b))
noncomputable def gOr : Op2 := g2i fun a b => some (.int (Builtin.bitOr a b))
noncomputable def gLe : Op2 := g2i fun a b => some (.bool (decide (a ≤ b)))
noncomputable def gGt : Op2 := g2i fun a b => some (.bool (decide (b < a)))
noncomputable def gGe : Op2 := g2i fun a b => some (.bool (decide (b ≤ a)))

theorem intBits_small {a : Int} (h : a.natAbs < 2 ^ 62) : Builtin.Int.intBits a ≤ 64 := PySem.intBits_le_64 (by omega) (by omega)

theorem op_sub {k : Nat} : ROp Z k (binaryOp .Sub) gSub := rop_int fun hc hq => by cases hc; exact P.sub_int (hq _ _ fun _ _ _ => .int _ _)
theorem op_and {k : Nat} : ROp Z k (binaryOp .BitAnd) gAnd := rop_int fun hc hq => by cases hc; exact and_int (hq _ _ fun _ _ _ => .int _ _)
theorem op_or {k : Nat} : ROp Z k (binaryOp .BitOr) gOr := rop_int fun hc hq => by cases hc; exact or_int (hq _ _ fun _ _ _ => .int _ _)
theorem op_ior {k : Nat} : ROp Z k (inplaceOp .BitOr) gOr := rop_int fun hc hq => by cases hc; exact ior_int (hq _ _ fun _ _ _ => .int _ _)
theorem op_isub {k : Nat} : ROp Z k (inplaceOp .Sub) gSub := rop_int fun hc hq => by cases hc; exact isub_int (hq _ _ fun _ _ _ => .int _ _)
theorem op_le {k : Nat} : ROp Z k (compareOp .LtE) gLe := rop_int fun hc hq => by cases hc; exact P.le_int (hq _ _ fun _ _ _ => .bool _)
theorem op_gt {k : Nat} : ROp Z k (compareOp .Gt) gGt := rop_int fun hc hq => by cases hc; exact P.gt_int (hq _ _ fun _ _ _ => .bool _)
theorem op_ge {k : Nat} : ROp Z k (compareOp .GtE) gGe := rop_int fun hc hq => by cases hc; exact P.ge_int (hq _ _ fun _ _ _ => .bool _)
theorem op_shr {k : Nat} : ROp Z k (binaryOp .RShift) gShr := rop_int fun hc hq => by
  obtain ⟨h, hc⟩ := ite_some hc
  cases hc; exact rshift_int h (hq _ _ fun _ _ _ => .int _ _)
theorem shl_room {a b : Int} (h : 0 ≤ b ∧ b ≤ 64 ∧ a.natAbs < 2 ^ 62) : (Builtin.Int.intBits a : Int) + b ≤ 2 ^ 27 := by
  have := intBits_small h.2.2
  omega
theorem op_shl {k : Nat} : ROp Z k (binaryOp .LShift) gShl := rop_int fun hc hq => by
  obtain ⟨h, hc⟩ := ite_some hc
  cases hc; exact lshift_int h.1 (shl_room h) (hq _ _ fun _ _ _ => .int _ _)
theorem op_ishl {k : Nat} : ROp Z k (inplaceOp .LShift) gShl := rop_int fun hc hq => by
  obtain ⟨h, hc⟩ := ite_some hc
  cases hc; exact ilshift_int h.1 (shl_room h) (hq _ _ fun _ _ _ => .int _ _)
theorem pos_ne {b : Int} (h : 0 < b) : b ≠ 0 := by omega
theorem small_abs {b : Int} (h : 0 < b ∧ b < 1000000) : b.natAbs < 2 ^ 100 := by omega
theorem op_div {k : Nat} : ROp Z k (binaryOp .FloorDiv) gDiv := rop_int fun {A s x y t u c E Q} hc hq => by
  obtain ⟨h, hc⟩ := ite_some hc
  cases hc
  refine floordiv_int (pos_ne h.1) ?_ (.inl (PyProof.noPylong_small (by omega)))
  rw [Int.fdiv_eq_ediv_of_nonneg _ (Int.le_of_lt h.1)]
  exact hq _ _ fun _ _ _ => .int _ _
theorem op_mod {k : Nat} : ROp Z k (binaryOp .Mod) gMod := rop_int fun {A s x y t u c E Q} hc hq => by
  obtain ⟨h, hc⟩ := ite_some hc
  cases hc
  refine mod_int' (pos_ne h.1) ?_
  rw [Int.fmod_eq_emod_of_nonneg _ (Int.le_of_lt h.1)]
  exact hq _ _ fun _ _ _ => .int _ _
end
end Mine

end
section

namespace Mine
section
variable {Z : Amb} {S : Sx}

noncomputable def stv (i : Nat) (a : AVal) (st : ASt) : ASt := { st with loc := st.loc.set i (some a) }

theorem getElem?_set_cases {α : Type} {l : List α} {i j : Nat} {a b : α} (h : (l.set i a)[j]? = some b) : (i = j ∧ a = b) ∨ (i ≠ j ∧ l[j]? = some b) := by
  rw [List.getElem?_set] at h
  split at h
  · split at h
    · exact .inl ⟨by assumption, Option.some.inj h⟩
    · cases h
  · exact .inr ⟨by assumption, h⟩

theorem idx_of_nodup {l : List Str} (hn : l.Nodup) {i j : Nat} {x : Str} (hi : l[i]? = some x) (hj : l[j]? = some x) : i = j :=
  (List.getElem?_inj (List.getElem?_eq_some_iff.mp hi).1 hn).mp (hi.trans hj.symm)

theorem storeVar {A : Around} {env : Env} {own D γ : List Addr} {st : ASt} {s : Shared} {v : Value} {a : AVal} {E : Value → Shared → Prop} {Q : Unit → Shared → Prop} {i : Nat} {x : Str} {kd : NameKind}
    (hi : S.vars[i]? = some x) (hk : S.sc.names.lookup x = some kd) (hkd : kd = .local ∨ (kd = .cell ∧ x ∈ S.wv)) (r : Rel Z S env own D γ st s.heap) (hv : VRel Z s.heap D γ v a)
    (h : ∀ s', Chg own s s' → Rel Z S env own D γ (stv i a st) s'.heap → Q () s') : wpAny Z.M A (storeName env x v) Q E s := by
  have hsc : env.scope.kind = .function := by rw [r.esc]; exact r.kind
  have hko : env.kindOf x = some kd := by unfold Env.kindOf; rw [r.esc]; exact hk
  rcases hkd with rfl | ⟨rfl, hw⟩
  · obtain ⟨m, hn, hm⟩ := r.ns
    have LD := r.ownD _ r.Lown
    have Lγ := r.ownγ _ r.Lown
    refine wpAny_storeName_local hko hn (fun h' hn' hs => h _ ⟨h', _, rfl, fun b o hb e => hs.extBut b o (fun q => hb (q ▸ r.Lown)) e⟩ ?_) (by rw [hsc]; rfl)
    have kD : ∀ b o, b ∉ D → s.heap.get? b = some o → h'.get? b = some o := fun b o hb e => hs.extBut b o (fun q => hb (q ▸ LD)) e
    exact { r with
      base := fun b o e => by
        refine hs.extBut b o (fun q => ?_) (r.base b o e)
        have := (r.live _ LD).1
        rw [← q, e] at this; cases this
      live := fun d hd => ⟨(r.live d hd).1, by
        by_cases q : d = env.locals
        · subst q; obtain ⟨o, _, _, e, _⟩ := hn'; exact ⟨o, e⟩
        · obtain ⟨o, e⟩ := (r.live d hd).2; exact ⟨o, hs.extBut d o q e⟩⟩
      ns := ⟨_, hn', fun j y h1 h2 av h3 => by
        rcases getElem?_set_cases h3 with ⟨rfl, q⟩ | ⟨q, h4⟩
        · cases q
          have hy : y = x := Option.some.inj (h1.symm.trans hi)
          exact ⟨v, by simp [hy], hv.mono kD⟩
        · have hy : y ≠ x := fun e => q (idx_of_nodup r.vnd hi (e ▸ h1))
          obtain ⟨u, e, ru⟩ := hm j y h1 h2 av h4
          exact ⟨u, by simpa [hy] using e, ru.mono kD⟩⟩
      cl := fun j y h1 h2 => by
        obtain ⟨c, vo, e1, e2, e3⟩ := r.cl j y h1 h2
        refine ⟨c, vo, e1, e2.sameBut hs (r.cap _ _ e1).2.1, fun av h3 => ?_⟩
        rcases getElem?_set_cases h3 with ⟨rfl, q⟩ | ⟨q, h4⟩
        · have hy : y = x := Option.some.inj (h1.symm.trans hi)
          rw [hy, hk] at h2
          rcases h2 with h2 | h2 <;> cases h2
        · obtain ⟨u, e, ru⟩ := e3 av h4; exact ⟨u, e, ru.mono kD⟩
      cells := r.cells.mono kD fun b hb o e => hs.extBut b o (fun q => Lγ (q ▸ hb)) e }
  · obtain ⟨c, vo, e1, e2, e3⟩ := r.cl i x hi (.inl hk)
    obtain ⟨cD, cL, cγ⟩ := r.cap _ _ e1
    have co := r.ownc _ hw _ e1
    refine wpAny_storeName_cell hsc hko e1 e2 (fun h' hc hs => h _ ⟨h', _, rfl, fun b o hb e => hs.extBut b o (fun q => hb (q ▸ co)) e⟩ ?_)
    have kD : ∀ b o, b ∉ D → s.heap.get? b = some o → h'.get? b = some o := fun b o hb e => hs.extBut b o (fun q => hb (q ▸ cD)) e
    exact { r with
      base := fun b o e => by
        refine hs.extBut b o (fun q => ?_) (r.base b o e)
        have := (r.live _ cD).1
        rw [← q, e] at this; cases this
      live := fun d hd => ⟨(r.live d hd).1, by
        by_cases q : d = c
        · subst q; obtain ⟨o, e, _⟩ := hc; exact ⟨o, e⟩
        · obtain ⟨o, e⟩ := (r.live d hd).2; exact ⟨o, hs.extBut d o q e⟩⟩
      ns := by
        obtain ⟨m, hn, hm⟩ := r.ns
        refine ⟨m, hn.sameBut hs (Ne.symm cL), fun j y h1 h2 av h3 => ?_⟩
        rcases getElem?_set_cases h3 with ⟨rfl, q⟩ | ⟨q, h4⟩
        · have hy : y = x := Option.some.inj (h1.symm.trans hi)
          rw [hy, hk] at h2; cases h2
        · obtain ⟨u, e, ru⟩ := hm j y h1 h2 av h4
          exact ⟨u, e, ru.mono kD⟩
      cl := fun j y h1 h2 => by
        obtain ⟨c', vo', e1', e2', e3'⟩ := r.cl j y h1 h2
        by_cases q : c' = c
        · subst q
          have hy : y = x := r.apart _ _ _ e1' e1
          subst hy
          refine ⟨c', some v, e1', hc, fun av h3 => ?_⟩
          rcases getElem?_set_cases h3 with ⟨_, q⟩ | ⟨q, _⟩
          · cases q; exact ⟨v, rfl, hv.mono kD⟩
          · exact absurd (idx_of_nodup r.vnd hi h1) q
        · refine ⟨c', vo', e1', e2'.sameBut hs q, fun av h3 => ?_⟩
          rcases getElem?_set_cases h3 with ⟨rfl, _⟩ | ⟨_, h4⟩
          · have hy : y = x := Option.some.inj (h1.symm.trans hi)
            subst hy
            exact absurd (Option.some.inj (e1'.symm.trans e1)) q
          · obtain ⟨u, e, ru⟩ := e3' av h4; exact ⟨u, e, ru.mono kD⟩
      cells := r.cells.mono kD fun b hb o e => hs.extBut b o (fun q => cγ (q ▸ hb)) e }

/-! statements -/
theorem After.of_keep {env : Env} {own D γ : List Addr} {s s' : Shared} {st' : ASt} {fl : AFlow} {x : Flow} (hc : Chg (own ++ γ) s s') (r : Rel Z S env own D γ st' s'.heap) (hf : FRel Z s'.heap D γ x fl) :
    After Z S env own D γ s fl st' x s' := ⟨[], hc, by simp, by simpa using r, by simpa using hf⟩

theorem Chg.mono {L L' : List Addr} {s s' : Shared} (x : Chg L s s') (h : ∀ a ∈ L, a ∈ L') : Chg L' s s' := by
  obtain ⟨h', tk, e, k⟩ := x
  exact ⟨h', tk, e, fun b o hb q => k b o (fun m => hb (h b m)) q⟩

theorem After.trans {env : Env} {own D γ ex : List Addr} {s s1 s2 : Shared} {st1 st' : ASt} {fl : AFlow} {x : Flow} (hc : Chg (own ++ γ) s s1) (hex : ∀ a ∈ ex, s.heap.get? a = none) (r1 : Rel Z S env own (D ++ ex) (γ ++ ex) st1 s1.heap)
    (h : After Z S env own (D ++ ex) (γ ++ ex) s1 fl st' x s2) : After Z S env own D γ s fl st' x s2 := by
  obtain ⟨ex', c2, f2, r2, q2⟩ := h
  refine ⟨ex ++ ex', ?_, ?_, ?_, ?_⟩
  · refine hc.trans c2 fun b hb => ?_
    rcases List.mem_append.mp hb with h | h
    · exact .inl (List.mem_append_left _ h)
    · rcases List.mem_append.mp h with h | h
      · exact .inl (List.mem_append_right _ h)
      · exact .inr (hex b h)
  · intro a ha
    rcases List.mem_append.mp ha with h | h
    · exact hex a h
    · cases e : s.heap.get? a with
      | none => rfl
      | some o =>
        by_cases hm : a ∈ own ++ γ
        · have hD : a ∈ D ++ ex := by
            rcases List.mem_append.mp hm with q | q
            · exact r1.ownD _ q
            · exact r1.γD _ (List.mem_append_left _ q)
          obtain ⟨o', e'⟩ := (r1.live a hD).2
          rw [f2 a h] at e'; cases e'
        · have := hc.get hm e
          rw [f2 a h] at this; cases this
  · rw [← List.append_assoc, ← List.append_assoc]; exact r2
  · rw [← List.append_assoc, ← List.append_assoc]; exact q2

theorem After.trans0 {env : Env} {own D γ : List Addr} {s s1 s2 : Shared} {st1 st' : ASt} {fl : AFlow} {x : Flow} (hc : Chg (own ++ γ) s s1) (r1 : Rel Z S env own D γ st1 s1.heap)
    (h : After Z S env own D γ s1 fl st' x s2) : After Z S env own D γ s fl st' x s2 :=
  After.trans (ex := []) hc (by simp) (by simpa using r1) (by simpa using h)

/-! rows of statements -/
noncomputable abbrev AS := ASt → Option (AFlow × ASt)
noncomputable def sNil : AS := fun st => some (.next, st)
noncomputable def sSeq (f g : AS) : AS := fun st => match f st with
  | some (.next, st') => g st'
  | r => r

theorem rs_nil {k : Nat} : RSs Z S k [] sNil := by
  intro A env own D γ st s fl st' E hf r _
  cases hf
  exact wpAny_execs_nil (.of_keep ((Kp.refl s).chg _) r .next)

theorem rs_cons {k : Nat} {t : Stmt} {ts : List Stmt} {f g : AS} (h1 : RSt Z S k t f) (h2 : RSs Z S k ts g) : RSs Z S k (t :: ts) (sSeq f g) := by
  intro A env own D γ st s fl st' E hf r hr
  unfold sSeq at hf
  refine wpAny_execs_cons ?_
  cases q : f st with
  | none => rw [q] at hf; cases hf
  | some p =>
    obtain ⟨fl1, st1⟩ := p
    refine wpAny_mono (h1 q r hr) (fun x s1 ha => ?_) fun _ _ x => x
    obtain ⟨ex, hc, hex, r1, hfl⟩ := ha
    rw [q] at hf
    cases hfl with
    | next =>
      dsimp only at hf ⊢
      exact wpAny_mono (h2 hf r1 hr) (fun y s2 hb => After.trans hc hex r1 hb) fun _ _ x => x
    | brk => cases hf; exact ⟨ex, hc, hex, r1, .brk⟩
    | cont => cases hf; exact ⟨ex, hc, hex, r1, .cont⟩
    | ret hv => cases hf; exact ⟨ex, hc, hex, r1, .ret hv⟩

noncomputable def sAssign (i : Nat) (f : ASt → Option AVal) : AS := fun st => (f st).map fun a => (.next, stv i a st)

theorem rs_assign {k i : Nat} {x : Str} {kd : NameKind} {p pos : Pos} {e : Expr} {f : ASt → Option AVal} (R : RP Z S k e f) (hi : S.vars[i]? = some x) (hk : S.sc.names.lookup x = some kd) (hkd : kd = .local ∨ (kd = .cell ∧ x ∈ S.wv))
    (hs : ∀ env, swapsWith e (some (.Name x p)) pos.line env = pure false) : RSt Z S k (.Assign [.Name x p] e pos) (sAssign i f) := by
  intro A env own D γ st s fl st' E hf r hr
  unfold sAssign at hf
  cases q : f st with
  | none => rw [q] at hf; cases hf
  | some a =>
    rw [q] at hf; cases hf
    refine wpAny_Assign_Name (R.use q r hr fun v s1 k1 v1 => storeVar hi hk hkd (r.keeps' k1) v1 fun s2 c2 r2 => ?_) (hs env)
    exact .of_keep ((k1.chg _).trans c2 fun b hb => .inl (List.mem_append_left _ hb)) r2 .next

noncomputable def sRet (f : ASt → Option AVal) : AS := fun st => (f st).map fun a => (.ret a, st)
theorem rs_ret {k : Nat} {pos : Pos} {e : Expr} {f : ASt → Option AVal} (R : RP Z S k e f) : RSt Z S k (.Return (some e) pos) (sRet f) := by
  intro A env own D γ st s fl st' E hf r hr
  unfold sRet at hf
  cases q : f st with
  | none => rw [q] at hf; cases hf
  | some a =>
    rw [q] at hf; cases hf
    exact wpAny_Return_some (R.use q r hr fun v s1 k1 v1 => .of_keep (k1.chg _) (r.keeps' k1) (.ret v1))

noncomputable def sIf (c : ASt → Option Bool) (f g : AS) : AS := fun st => match c st with
  | some true => f st
  | some false => g st
  | none => none
theorem rs_if {k : Nat} {pos : Pos} {e : Expr} {b o : List Stmt} {c : ASt → Option Bool} {f g : AS} (R : RT Z S k e c) (h1 : RSs Z S k b f) (h2 : RSs Z S k o g) : RSt Z S k (.If e b o pos) (sIf c f g) := by
  intro A env own D γ st s fl st' E hf r hr
  unfold sIf at hf
  split at hf
  · rename_i q
    refine wpAny_If (R.use q r hr fun s1 k1 => ?_)
    exact wpAny_mono (h1 hf (r.keeps' k1) hr) (fun x s2 ha => After.trans0 (k1.chg _) (r.keeps' k1) ha) fun _ _ x => x
  · rename_i q
    refine wpAny_If (R.use q r hr fun s1 k1 => ?_)
    exact wpAny_mono (h2 hf (r.keeps' k1) hr) (fun x s2 ha => After.trans0 (k1.chg _) (r.keeps' k1) ha) fun _ _ x => x
  · cases hf

theorem rs_pass {k : Nat} {pos : Pos} : RSt Z S k (.Pass pos) sNil := by
  intro A env own D γ st s fl st' E hf r _
  cases hf
  exact wpAny_Pass (.of_keep ((Kp.refl s).chg _) r .next)
theorem rs_break {k : Nat} {pos : Pos} : RSt Z S k (.Break pos) (fun st => some (.brk, st)) := by
  intro A env own D γ st s fl st' E hf r _
  cases hf
  show wpAny _ _ (do standAt pos; pure Flow.brk) _ _ _
  exact wpAny_bind (wpAny_standAt (wpAny_pure (.of_keep ((Kp.refl s).chg _) r .brk)))
theorem rs_continue {k : Nat} {pos : Pos} : RSt Z S k (.Continue pos) (fun st => some (.cont, st)) := by
  intro A env own D γ st s fl st' E hf r _
  cases hf
  show wpAny _ _ (do standAt pos; pure Flow.cont) _ _ _
  exact wpAny_bind (wpAny_standAt (wpAny_pure (.of_keep ((Kp.refl s).chg _) r .cont)))

noncomputable def sWhile (c : ASt → Option Bool) (b : AS) : Nat → AS
  | 0, _ => none
  | n + 1, st => match c st with
    | some true => (match b st with
      | some (.next, st') => sWhile c b n st'
      | some (.cont, st') => sWhile c b n st'
      | some (.brk, st') => some (.next, st')
      | some (.ret v, st') => some (.ret v, st')
      | none => none)
    | some false => some (.next, st)
    | none => none

/-- how a loop goes on behind a turn -/
structure Turn (C : ASt → Prop) (fl : AFlow) (st' : ASt) (fl2 : AFlow) (st2 : ASt) : Prop where
  next : fl2 = .next → C st2
  cont : fl2 = .cont → C st2
  brk : fl2 = .brk → some (AFlow.next, st2) = some (fl, st')
  ret : ∀ v, fl2 = .ret v → some (AFlow.ret v, st2) = some (fl, st')
inductive TurnE (g : AS) (fl : AFlow) (st' : ASt) (o : Option (AFlow × ASt)) : Prop
  | mk (fl2 : AFlow) (st2 : ASt) (e : o = some (fl2, st2)) (t : Turn (fun st => g st = some (fl, st')) fl st' fl2 st2)
theorem turn_of {g : AS} {fl : AFlow} {st' : ASt} {o : Option (AFlow × ASt)} (h : (match o with
      | some (.next, st') => g st'
      | some (.cont, st') => g st'
      | some (.brk, st') => some (.next, st')
      | some (.ret v, st') => some (.ret v, st')
      | none => none) = some (fl, st')) : TurnE g fl st' o := by
  cases o with
  | none => cases h
  | some p =>
    obtain ⟨fl2, st2⟩ := p
    refine ⟨fl2, st2, rfl, ?_⟩
    cases fl2 with
    | next => exact ⟨fun _ => h, fun e => (nomatch e), fun e => (nomatch e), fun _ e => (nomatch e)⟩
    | cont => exact ⟨fun e => (nomatch e), fun _ => h, fun e => (nomatch e), fun _ e => (nomatch e)⟩
    | brk => exact ⟨fun e => (nomatch e), fun e => (nomatch e), fun _ => h, fun _ e => (nomatch e)⟩
    | ret v => exact ⟨fun e => (nomatch e), fun e => (nomatch e), fun e => (nomatch e), fun _ e => by cases e; exact h⟩
/-- a loop's state -/
inductive RelInv (Z : Amb) (S : Sx) (env : Env) (own D γ : List Addr) (s : Shared) (C : ASt → Prop) (s' : Shared) : Prop
  | mk (ex : List Addr) (st1 : ASt) (hq : C st1) (hc : Chg (own ++ γ) s s') (hex : ∀ a ∈ ex, s.heap.get? a = none) (r : Rel Z S env own (D ++ ex) (γ ++ ex) st1 s'.heap)
theorem RelInv.start {env : Env} {own D γ : List Addr} {s s' : Shared} {st : ASt} {C : ASt → Prop} (hq : C st) (hc : Chg (own ++ γ) s s') (r : Rel Z S env own D γ st s'.heap) : RelInv Z S env own D γ s C s' :=
  ⟨[], st, hq, hc, (fun _ h => nomatch h), by rw [List.append_nil, List.append_nil]; exact r⟩
theorem After.turn0 {env : Env} {own D γ : List Addr} {s s' : Shared} {fl fl2 : AFlow} {st' st2 : ASt} {x : Flow} (h : After Z S env own D γ s fl2 st2 x s') {C : ASt → Prop} (T : Turn C fl st' fl2 st2) {K : Flow → Prop}
    (k1 : C st2 → K .next ∧ K .cont) (k2 : After Z S env own D γ s fl st' .next s' → K .brk) (k3 : ∀ v, After Z S env own D γ s fl st' (.ret v) s' → K (.ret v)) : K x := by
  obtain ⟨ex, c, f, r, q⟩ := h
  cases q with
  | next => exact (k1 (T.next rfl)).1
  | cont => exact (k1 (T.cont rfl)).2
  | brk => have := T.brk rfl; cases this; exact k2 ⟨ex, c, f, r, .next⟩
  | ret hv => have := T.ret _ rfl; cases this; exact k3 _ ⟨ex, c, f, r, .ret hv⟩
theorem After.turn {env : Env} {own D γ : List Addr} {s s' : Shared} {fl fl2 : AFlow} {st' st2 : ASt} {x : Flow} (h : After Z S env own D γ s fl2 st2 x s') {C : ASt → Prop} (T : Turn C fl st' fl2 st2) {K : Flow → Prop}
    (k1 : RelInv Z S env own D γ s C s' → K .next ∧ K .cont) (k2 : After Z S env own D γ s fl st' .next s' → K .brk) (k3 : ∀ v, After Z S env own D γ s fl st' (.ret v) s' → K (.ret v)) : K x := by
  obtain ⟨ex, c, f, r, q⟩ := id h
  exact After.turn0 h T (fun hq => k1 ⟨ex, st2, hq, c, f, r⟩) k2 k3

theorem while_turn {k m : Nat} {e : Expr} {b : List Stmt} {c : ASt → Option Bool} {f : AS} (R : RT Z S k e c) (h1 : RSs Z S k b f) {A : Around} {env : Env} {own D γ : List Addr} {s s1 : Shared} {fl : AFlow} {st' : ASt} (hr : Room A k) {K K2 : Flow → Shared → Prop} {E : Value → Shared → Prop}
    (hI : RelInv Z S env own D γ s (fun st1 => sWhile c f m st1 = some (fl, st')) s1) (k1 : ∀ m', m' < m → ∀ s3, RelInv Z S env own D γ s (fun st1 => sWhile c f m' st1 = some (fl, st')) s3 → K .next s3 ∧ K .cont s3)
    (k2 : ∀ s3, After Z S env own D γ s fl st' .next s3 → K .brk s3 ∧ K2 .next s3) (k3 : ∀ v s3, After Z S env own D γ s fl st' (.ret v) s3 → K (.ret v) s3) :
    wpAny Z.M A (isTrue e env (eval e env)) (fun x s2 => if x = true then wpAny Z.M A (execs b env) K E s2 else wpAny Z.M A (execs [] env) K2 E s2) E s1 := by
  obtain ⟨ex, st1, hq, hc, hex, r1⟩ := hI
  cases m with
  | zero => cases hq
  | succ m =>
    unfold sWhile at hq
    split at hq
    · rename_i q
      refine R.use q r1 hr fun s2 kk => ?_
      rw [if_pos rfl]
      obtain ⟨fl2, st2, q2, T⟩ := turn_of hq
      exact wpAny_mono (h1 q2 (r1.keeps' kk) hr) (fun x s3 ha => After.turn (K := fun x => K x s3) (After.trans hc hex r1 (After.trans0 (kk.chg _) (r1.keeps' kk) ha)) T (fun i => k1 m (Nat.lt_succ_self _) s3 i) (fun a => (k2 s3 a).1) (fun v a => k3 v s3 a)) fun _ _ x => x
    · rename_i q
      cases hq
      refine R.use q r1 hr fun s2 kk => ?_
      rw [if_neg (by decide)]
      exact wpAny_execs_nil (k2 _ (After.trans hc hex r1 (.of_keep (kk.chg _) (r1.keeps' kk) .next))).2
    · cases hq
theorem rs_while {k n : Nat} {pos : Pos} {e : Expr} {b : List Stmt} {c : ASt → Option Bool} {f : AS} (R : RT Z S k e c) (h1 : RSs Z S k b f) : RSt Z S k (.While e b [] pos) (sWhile c f n) := by
  intro A env own D γ st s fl st' E hf r hr
  exact wpAny_While (codeAny_whileLoop (fun m s1 => RelInv Z S env own D γ s (fun st1 => sWhile c f m st1 = some (fl, st')) s1) (fun m s1 hI => while_turn R h1 hr hI (fun m' hm _ x => ⟨⟨m', hm, x⟩, ⟨m', hm, x⟩⟩) (fun _ x => ⟨x, x⟩) fun _ _ x => x) n
    (.start hf ((Kp.refl s).chg _) r))
end
end Mine

end
section

namespace Mine

mutual
noncomputable def AVal.underB (n : Nat) : AVal → Bool
  | .tup xs => underAllB n xs
  | .lst xs => underAllB n xs
  | .cell i => decide (i < n)
  | _ => true
noncomputable def underAllB (n : Nat) : List AVal → Bool
  | [] => true
  | x :: xs => x.underB n && underAllB n xs
end
mutual
theorem under_of {n : Nat} : ∀ {a : AVal}, a.underB n = true → a.under n
  | .tup xs, h => by rw [AVal.under]; exact underAll_of (by rw [AVal.underB] at h; exact h)
  | .lst xs, h => by rw [AVal.under]; exact underAll_of (by rw [AVal.underB] at h; exact h)
  | .cell i, h => by rw [AVal.under]; rw [AVal.underB] at h; exact of_decide_eq_true h
  | .none, _ => by simp only [AVal.under]
  | .bool _, _ => by simp only [AVal.under]
  | .int _, _ => by simp only [AVal.under]
  | .bytes _, _ => by simp only [AVal.under]
  | .cst _, _ => by simp only [AVal.under]
  | .dct _, _ => by simp only [AVal.under]
theorem underAll_of {n : Nat} : ∀ {xs : List AVal}, underAllB n xs = true → underAll n xs
  | [], _ => by simp only [underAll]
  | x :: xs, h => by
    rw [underAllB, Bool.and_eq_true] at h
    rw [underAll]; exact ⟨under_of h.1, underAll_of h.2⟩
end
noncomputable def ACell.underB (n : Nat) : ACell → Bool
  | .lst xs => underAllB n xs
  | .itL xs _ => underAllB n xs
  | _ => true

/-- what a def hands back: a cell of its own is frozen -/
noncomputable def finish (n : Nat) (r : AVal) (cs : List ACell) : Option (AVal × List ACell) :=
  if (cs.take n).all (·.underB n) then
    match r with
    | .cell i => if i < n then some (.cell i, cs.take n) else (match cs[i]? with
      | some (.lst xs) => if underAllB n xs then some (.lst xs, cs.take n) else none
      | some (.dct es) => some (.dct es, cs.take n)
      | _ => none)
    | r => if r.underB n then some (r, cs.take n) else none
  else none

noncomputable def flVal : Flow → Value
  | .ret v => v
  | _ => .none
noncomputable def afVal : AFlow → AVal
  | .ret a => a
  | _ => .none

noncomputable abbrev DefF := List ACell → List AVal → Option (AVal × List ACell)

noncomputable def runDef (n m : Nat) (dfl : List AVal) (f : AS) : DefF := fun cs avs =>
  if avs.length = n then
    match f { loc := (avs ++ dfl).map some ++ List.replicate m none, cells := cs } with
    | some (fl, st') => finish cs.length (afVal fl) st'.cells
    | none => none
  else none

noncomputable def RC (Z : Amb) (k : Nat) (fa : Addr) (kws : List Str) (F : DefF) : Prop :=
  ∀ {A : Around} {D γ : List Addr} {args kvs : List Value} {avs : List AVal} {cs cs' : List ACell} {s : Shared} {r : AVal} {E : Value → Shared → Prop}, F cs avs = some (r, cs') → VRels Z s.heap D γ (args ++ kvs) avs → kvs.length = kws.length →
    Wd Z D γ cs s.heap → Room A k → wpAny Z.M A (call (.ref fa) args (kws.zip kvs)) (fun v s' => Chg γ s s' ∧ Wd Z D γ cs' s'.heap ∧ VRel Z s'.heap D γ v r) E s

section
variable {Z : Amb} {S : Sx}

theorem CellR.shrink {h : Heap} {D D' γ ex : List Addr} {a : Addr} {c : ACell} (x : CellR Z h D (γ ++ ex) a c) (hD : ∀ a, a ∈ D' → a ∈ D) (hb : c.underB γ.length = true) : CellR Z h D' γ a c := by
  cases x with
  | lst ho hv => exact .lst ho (hv.shrink hD (underAll_of hb))
  | dct hs ho hv => exact .dct hs ho hv
  | itL hi hl ho hv => exact .itL hi (fun hm => hl (hD _ hm)) ho (hv.shrink hD (underAll_of hb))
  | itB hi => exact .itB hi
  | dead ho => exact .dead ho

theorem CellsR.shrink {h : Heap} {D D' γ ex : List Addr} {cs : List ACell} (x : CellsR Z h D (γ ++ ex) cs) (hD : ∀ a, a ∈ D' → a ∈ D) (hb : (cs.take γ.length).all (·.underB γ.length) = true) : CellsR Z h D' γ (cs.take γ.length) := by
  have hl := x.1
  rw [List.length_append] at hl
  refine ⟨by rw [List.length_take]; omega, fun i a c h1 h2 => ?_⟩
  have hi := (List.getElem?_eq_some_iff.mp h1).1
  have h2' : cs[i]? = some c := by rw [List.getElem?_take_of_lt hi] at h2; exact h2
  exact (x.2 i a c (getElem?_append_some h1) h2').shrink hD (List.all_eq_true.mp hb c (List.mem_of_getElem? h2))

theorem CellsR.grow {h : Heap} {D D' γ : List Addr} {cs : List ACell} (x : CellsR Z h D γ cs) (hD : ∀ a, a ∈ D' → a ∈ D ∨ h.get? a = none) : CellsR Z h D' γ cs :=
  ⟨x.1, fun i a c h1 h2 => by simpa using (x.2 i a c h1 h2).grow (ex := []) hD⟩

theorem bindL_at {kindOf : Str → Option NameKind} : ∀ (ps : List Str) (vs : List Value) (m : Str → Option Value), ps.Nodup → ∀ (i : Nat) (x : Str) (v : Value), ps[i]? = some x → vs[i]? = some v → kindOf x = some .local → bindL kindOf (ps.zip vs) m x = some v := by
  have off : ∀ (ps : List Str) (vs : List Value) (m : Str → Option Value) (x : Str), x ∉ ps → bindL kindOf (ps.zip vs) m x = m x := by
    intro ps
    induction ps with
    | nil => intro vs m x _; rfl
    | cons p ps ih =>
      intro vs m x hx
      cases vs with
      | nil => rfl
      | cons v vs =>
        rw [List.zip_cons_cons, bindL, ih _ _ _ (fun h => hx (List.mem_cons_of_mem _ h))]
        have : x ≠ p := fun e => hx (e ▸ List.mem_cons_self)
        split <;> simp [this]
  intro ps
  induction ps with
  | nil => intro vs m _ i x v h; simp at h
  | cons p ps ih =>
    intro vs m hn i x v hx hv hk
    obtain ⟨hn1, hn2⟩ := List.nodup_cons.mp hn
    cases vs with
    | nil => simp at hv
    | cons u vs =>
      rw [List.zip_cons_cons, bindL]
      cases i with
      | zero =>
        simp at hx hv
        subst hx; subst hv
        rw [off _ _ _ _ hn1, if_pos hk]; simp
      | succ i => exact ih vs _ hn2 i x v (by simpa using hx) (by simpa using hv) hk
theorem bindC_at {kindOf : Str → Option NameKind} : ∀ (ps : List Str) (vs : List Value) (m : Str → Option Value), ps.Nodup → ∀ (i : Nat) (x : Str) (v : Value), ps[i]? = some x → vs[i]? = some v → kindOf x = some .cell → bindC kindOf (ps.zip vs) m x = some v := by
  have off : ∀ (ps : List Str) (vs : List Value) (m : Str → Option Value) (x : Str), x ∉ ps → bindC kindOf (ps.zip vs) m x = m x := by
    intro ps
    induction ps with
    | nil => intro vs m x _; rfl
    | cons p ps ih =>
      intro vs m x hx
      cases vs with
      | nil => rfl
      | cons v vs =>
        rw [List.zip_cons_cons, bindC, ih _ _ _ (fun h => hx (List.mem_cons_of_mem _ h))]
        have : x ≠ p := fun e => hx (e ▸ List.mem_cons_self)
        split <;> simp [this]
  intro ps
  induction ps with
  | nil => intro vs m _ i x v h; simp at h
  | cons p ps ih =>
    intro vs m hn i x v hx hv hk
    obtain ⟨hn1, hn2⟩ := List.nodup_cons.mp hn
    cases vs with
    | nil => simp at hv
    | cons u vs =>
      rw [List.zip_cons_cons, bindC]
      cases i with
      | zero =>
        simp at hx hv
        subst hx; subst hv
        have : ¬ kindOf p = some .local := by rw [hk]; decide
        rw [off _ _ _ _ hn1, if_neg this]; simp
      | succ i => exact ih vs _ hn2 i x v (by simpa using hx) (by simpa using hv) hk

/-- the frame at a def's start -/
theorem enterRel {qual : Str} {scope : Scope} {cdv : Value} {fa : Addr} {s s₁ : Shared} {D γ : List Addr} {cs : List ACell} {pn rest : List Str} {vals : List Value} {avs : List AVal}
    (hsc : S.sc = scope) (hk : scope.kind = .function) (hv : S.vars = pn ++ rest) (hvn : S.vars.Nodup) (hfree : ∀ x ∈ S.vars, scope.names.lookup x ≠ some .free)
    (hlen : pn.length = avs.length) (hnd : ((cellsFrom 0 scope.names []).map (·.1)).Nodup) (hvs : VRels Z s.heap D γ vals avs) (wd : Wd Z D γ cs s.heap)
    (x : InCallC s s.heap.objs.size (bindL (envOfC qual scope s.heap.objs.size fa cdv).kindOf (pn.zip vals) fun _ => none) (cellsFrom (s.heap.objs.size + 1) scope.names []) (bindC (envOfC qual scope s.heap.objs.size fa cdv).kindOf (pn.zip vals) fun _ => none) s₁) :
    ∃ own, (∀ a ∈ own, s.heap.get? a = none) ∧ Rel Z S (envOfC qual scope s.heap.objs.size fa cdv) own (D ++ own) γ { loc := avs.map some ++ List.replicate rest.length none, cells := cs } s₁.heap := by
  obtain ⟨ic, hcell, hap, hab⟩ := x
  obtain ⟨⟨h₁, tk, rfl⟩, hns, hkeep, _⟩ := ic
  have hk₁ : ∀ b o, s.heap.get? b = some o → h₁.get? b = some o := hkeep
  have old : ∀ b o, s.heap.get? b = some o → b < s.heap.objs.size := fun b o e => Heap.lt_size e
  let L := s.heap.objs.size
  let cl := cellsFrom (L + 1) scope.names []
  have hown : ∀ a ∈ L :: cl.map (·.2), L ≤ a := by
    intro a ha
    rcases List.mem_cons.mp ha with rfl | ha
    · exact Nat.le_refl _
    · obtain ⟨p, hp, rfl⟩ := List.mem_map.mp ha
      exact Nat.le_of_lt (hab p.1 p.2 hp)
  have hfr : ∀ a ∈ L :: cl.map (·.2), s.heap.get? a = none := fun a ha => none_of_size (hown a ha)
  have hDg : ∀ a, a ∈ D ++ (L :: cl.map (·.2)) → a ∈ D ∨ s.heap.get? a = none := fun a ha => (List.mem_append.mp ha).imp id (hfr a)
  have hgam : ∀ a ∈ γ, a < L := fun a ha => by obtain ⟨o, e⟩ := wd.cells.live ha; exact old a o e
  have up : ∀ {v : Value} {a : AVal}, VRel Z s.heap D γ v a → VRel Z h₁ (D ++ (L :: cl.map (·.2))) γ v a := fun r => by
    have := r.grow (ex := []) hDg
    rw [List.append_nil] at this
    exact this.keeps hk₁
  have hloc : ∀ (i : Nat) (av : AVal), (avs.map some ++ List.replicate rest.length (none : Option AVal))[i]? = some (some av) → avs[i]? = some av := by
    intro i av h
    by_cases hi : i < avs.length
    · rw [List.getElem?_append_left (by simpa using hi)] at h
      simpa using h
    · rw [List.getElem?_append_right (by simpa using hi), List.getElem?_replicate] at h
      split at h <;> cases h
  have hpn : ∀ (i : Nat) (av : AVal) (y : Str), avs[i]? = some av → S.vars[i]? = some y → pn[i]? = some y := by
    intro i av y h1 h2
    have hi : i < pn.length := by rw [hlen]; exact (List.getElem?_eq_some_iff.mp h1).1
    rw [hv, List.getElem?_append_left hi] at h2
    exact h2
  have pnd : pn.Nodup := by rw [hv] at hvn; exact (List.nodup_append.mp hvn).1
  have hkin : ∀ y kd, scope.names.lookup y = some kd → (envOfC qual scope L fa cdv).kindOf y = some kd := fun y kd h => h
  refine ⟨L :: cl.map (·.2), hfr, ?_⟩
  exact {
    kind := by rw [hsc]; exact hk
    esc := by rw [hsc]; rfl
    eg := rfl
    eb := rfl
    vnd := hvn
    Lown := List.mem_cons_self
    ownD := fun a ha => List.mem_append_right _ ha
    γD := fun a ha => List.mem_append_left _ (wd.γD a ha)
    γnd := wd.γnd
    ownγ := fun a ha hg => Nat.lt_irrefl _ (Nat.lt_of_lt_of_le (hgam a hg) (hown a ha))
    cap := fun y c h => by
      have hm := mem_of_lookup h
      have h2 : L < c := hab y c hm
      exact ⟨List.mem_append_right _ (List.mem_cons_of_mem _ (List.mem_map_of_mem (f := Prod.snd) hm)), fun e => by rw [e] at h2; exact Nat.lt_irrefl _ h2, fun hg => Nat.lt_irrefl _ (Nat.lt_trans (hgam c hg) h2)⟩
    apart := fun y z c h1 h2 => name_of_addr hap (mem_of_lookup h1) (mem_of_lookup h2)
    ownc := fun y _ c h => List.mem_cons_of_mem _ (List.mem_map_of_mem (f := Prod.snd) (mem_of_lookup h))
    base := fun b o e => hk₁ b o (wd.base b o e)
    live := fun d hd => by
      rcases List.mem_append.mp hd with hd | hd
      · obtain ⟨h1, o, e⟩ := wd.live d hd; exact ⟨h1, o, hk₁ d o e⟩
      · refine ⟨?_, ?_⟩
        · cases e : Z.H0.get? d with
          | none => rfl
          | some o => have := wd.base d o e; rw [hfr d hd] at this; cases this
        · rcases List.mem_cons.mp hd with rfl | hd
          · obtain ⟨o, _, _, e, _⟩ := hns; exact ⟨o, e⟩
          · obtain ⟨p, hp, rfl⟩ := List.mem_map.mp hd
            have hl : cl.lookup p.1 = some p.2 := lookup_of_mem_nodup (cellsFrom_names scope.names 0 (L + 1) [] [] rfl ▸ hnd) hp
            obtain ⟨o, e, _⟩ := hcell p.1 p.2 hl
            exact ⟨o, e⟩
    ns := ⟨_, hns, fun i y h1 h2 av h3 => by
      have h4 := hloc i av h3
      obtain ⟨v, h5, h6⟩ := hvs.get h4
      refine ⟨v, bindL_at pn vals _ pnd i y v (hpn i av y h4 h1) h5 (hkin _ _ (by rw [← hsc]; exact h2)), up h6⟩⟩
    cl := fun i y h1 h2 => by
      have h2' : scope.names.lookup y = some .cell := by
        rcases h2 with h2 | h2
        · rw [← hsc]; exact h2
        · exact absurd (by rw [← hsc]; exact h2) (hfree y (List.mem_of_getElem? h1))
      obtain ⟨c, hc⟩ := Option.isSome_iff_exists.mp (cellsFrom_some scope.names (L + 1) [] (.inl h2'))
      refine ⟨c, _, hc, hcell y c hc, fun av h3 => ?_⟩
      have h4 := hloc i av h3
      obtain ⟨v, h5, h6⟩ := hvs.get h4
      exact ⟨v, bindC_at pn vals _ pnd i y v (hpn i av y h4 h1) h5 (hkin _ _ h2'), up h6⟩
    cells := (wd.cells.grow hDg).mono (fun b o _ e => hk₁ b o e) fun _ _ o e => hk₁ _ o e }

/-- a def's call up to its body -/
theorem def_enter {k fa n m : Nat} {kws : List Str} {dfl : List AVal} {name qual : Str} {params : Arguments} {body : List Stmt} {scope : Scope} {dV kV doc pm cdv ct oc : Value} {an od : Option Addr} {osl : Array (Option Value)} {pn rest : List Str} {dv : List Value}
    (ho : Z.K.lookup fa = some ⟨oc, od, .func (fnOf name qual params body scope dV kV doc pm an cdv ct), osl⟩) (hcd : codeIn Z.K cdv qual = true)
    (hsc : S.sc = scope) (hk : scope.kind = .function) (hv : S.vars = pn ++ rest) (hvn : S.vars.Nodup) (hfree : ∀ x ∈ S.vars, scope.names.lookup x ≠ some .free)
    (hpl : pn.length = n + dfl.length) (hrest : rest.length = m) (hnd : ((cellsFrom 0 scope.names []).map (·.1)).Nodup)
    (hkind : (pn.all fun y => scope.names.lookup y == some .local || scope.names.lookup y == some .cell) = true)
    (hdv : ∀ (h : Heap) (D γ : List Addr), VRels Z h D γ dv dfl)
    (hbind : ∀ (s : Shared) (args kvs : List Value), args.length + kvs.length = n → kvs.length = kws.length → (∀ b o, Z.H0.get? b = some o → s.heap.get? b = some o) → BindsTo s (fnOf name qual params body scope dV kV doc pm an cdv ct) ⟨args, kws.zip kvs⟩ (pn.zip (args ++ kvs ++ dv)))
    (hco : scope.isCoroutine = false) (hgen : scope.isGenerator = false)
    {A : Around} {D γ : List Addr} {args kvs : List Value} {avs : List AVal} {cs : List ACell} {s : Shared} {Q E : Value → Shared → Prop} (hvs : VRels Z s.heap D γ (args ++ kvs) avs) (hkl : kvs.length = kws.length) (hn : avs.length = n) (wd : Wd Z D γ cs s.heap) (hr : Room A (k + 1))
    (h : ∀ (own : List Addr) (s₁ : Shared), (∀ a ∈ own, s.heap.get? a = none) → Rel Z S (envOfC qual scope s.heap.objs.size fa cdv) own (D ++ own) γ { loc := (avs ++ dfl).map some ++ List.replicate m none, cells := cs } s₁.heap →
      (∃ h₁ tk, s₁ = { s with heap := h₁, toks := tk } ∧ ∀ b o, s.heap.get? b = some o → h₁.get? b = some o) →
      wpAny Z.M (A.deeper (envOfC qual scope s.heap.objs.size fa cdv)) (execs body (envOfC qual scope s.heap.objs.size fa cdv)) (fun fl s' => Q (flVal fl) s')
        (fun e s' => wpAny Z.M (A.deeper (envOfC qual scope s.heap.objs.size fa cdv)) (leaving (envOfC qual scope s.heap.objs.size fa cdv) e) (fun _ s'' => E e s'') (fun e' s'' => E e' s'') s') s₁) :
    wpAny Z.M A (call (.ref fa) args (kws.zip kvs)) Q E s := by
  have hal : args.length + kvs.length = n := by have := hvs.length; rw [List.length_append] at this; omega
  have hroom : A.depth < recursionLimit := by have := hr.depth; omega
  have hvs' : VRels Z s.heap D γ (args ++ kvs ++ dv) (avs ++ dfl) := hvs.append (hdv _ _ _)
  refine wpAny_call (codeAny_call_function hroom (wd.base _ _ (Z.X _ _ ho)) rfl hco hgen rfl (codeRec_of (K := Z.K) (fun a o e => wd.base _ _ (Z.X a o e)) hcd) (hbind s args kvs hal hkl wd.base _ _ _ _ ?_))
  refine wpAny_newFunctionEnv_cells hk (fun y hy => ?_) fun env he s₁ x => ?_
  · obtain ⟨y1, y2⟩ := y
    exact kindsX (binds := pn.zip (args ++ kvs ++ dv)) (List.all_eq_true.mpr fun z hz => List.all_eq_true.mp hkind z.1 (List.of_mem_zip hz).1) _ (y1, y2) hy
  subst he
  obtain ⟨own, hfr, r1⟩ := enterRel (qual := qual) (cdv := cdv) (fa := fa) hsc hk hv hvn hfree (by rw [hpl, List.length_append, hn]) hnd hvs' wd x
  have hkeep := x.toInCall.keep
  obtain ⟨h₁, tk, hs₁, _⟩ := x.done
  refine ⟨(Z.nolimit.keeps wd.base).keeps hkeep, codeAny_func ?_⟩
  rw [hrest] at r1
  subst hs₁
  refine wpAny_mono (h own _ hfr r1 ⟨_, _, rfl, hkeep⟩) (fun y s2 h => ?_) fun _ _ h => h
  cases y <;> exact h

/-- what a def leaves behind, seen from without -/
theorem def_end {env : Env} {own D γ ex : List Addr} {cs cs' : List ACell} {st' : ASt} {h : Heap} {fl : AFlow} {y : Flow} {r : AVal} (hγl : γ.length = cs.length) (hγD : ∀ a ∈ γ, a ∈ D) (hγn : γ.Nodup) (hex : ∀ a ∈ ex, a ∉ D)
    (r2 : Rel Z S env own (D ++ own ++ ex) (γ ++ ex) st' h) (q2 : FRel Z h (D ++ own ++ ex) (γ ++ ex) y fl) (hfin : finish cs.length (afVal fl) st'.cells = some (r, cs')) : Wd Z D γ cs' h ∧ VRel Z h D γ (flVal y) r := by
  have hDD : ∀ a, a ∈ D → a ∈ D ++ own ++ ex := fun a ha => List.mem_append_left _ (List.mem_append_left _ ha)
  have hcl := r2.cells
  rw [← hγl] at hfin
  unfold finish at hfin
  split at hfin
  case isFalse => cases hfin
  case isTrue hall =>
  have hw : Wd Z D γ (st'.cells.take γ.length) h := ⟨r2.base, fun d hd => r2.live d (hDD d hd), hγD, hγn, hcl.shrink hDD hall⟩
  have hret : VRel Z h (D ++ own ++ ex) (γ ++ ex) (flVal y) (afVal fl) := by
    cases q2 <;> first | exact .none | assumption
  revert hret hfin
  generalize flVal y = v0
  generalize afVal fl = a0
  intro hfin hret
  have plain : ∀ a0 : AVal, VRel Z h (D ++ own ++ ex) (γ ++ ex) v0 a0 → (if a0.underB γ.length = true then some (a0, st'.cells.take γ.length) else none) = some (r, cs') → Wd Z D γ cs' h ∧ VRel Z h D γ v0 r := by
    intro a0 h1 h2
    split at h2
    · cases h2
      exact ⟨hw, h1.shrink hDD (under_of (by assumption))⟩
    · cases h2
  split at hfin
  case h_1 i =>
    split at hfin
    · rename_i hi
      cases hfin
      exact ⟨hw, hret.shrink hDD (by rw [AVal.under]; omega)⟩
    · rename_i hi
      cases hret with
      | cell hia =>
        rename_i a
        have haD : a ∉ D := by
          rw [List.getElem?_append_right (by omega)] at hia
          exact hex a (List.mem_of_getElem? hia)
        split at hfin
        · rename_i xs hx
          split at hfin
          · cases hfin
            have := hcl.2 i a _ hia hx
            cases this with
            | lst hp hv => exact ⟨hw, .lst haD hp (hv.shrink hDD (underAll_of (by assumption)))⟩
          · cases hfin
        · rename_i es hx
          cases hfin
          have := hcl.2 i a _ hia hx
          cases this with
          | dct hs hp hv => exact ⟨hw, .dct haD hs hp hv⟩
        · cases hfin
  all_goals exact plain _ hret hfin

/-- one def: its contract out of its body -/
theorem rc_def {k fa n m : Nat} {kws : List Str} {dfl : List AVal} {f : AS} {name qual : Str} {params : Arguments} {body : List Stmt} {scope : Scope} {dV kV doc pm cdv ct oc : Value} {an od : Option Addr} {osl : Array (Option Value)} {pn rest : List Str} {dv : List Value}
    (ho : Z.K.lookup fa = some ⟨oc, od, .func (fnOf name qual params body scope dV kV doc pm an cdv ct), osl⟩) (hcd : codeIn Z.K cdv qual = true)
    (hsc : S.sc = scope) (hk : scope.kind = .function) (hv : S.vars = pn ++ rest) (hvn : S.vars.Nodup) (hfree : ∀ x ∈ S.vars, scope.names.lookup x ≠ some .free)
    (hpl : pn.length = n + dfl.length) (hrest : rest.length = m) (hnd : ((cellsFrom 0 scope.names []).map (·.1)).Nodup)
    (hkind : (pn.all fun y => scope.names.lookup y == some .local || scope.names.lookup y == some .cell) = true)
    (hdv : ∀ (h : Heap) (D γ : List Addr), VRels Z h D γ dv dfl)
    (hbind : ∀ (s : Shared) (args kvs : List Value), args.length + kvs.length = n → kvs.length = kws.length → (∀ b o, Z.H0.get? b = some o → s.heap.get? b = some o) → BindsTo s (fnOf name qual params body scope dV kV doc pm an cdv ct) ⟨args, kws.zip kvs⟩ (pn.zip (args ++ kvs ++ dv)))
    (R : RSs Z S k body f) (hco : scope.isCoroutine = false) (hgen : scope.isGenerator = false) : RC Z (k + 1) fa kws (runDef n m dfl f) := by
  intro A D γ args kvs avs cs cs' s r E hf hvs hkl wd hr
  unfold runDef at hf
  split at hf
  case isFalse => cases hf
  case isTrue hn =>
  split at hf
  case h_2 => cases hf
  rename_i fl st' hq
  refine def_enter ho hcd hsc hk hv hvn hfree hpl hrest hnd hkind hdv hbind hco hgen hvs hkl hn wd hr fun own s₁ hfr r1 hs₁ => ?_
  obtain ⟨h₁, tk, rfl, hkeep⟩ := hs₁
  refine wpAny_mono (R (E := fun _ _ => False) hq r1 hr.deeper) (fun y s2 ha => ?_) fun _ _ e => False.elim e
  obtain ⟨ex, c2, f2, r2, q2⟩ := ha
  refine ⟨?_, def_end wd.cells.1 wd.γD wd.γnd (fun a ha hm => ?_) r2 q2 hf⟩
  · obtain ⟨h₂, tk₂, rfl, k₂⟩ := c2
    refine ⟨h₂, tk₂, rfl, fun b o hb e => k₂ b o (fun hm => ?_) (hkeep b o e)⟩
    rcases List.mem_append.mp hm with hm | hm
    · rw [hfr b hm] at e; cases e
    · exact hb hm
  · obtain ⟨o, e⟩ := (r1.live a (List.mem_append_left _ hm)).2
    rw [f2 a ha] at e; cases e
end
end Mine

end
section

namespace Mine
section
variable (Z : Amb) (S : Sx)
/-- a row of arguments -/
noncomputable def RPs (k : Nat) (es : List Expr) (f : ASt → Option (List AVal)) : Prop :=
  ∀ {A : Around} {env : Env} {own D γ : List Addr} {st : ASt} {s : Shared} {as : List AVal} {pos : Pos} {E : Value → Shared → Prop}, f st = some as → Rel Z S env own D γ st s.heap → Room A k →
    wpAny Z.M A (spliced (backTo pos (starEach es env))) (fun vs s' => Kp s s' ∧ VRels Z s'.heap D γ vs as) E s
/-- the keywords' values -/
noncomputable def RKs (k : Nat) (ks : List Keyword) (f : ASt → Option (List AVal)) : Prop :=
  ∀ {A : Around} {env : Env} {own D γ : List Addr} {st : ASt} {s : Shared} {as : List AVal} {pos : Pos} {E : Value → Shared → Prop}, f st = some as → Rel Z S env own D γ st s.heap → Room A k →
    wpAny Z.M A (evalAll ((backToKw pos (keywordEach ks env)).map (·.2))) (fun vs s' => Kp s s' ∧ VRels Z s'.heap D γ vs as) E s
end

noncomputable def consF (f : ASt → Option AVal) (g : ASt → Option (List AVal)) (st : ASt) : Option (List AVal) := do let a ← f st; let as ← g st; some (a :: as)
theorem consF_some {f : ASt → Option AVal} {g : ASt → Option (List AVal)} {st : ASt} {as : List AVal} (h : consF f g st = some as) : ∃ b bs, f st = some b ∧ g st = some bs ∧ as = b :: bs := by
  unfold consF at h
  cases h1 : f st with
  | none => rw [h1] at h; cases h
  | some a => cases h2 : g st with
    | none => rw [h1, h2] at h; cases h
    | some b => rw [h1, h2] at h; cases h; exact ⟨a, b, rfl, rfl, rfl⟩
noncomputable def nilF (_ : ASt) : Option (List AVal) := some []

section
variable {Z : Amb} {S : Sx}

theorem rps_nil {k : Nat} : RPs Z S k [] nilF := by
  intro A env own D γ st s as pos E hf r hr
  cases hf
  exact spliced_nil ⟨Kp.refl _, .nil⟩
theorem rps_cons {k : Nat} {e : Expr} {es : List Expr} {f : ASt → Option AVal} {g : ASt → Option (List AVal)} (h1 : RP Z S k e f) (h2 : RPs Z S k es g) (hst : ∀ env, starEach (e :: es) env = (false, eval e env) :: starEach es env) : RPs Z S k (e :: es) (consF f g) := by
  intro A env own D γ st s as pos E hf r hr
  obtain ⟨b, bs, q1, q2, rfl⟩ := consF_some hf
  rw [hst]
  refine spliced_cons (h1.use q1 r hr fun v s1 k1 v1 => ?_)
  exact wpAny_mono (h2 (pos := pos) q2 (r.keeps' k1) hr) (fun vs s2 h => ⟨k1.trans h.1, .cons (v1.keeps fun _ _ e => h.1.get e) h.2⟩) fun _ _ x => x
theorem rks_nil {k : Nat} : RKs Z S k [] nilF := by
  intro A env own D γ st s as pos E hf r hr
  cases hf
  exact wpAny_evalAll_nil ⟨Kp.refl _, .nil⟩
theorem rks_cons {k : Nat} {n : Option Str} {e : Expr} {p : Pos} {ks : List Keyword} {f : ASt → Option AVal} {g : ASt → Option (List AVal)} (h1 : RP Z S k e f) (h2 : RKs Z S k ks g) : RKs Z S k (⟨n, e, p⟩ :: ks) (consF f g) := by
  intro A env own D γ st s as pos E hf r hr
  obtain ⟨b, bs, q1, q2, rfl⟩ := consF_some hf
  show wpAny _ _ (evalAll ((do let v ← eval e env; standAt pos; pure v) :: (backToKw pos (keywordEach ks env)).map (·.2))) _ _ _
  refine wpAny_evalAll_cons (wpAny_bind (h1.use q1 r hr fun v s1 k1 v1 => wpAny_bind (wpAny_standAt (wpAny_pure ?_))))
  exact wpAny_mono (h2 (pos := pos) q2 (r.keeps' k1) hr) (fun vs s2 h => ⟨k1.trans h.1, .cons (v1.keeps fun _ _ e => h.1.get e) h.2⟩) fun _ _ x => x

theorem backToKw_names (pos : Pos) (env : Env) : ∀ ks : List Keyword, (backToKw pos (keywordEach ks env)).filterMap (·.1) = ks.filterMap (·.arg)
  | [] => rfl
  | ⟨n, e, p⟩ :: ks => by
    show List.filterMap (·.1) ((n, _) :: backToKw pos (keywordEach ks env)) = _
    rw [List.filterMap_cons, List.filterMap_cons, backToKw_names pos env ks]
theorem backToKw_all (pos : Pos) (env : Env) : ∀ ks : List Keyword, (backToKw pos (keywordEach ks env)).all (·.1.isSome) = ks.all (·.arg.isSome)
  | [] => rfl
  | ⟨n, e, p⟩ :: ks => by
    show List.all ((n, _) :: backToKw pos (keywordEach ks env)) _ = _
    rw [List.all_cons, List.all_cons, backToKw_all pos env ks]

/-- the arguments of a call, as a whole -/
theorem callArgs {k : Nat} {fv : Value} {es : List Expr} {ks : List Keyword} {f g : ASt → Option (List AVal)} (h1 : RPs Z S k es f) (h2 : RKs Z S k ks g) (hall : ks.all (·.arg.isSome) = true)
    (hsh : (es = [] ∧ f = nilF) ∨ ∃ e es', es = e :: es' ∧ ∀ env, starEach (e :: es') env = (false, eval e env) :: starEach es' env)
    {A : Around} {env : Env} {own D γ : List Addr} {st : ASt} {s : Shared} {as bs : List AVal} {pos : Pos} {E : Value → Shared → Prop} (hf : f st = some as) (hg : g st = some bs) (r : Rel Z S env own D γ st s.heap) (hr : Room A k) :
    wpAny Z.M A (evalArgs fv true (backTo pos (starEach es env)) (backToKw pos (keywordEach ks env))) (fun a s' => ∃ vs kvs, a = ⟨vs, (ks.filterMap (·.arg)).zip kvs⟩ ∧ Kp s s' ∧ VRels Z s'.heap D γ vs as ∧ VRels Z s'.heap D γ kvs bs) E s := by
  have hall' : (backToKw pos (keywordEach ks env)).all (·.1.isSome) = true := by rw [backToKw_all]; exact hall
  rcases hsh with ⟨rfl, rfl⟩ | ⟨e, es', rfl, hst⟩
  · cases hf
    refine evalArgs_kw_nil hall' ?_
    refine wpAny_mono (h2 (pos := pos) hg r hr) (fun ks' s2 h => ⟨[], ks', ?_, h.1, .nil, h.2⟩) fun _ _ x => x
    rw [backToKw_names]
  · have h1' := h1 (pos := pos) (E := E) hf r hr
    rw [hst] at h1' ⊢
    refine evalArgs_kw hall' (wpAny_mono h1' (fun vs s1 h => ?_) fun _ _ x => x)
    refine wpAny_mono (h2 (pos := pos) hg (r.keeps' h.1) hr) (fun ks' s2 h' => ⟨vs, ks', ?_, h.1.trans h'.1, h.2.keeps fun _ _ e => h'.1.get e, h'.2⟩) fun _ _ x => x
    rw [backToKw_names]

/-! calls of defs -/
theorem any_star (pos : Pos) (env : Env) {es : List Expr} (h : (starEach es env).any (·.1) = false) : (backTo pos (starEach es env)).any (·.1) = false := by
  unfold backTo
  rw [List.any_map]
  exact h
theorem any_kw (pos : Pos) (env : Env) : ∀ {ks : List Keyword}, ks.all (·.arg.isSome) = true → (backToKw pos (keywordEach ks env)).any (·.1.isNone) = false
  | [], _ => rfl
  | ⟨n, e, p⟩ :: ks, h => by
    rw [List.all_cons, Bool.and_eq_true] at h
    show List.any ((n, _) :: backToKw pos (keywordEach ks env)) _ = false
    rw [List.any_cons, any_kw pos env h.2, Bool.or_false]
    have h1 : n.isSome = true := h.1
    cases n
    · cases h1
    · rfl

/-- how the machine keeps a callee's arguments is known -/
noncomputable def Keep (Z : Amb) (fv : Value) : Prop := ∀ h : Heap, (∀ b o, Z.H0.get? b = some o → h.get? b = some o) → ∃ k, (k = Keeper.frame ∨ k = Keeper.machine ∨ k = Keeper.boundFrame) ∧ Looks Z.M h (keeperOf fv) k
theorem keep_fn {fa : Addr} (h : keepIn Z.K (.ref fa) = true) : Keep Z (.ref fa) := fun _ hb => keeps_K h _ fun a o e => hb a o (Z.X a o e)
theorem keep_builtin (id : String) : Keep Z (.builtin id) := fun _ _ => ⟨.machine, .inr (.inl rfl), Looks.of_pure rfl⟩
theorem keep_type (id : String) : Keep Z (.type id) := fun _ _ => ⟨.machine, .inr (.inl rfl), Looks.of_pure rfl⟩

/-- a call whose callee is a name, upon pure arguments: what follows is the call of the value -/
theorem callName {k : Nat} {x : Str} {xp pos : Pos} {es : List Expr} {ks : List Keyword} {ff : ASt → Option AVal} {f g : ASt → Option (List AVal)} (h0 : RP Z S k (.Name x xp) ff) (h1 : RPs Z S k es f) (h2 : RKs Z S k ks g) (hall : ks.all (·.arg.isSome) = true)
    (hsh : (es = [] ∧ f = nilF) ∨ ∃ e es', es = e :: es' ∧ ∀ env, starEach (e :: es') env = (false, eval e env) :: starEach es' env) (hns : ∀ env, (starEach es env).any (·.1) = false)
    {A : Around} {env : Env} {own D γ : List Addr} {st : ASt} {s : Shared} {fv : Value} {as bs : List AVal} {E : Value → Shared → Prop} {Q : Value → Shared → Prop} (hff : ff st = some (.cst fv)) (hf : f st = some as) (hg : g st = some bs) (r : Rel Z S env own D γ st s.heap) (hr : Room A k)
    (hk : Keep Z fv)
    (h : ∀ vs kvs s', Kp s s' → VRels Z s'.heap D γ vs as → VRels Z s'.heap D γ kvs bs → wpAny Z.M A (call fv vs ((ks.filterMap (·.arg)).zip kvs)) Q E s') :
    wpAny Z.M A (eval (.Call (.Name x xp) es ks pos) env) Q E s := by
  show wpAny _ _ (eval (.Name x xp) env >>= fun f => callWith pos f [] (backTo pos (starEach es env)) (backToKw pos (keywordEach ks env))) _ _ _
  refine wpAny_bind (h0.use hff r hr fun v s1 k1 v1 => ?_)
  cases v1
  refine callWith_of (P := fun h => ∀ b o, Z.H0.get? b = some o → h.get? b = some o) (by rw [any_star pos env (hns env), any_kw pos env hall]; rfl) hk ?_
  refine wpAny_mono (callArgs h1 h2 hall hsh hf hg (r.keeps' k1) hr) (fun a s2 ha => ?_) fun _ _ x => x
  obtain ⟨vs, kvs, rfl, k2, r1, r2⟩ := ha
  exact ⟨((r.keeps' k1).keeps' k2).base, h vs kvs s2 (k1.trans k2) r1 r2⟩

/-- the arguments' own shape, closed by rfl -/
structure ArgSh (es : List Expr) (f : ASt → Option (List AVal)) : Prop where
  sh : (es = [] ∧ f = nilF) ∨ ∃ e es', es = e :: es' ∧ ∀ env, starEach (e :: es') env = (false, eval e env) :: starEach es' env
  ns : ∀ env, (starEach es env).any (·.1) = false

/-- a def's call as an expression: no cell goes in -/
noncomputable def pCall (fa : Addr) (F : DefF) (ff : ASt → Option AVal) (f g : ASt → Option (List AVal)) (st : ASt) : Option AVal :=
  match ff st, f st, g st with
  | some (.cst (.ref b)), some as, some bs => if b = fa ∧ underAllB 0 (as ++ bs) = true then (F [] (as ++ bs)).map (·.1) else none
  | _, _, _ => none

theorem Wd.none {D γ : List Addr} {cs : List ACell} {h : Heap} (w : Wd Z D γ cs h) : Wd Z D [] [] h := ⟨w.base, w.live, by simp, by simp, rfl, fun i a c h1 _ => by simp at h1⟩

theorem rc_pure {k fa : Nat} {kws : List Str} {F : DefF} (H : RC Z k fa kws F) {A : Around} {D γ : List Addr} {args kvs : List Value} {avs : List AVal} {cs cs' : List ACell} {s : Shared} {r : AVal} {E : Value → Shared → Prop} (hF : F [] avs = some (r, cs'))
    (hu : underAllB 0 avs = true) (hv : VRels Z s.heap D γ (args ++ kvs) avs) (hk : kvs.length = kws.length) (w : Wd Z D γ cs s.heap) (hr : Room A k) : wpAny Z.M A (call (.ref fa) args (kws.zip kvs)) (fun v s' => Kp s s' ∧ VRel Z s'.heap D γ v r) E s := by
  have hv0 : VRels Z s.heap D ([] : List Addr) (args ++ kvs) avs := VRels.shrink (γ := []) (ex := γ) (fun a h => h) (by simpa using hv) (underAll_of hu)
  refine wpAny_mono (H hF hv0 hk w.none hr) (fun v s' h => ?_) fun _ _ x => x
  obtain ⟨⟨h', tk, rfl, k1⟩, _, h3⟩ := h
  refine ⟨⟨h', tk, rfl, fun b o e => k1 b o (by simp) e⟩, ?_⟩
  simpa using h3.grow (ex := γ) (D' := D) (fun a h => .inl h)

theorem rp_call {k k' fa : Nat} {x : Str} {xp pos : Pos} {es : List Expr} {ks : List Keyword} {kws : List Str} {ff : ASt → Option AVal} {f g : ASt → Option (List AVal)} {F : DefF} (H : RC Z k' fa kws F) (hkk : k' ≤ k) (hkp : keepIn Z.K (.ref fa) = true)
    (h0 : RP Z S k (.Name x xp) ff) (h1 : RPs Z S k es f) (h2 : RKs Z S k ks g) (hall : ks.all (·.arg.isSome) = true) (hkw : ks.filterMap (·.arg) = kws) (sh : ArgSh es f) (hgl : ∀ st bs, g st = some bs → bs.length = kws.length) :
    RP Z S k (.Call (.Name x xp) es ks pos) (pCall fa F ff f g) := by
  intro A env own D γ st s a E hf r hr
  unfold pCall at hf
  split at hf
  case h_2 => cases hf
  rename_i b as bs q0 q1 q2
  split at hf
  case isFalse => cases hf
  rename_i hc
  obtain ⟨rfl, hu⟩ := hc
  cases hF : F [] (as ++ bs) with
  | none => rw [hF] at hf; cases hf
  | some p =>
    obtain ⟨rr, cs'⟩ := p
    rw [hF] at hf; cases hf
    refine callName h0 h1 h2 hall sh.sh sh.ns q0 q1 q2 r hr (keep_fn hkp) fun vs kvs s' k1 v1 v2 => ?_
    rw [hkw]
    refine wpAny_mono (rc_pure H hF hu (v1.append v2) (by rw [v2.length]; exact hgl _ _ q2) (r.keeps' k1).wd (hr.mono hkk)) (fun v s2 h => ⟨k1.trans h.1, h.2⟩) fun _ _ x => x

/-- a def's call as a statement: its cells change -/
noncomputable def sCall (fa : Addr) (F : DefF) (ff : ASt → Option AVal) (f : ASt → Option (List AVal)) : AS := fun st =>
  match ff st, f st with
  | some (.cst (.ref b)), some as => if b = fa then (F st.cells as).map fun p => (.next, { st with cells := p.2 }) else none
  | _, _ => none

theorem Rel.cellsTo {env : Env} {own D γ : List Addr} {st : ASt} {s s' : Shared} {cs' : List ACell} (r : Rel Z S env own D γ st s.heap) (hc : Chg γ s s') (w : Wd Z D γ cs' s'.heap) : Rel Z S env own D γ { st with cells := cs' } s'.heap := by
  have kD : ∀ b o, b ∉ D → s.heap.get? b = some o → s'.heap.get? b = some o := fun b o hb e => hc.get (fun h => hb (r.γD _ h)) e
  exact { r with
    base := w.base
    live := w.live
    ns := by
      obtain ⟨m, hn, hm⟩ := r.ns
      refine ⟨m, hn.at' fun o e => hc.get (r.ownγ _ r.Lown) e, fun i y h1 h2 av h3 => ?_⟩
      obtain ⟨v, e, rv⟩ := hm i y h1 h2 av h3
      exact ⟨v, e, rv.mono kD⟩
    cl := fun i y h1 h2 => by
      obtain ⟨c, vo, e1, e2, e3⟩ := r.cl i y h1 h2
      obtain ⟨o, ho, hd⟩ := e2
      refine ⟨c, vo, e1, ⟨o, hc.get (r.cap _ _ e1).2.2 ho, hd⟩, fun av h3 => ?_⟩
      obtain ⟨v, e, rv⟩ := e3 av h3
      exact ⟨v, e, rv.mono kD⟩
    cells := w.cells }

theorem rs_call {k k' fa : Nat} {x : Str} {xp pos epos : Pos} {es : List Expr} {ff : ASt → Option AVal} {f : ASt → Option (List AVal)} {F : DefF} (H : RC Z k' fa [] F) (hkk : k' ≤ k) (hkp : keepIn Z.K (.ref fa) = true)
    (h0 : RP Z S k (.Name x xp) ff) (h1 : RPs Z S k es f) (sh : ArgSh es f) : RSt Z S k (.Expr (.Call (.Name x xp) es [] pos) epos) (sCall fa F ff f) := by
  intro A env own D γ st s fl st' E hf r hr
  unfold sCall at hf
  split at hf
  case h_2 => cases hf
  rename_i b as q0 q1
  split at hf
  case isFalse => cases hf
  rename_i hc
  subst hc
  cases hF : F st.cells as with
  | none => rw [hF] at hf; cases hf
  | some p =>
    obtain ⟨rr, cs'⟩ := p
    rw [hF] at hf; cases hf
    refine wpAny_Expr_any ?_ (by unfold interactive; rw [r.esc, r.kind]; rfl) rfl
    refine callName h0 h1 rks_nil rfl sh.sh sh.ns q0 q1 rfl r hr (keep_fn hkp) fun vs kvs s1 k1 v1 v2 => ?_
    cases v2
    refine wpAny_mono (H hF (by simpa using v1) rfl (r.keeps' k1).wd (hr.mono hkk)) (fun v s2 h => ?_) fun _ _ x => x
    obtain ⟨c2, w2, _⟩ := h
    exact .of_keep ((k1.chg _).trans (c2.mono fun a h => List.mem_append_right own h) fun b hb => .inl hb) ((r.keeps' k1).cellsTo c2 w2) .next
end
end Mine

end
section

namespace Mine
open AutoSeq1 (wpAny_loadPart')
open MeetsSeq

/-- two pairs of ints by < -/
noncomputable def ltPair (a b c d : Int) : Bool := if a = c then decide (b < d) else decide (a < c)

theorem rich_lt {prog : Program} {w : World} {A : Around} {E : Value → Shared → Prop} {s : Shared} {a b : Int} {t u : Tok} {Q : Value → Shared → Prop} (h : Q (.bool (decide (a < b))) s) : wpAny (model prog w) A (richCompare .Lt (.int a t) (.int b u)) Q E s := P.lt_int h

noncomputable def lexZ : List (Int × Tok × Int × Tok) → Bool
  | [] => false
  | q :: r => if q.1 == q.2.2.1 then lexZ r else decide (q.1 < q.2.2.1)

theorem tuple_lt2 (l b : Addr) (x1 x2 y1 y2 : Int) (t1 t2 u1 u2 : Tok) (n n2 : Nat) :
    Meets (Builtin.«tuple.__lt__» ⟨[.ref l, .ref b], []⟩)
      (fun _ R s => s.heap.get? l = some { cls := .type "tuple", data := .seq [Value.int x1 t1, .int x2 t2].toArray n } ∧ s.heap.get? b = some { cls := .type "tuple", data := .seq [Value.int y1 u1, .int y2 u2].toArray n2 } ∧
        R (.ok (.ret (.bool (ltPair x1 x2 y1 y2)))) s) :=
  .of_wp fun prog w A R s h => by
    obtain ⟨hp, g, d, tk, os⟩ := s; obtain ⟨hl, hb, h⟩ := h
    have f2 := AutoSeq1.sub_tuple_tuple
    wp_walk using wpAny_loadPart' hl, wpAny_loadPart' hb, wpAny_forIn_list _ (fun rest b s' => b.1 = none ∧ s' = ⟨hp, g, d, tk, os⟩ ∧ ∃ r : List (Int × Tok × Int × Tok), rest = r.map (fun q => (Value.int q.1 q.2.1, Value.int q.2.2.1 q.2.2.2)) ∧
      R (.ok (.ret (.bool (lexZ r)))) ⟨hp, g, d, tk, os⟩) _
    case turn =>
      rintro ⟨y, x⟩ rest b s' ⟨hb', rfl, r, hz, hR⟩
      cases r with
      | nil => cases hz
      | cons q r =>
        obtain ⟨a1, a2, a3, a4⟩ := q
        rw [List.map_cons] at hz
        cases hz
        refine wpAny_bind (wpAny_eqBool_int ?_)
        rw [lexZ] at hR
        cases hq : (a1 == a3) with
        | true =>
          rw [hq, if_pos rfl] at hR
          wp_walk
          exact ⟨rfl, rfl, r, rfl, hR⟩
        | false =>
          rw [hq, if_neg (by decide)] at hR
          wp_walk using rich_lt
          exact ⟨_, rfl, hR⟩
    case fin =>
      rintro ⟨b1, b2⟩ s' ⟨hb', rfl, r, hz, hR⟩
      simp only at hb'
      subst hb'
      cases r with
      | cons q r => cases hz
      | nil =>
        wp_walk
        exact ⟨_, rfl, hR⟩
    case h =>
      refine ⟨rfl, rfl, [(x1, t1, y1, u1), (x2, t2, y2, u2)], rfl, ?_⟩
      have e : lexZ [(x1, t1, y1, u1), (x2, t2, y2, u2)] = ltPair x1 x2 y1 y2 := by
        simp only [lexZ, ltPair, beq_iff_eq]
        by_cases h1 : x1 = y1
        · rw [if_pos h1, if_pos h1]
          by_cases h2 : x2 = y2
          · rw [if_pos h2]; simp [h2]
          · rw [if_neg h2]
        · rw [if_neg h1, if_neg h1]
      rw [e]; exact h

section
variable {Z : Amb} {S : Sx}

noncomputable def AVal.pair? (a : AVal) : Option (Int × Int) := a.tup?.bind fun l => match l with
  | [x, y] => x.int?.bind fun i => y.int?.bind fun j => some (i, j)
  | _ => Option.none
theorem pair?_some {a : AVal} {p : Int × Int} (h : a.pair? = some p) : a = .tup [.int p.1, .int p.2] := by
  obtain ⟨l, q1, g⟩ := bind_some h
  obtain rfl := tup?_some q1
  clear h
  split at g
  · obtain ⟨i, q2, g⟩ := bind_some g
    obtain ⟨j, q3, g⟩ := bind_some g
    obtain rfl := int?_some q2
    obtain rfl := int?_some q3
    cases g; rfl
  · cases g
theorem vrel_pair {h : Heap} {D γ : List Addr} {v : Value} {i j : Int} (x : VRel Z h D γ v (.tup [.int i, .int j])) : ∃ a t u, v = .ref a ∧ PTup h a [Value.int i t, .int j u].toArray := by
  obtain ⟨a, vs, rfl, _, h2, h3⟩ := vrel_tup x
  obtain ⟨v1, v2, rfl, h4, h5⟩ := vrels_2 h3
  obtain ⟨t, rfl⟩ := vrel_int h4
  obtain ⟨u, rfl⟩ := vrel_int h5
  exact ⟨a, t, u, rfl, h2⟩

/-! comparisons -/
noncomputable def gLtI : Op2 := g2i fun a b => some (.bool (decide (a < b)))
noncomputable def gLtP : Op2 := fun _ a b => a.pair?.bind fun p => b.pair?.bind fun q => some (.bool (ltPair p.1 p.2 q.1 q.2))
noncomputable def gLt : Op2 := gEither gLtI gLtP

theorem op_ltP {k : Nat} : ROp Z k (compareOp .Lt) gLtP := by
  intro A D γ s v w a b c cs E hg hv hw _ hr
  obtain ⟨p, q1, hg⟩ := bind_some hg
  obtain ⟨q, q2, hg⟩ := bind_some hg
  cases hg
  obtain rfl := pair?_some q1
  obtain rfl := pair?_some q2
  obtain ⟨l, t1, t2, rfl, ho⟩ := vrel_pair hv
  obtain ⟨m, u1, u2, rfl, hp⟩ := vrel_pair hw
  have i1 := ho.isTup.typeIs
  have i2 := hp.isTup.typeIs
  obtain ⟨n1, e1⟩ := ho
  obtain ⟨n2, e2⟩ := hp
  show wpAny _ _ (richCompare .Lt _ _) _ _ _
  refine richCompare_meets_room (op := .Lt) i1 i2 F.slot_tuple_lt F.entry_tuple_lt (F.args_tuple_lt_2 _ _) (tuple_lt2 _ _ _ _ _ _ _ _ _ _ n1 n2) ⟨e1, e2, ?_⟩ (by have := hr.units; omega)
  exact ⟨(fun h => nomatch h), Kp.refl _, .bool _⟩
theorem op_lt {k : Nat} : ROp Z k (compareOp .Lt) gLt := rop_either (rop_int fun hc hq => by cases hc; exact P.lt_int (hq _ _ fun _ _ _ => .bool _)) op_ltP
end
end Mine

end
section

namespace Mine

/-! dicts of ints, in order -/
noncomputable def dget (es : List (Int × Int)) (k : Int) : Option Int := (es.find? fun p => decide (p.1 = k)).map (·.2)
noncomputable def dput (es : List (Int × Int)) (k v : Int) : List (Int × Int) := if es.any (fun p => decide (p.1 = k)) then es.map (fun p => if p.1 = k then (p.1, v) else p) else es ++ [(k, v)]

theorem dvals_get {kvs : List (Int × Value)} {es : List (Int × Int)} (h : DVals kvs es) (k : Int) : (∀ n, dget es k = some n → ∃ t, valueAt kvs k = some (.int n t)) ∧ (dget es k = none → valueAt kvs k = none) := by
  induction h with
  | nil => exact ⟨fun n h => (by cases h), fun _ => rfl⟩
  | @cons a b l1 l2 hab _ ih =>
    obtain ⟨h1, t, h2⟩ := hab
    unfold dget valueAt
    rw [List.find?_cons, List.find?_cons, h1]
    by_cases hk : b.1 = k
    · simp only [hk, decide_true]
      exact ⟨fun n hn => ⟨t, by simp at hn; rw [← hn]; simp [h2]⟩, fun hn => by simp at hn⟩
    · simp only [hk, decide_false]
      exact ih
theorem dvals_any {kvs : List (Int × Value)} {es : List (Int × Int)} (h : DVals kvs es) (k : Int) : kvs.any (fun kv => decide (kv.1 = k)) = es.any (fun p => decide (p.1 = k)) := by
  induction h with
  | nil => rfl
  | cons hab _ ih => rw [List.any_cons, List.any_cons, ih, hab.1]
theorem dvals_map {kvs : List (Int × Value)} {es : List (Int × Int)} (h : DVals kvs es) (k v : Int) (t : Tok) : DVals (kvs.map (fun kv => if kv.1 = k then (kv.1, Value.int v t) else kv)) (es.map (fun p => if p.1 = k then (p.1, v) else p)) := by
  induction h with
  | nil => exact .nil
  | @cons a b l1 l2 hab _ ih =>
    obtain ⟨h1, t', h2⟩ := hab
    rw [List.map_cons, List.map_cons]
    refine .cons ?_ ih
    rw [h1]
    by_cases hk : b.1 = k
    · rw [if_pos hk, if_pos hk]; exact ⟨rfl, t, rfl⟩
    · rw [if_neg hk, if_neg hk]; exact ⟨h1, t', h2⟩
theorem dvals_put {kvs : List (Int × Value)} {es : List (Int × Int)} (h : DVals kvs es) (k v : Int) (t : Tok) : DVals (stored kvs k (.int v t)) (dput es k v) := by
  unfold stored dput
  rw [dvals_any h k]
  split
  · exact dvals_map h k v t
  · exact Paired.snoc h ⟨rfl, t, rfl⟩
theorem dvals_length {kvs : List (Int × Value)} {es : List (Int × Int)} (h : DVals kvs es) : kvs.length = es.length := h.length
theorem dvals_keys {kvs : List (Int × Value)} {es : List (Int × Int)} (h : DVals kvs es) : kvs.map (·.1) = es.map (·.1) := by
  induction h with
  | nil => rfl
  | cons hab _ ih => rw [List.map_cons, List.map_cons, ih, hab.1]

/-! items -/
noncomputable def nthI (xs : List AVal) (k : Int) : Option AVal := if 0 ≤ k ∧ k < 2 ^ 60 then xs[k.toNat]? else none
noncomputable def nthB (b : List Nat) (k : Int) : Option AVal := if 0 ≤ k ∧ k < 2 ^ 60 ∧ b.length < 1000 then b[k.toNat]?.bind (fun n => some (.int (n : Int))) else none
noncomputable def gItemL : Op2 := fun cs a b => (lstOf cs a).bind fun xs => b.int?.bind fun k => nthI xs k
noncomputable def gItemT : Op2 := fun _ a b => a.tup?.bind fun xs => b.int?.bind fun k => nthI xs k
noncomputable def gItemD : Op2 := fun cs a b => (dctOf cs a).bind fun es => b.int?.bind fun k => (dget es k).bind fun n => some (.int n)
noncomputable def gItemB : Op2 := fun _ a b => a.bytes?.bind fun xs => b.int?.bind fun k => nthB xs k
noncomputable def gItem : Op2 := gEither gItemL (gEither gItemT (gEither gItemD gItemB))

theorem nthI_some {xs : List AVal} {k : Int} {a : AVal} (h : nthI xs k = some a) : 0 ≤ k ∧ k < 2 ^ 60 ∧ xs[k.toNat]? = some a := by
  unfold nthI at h
  split at h
  · rename_i hc; exact ⟨hc.1, hc.2, h⟩
  · cases h

section
variable {Z : Amb} {S : Sx}

theorem seqIdx {k : Int} {n : Nat} (h : 0 ≤ k) (hn : k.toNat < n) : seqIndex? k n = some k.toNat := by
  have h1 : ¬ k < 0 := by omega
  have h2 : k < (n : Int) := by omega
  simp [seqIndex?, h1, h2, h]

/-- the part of a subscript behind both evaluations -/
theorem op_item {k : Nat} {value slice : Expr} (hs : ∀ o i, subscripted slice false o i = operate [o, i] (getItem o i)) : ROp Z k (subscriptTail value slice) gItem := by
  refine rop_either ?_ (rop_either ?_ (rop_either ?_ ?_)) <;> intro A D γ s v w a b c cs E hg hv hw wd hr <;> obtain ⟨xs, q1, g1⟩ := bind_some hg <;> obtain ⟨i, q2, g2⟩ := bind_some g1 <;> clear hg g1 <;> obtain rfl := int?_some q2 <;> obtain ⟨t, rfl⟩ := vrel_int hw
  · obtain ⟨l, vs, rfl, ho, hvs⟩ := lstOf_wp q1 hv wd
    obtain ⟨h1, h2, h3⟩ := nthI_some g2
    obtain ⟨v, h4, h5⟩ := hvs.get h3
    exact tail_any ho.isList.typeIs slot_list_getitem.lookup (wpAny_getItem_list ho.isList h1 (Int.lt_trans h2 (by decide)) (by rw [List.getElem?_toArray]; exact h4) ⟨Kp.refl _, h5⟩) (hs _ _)
  · obtain rfl := tup?_some q1
    obtain ⟨l, vs, rfl, _, ho, hvs⟩ := vrel_tup hv
    obtain ⟨h1, h2, h3⟩ := nthI_some g2
    obtain ⟨v, h4, h5⟩ := hvs.get h3
    have hi := (List.getElem?_eq_some_iff.mp h4).1
    exact tail_any ho.isTup.typeIs slot_tuple_getitem.lookup (getItem_tuple ho.isTup (Int.le_trans (by decide) h1) (Int.lt_trans h2 (by decide)) (seqIdx h1 (by rw [List.size_toArray]; exact hi)) (by rw [List.getElem?_toArray]; exact h4) ⟨Kp.refl _, h5⟩) (hs _ _)
  · obtain ⟨l, kvs, rfl, hn, ho, hvs⟩ := dctOf_wp q1 hv wd
    obtain ⟨n, q3, g3⟩ := bind_some g2
    cases g3
    obtain ⟨u, hu⟩ := (dvals_get hvs i).1 n q3
    exact tail_any ho.typeIs slot_dict_getitem.lookup (wpAny_getItem_of (intKind_is _ _ i t) ho.mapOf hu ⟨Kp.toks _ _, .int _ _⟩) (hs _ _)
  · obtain rfl := bytes?_some q1
    obtain ⟨b, u, rfl, rfl⟩ := vrel_bytes hv
    obtain ⟨hc, g3⟩ := ite_some g2
    obtain ⟨n, hq, g4⟩ := bind_some g3
    cases g4
    have hlen : (toNats b).length = b.toList.length := by unfold toNats; rw [List.length_map]
    have hi := (List.getElem?_eq_some_iff.mp hq).1
    rw [hlen] at hi
    have hn : (b.toList.getD i.toNat 0).toNat = n := by
      unfold toNats at hq
      rw [List.getElem?_map] at hq
      obtain ⟨c, hb, rfl⟩ := Option.map_eq_some_iff.mp hq
      rw [List.getD_eq_getElem?_getD, hb]; rfl
    refine tail_any (typeIs_bytes _ _ _) FB.slot_bytes_getitem.lookup (getItem_bytes (l := b.toList) (by rw [← hlen]; omega) hc.1 (by omega) ?_) (hs _ _)
    refine ⟨Kp.toks _ _, ?_⟩
    rw [hn]
    exact .int _ _

theorem rp_item {k : Nat} {value slice : Expr} {pos : Pos} {f₁ f₂ : ASt → Option AVal} (R₁ : RP Z S k value f₁) (R₂ : RP Z S k slice f₂) (hs : ∀ o i, subscripted slice false o i = operate [o, i] (getItem o i)) :
    RP Z S k (.Subscript value slice pos) (bin2 gItem f₁ f₂) := by
  intro A env own D γ st s c E hf rl hr
  obtain ⟨a, b, h1, h2, h3⟩ := bin2_some hf
  refine Subscript_ (R₁.use h1 rl hr fun v s1 k1 v1 => R₂.use h2 (rl.keeps' k1) hr fun u s2 k2 v2 => ?_)
  exact wpAny_mono (op_item hs h3 (v1.keeps fun _ _ e => k2.get e) v2 ((rl.keeps' k1).keeps' k2).wd hr) (fun x s' h => ⟨(k1.trans k2).trans h.1, h.2⟩) fun _ _ x => x

/-! stores into a cell -/
theorem setItem_plain {prog : Program} {w : World} {A : Around} {E : Value → Shared → Prop} {s : Shared} {l : Addr} {items : Array Value} {k : Int} {t : Tok} {v : Value} {Q : Unit → Shared → Prop} (hl : s.heap.PlainList l items) (h0 : 0 ≤ k) (hfit : k < 2 ^ 63) (hn : k < items.size)
    (hQ : ∀ h', h'.PlainList l (items.setIfInBounds k.toNat v) → Heap.SameBut l s.heap h' → Q () { s with heap := h' }) : wpAny (model prog w) A (setItem (.ref l) (.int k t) v) Q E s := by
  have hi := hl.isList
  obtain ⟨n, ho⟩ := hl
  unfold setItem
  refine wpAny_holding ?_
  refine wpAny_bind (wpAny_sequenceKey hi.typeIs (by decide) ?_)
  refine wpAny_bind (wpAny_callSpecial?_slot (name := Str.ofString "__setitem__") hi.typeIs slot_list_setitem (wpAny_call_entry slot_list_setitem hi.typeIs entry_list_setitem ?_ (args_list_setitem _ _ _)))
  show wpAny _ _ (Builtin.List.listSubscript? (.int k t) >>= _) _ _ s
  refine wpAny_bind (wpAny_listSubscript_int (fitsIndex_of h0 hfit) ?_)
  clear hfit
  obtain ⟨j, rfl⟩ := Int.eq_ofNat_of_zero_le h0
  have hj : j < items.size := by omega
  show wpAny _ _ ((seqItemAt l j >>= fun r => pure (r.map (j, ·))) >>= _) _ _ s
  refine wpAny_bind (wpAny_bind (wpAny_seqItemAt ho rfl (wpAny_pure ?_)))
  rw [Array.getElem?_eq_getElem hj]
  show wpAny _ _ (setSeqItemAt l j v >>= _) _ _ s
  have hfin : (s.heap.update l (Obj.mapSeq (·.setIfInBounds j v))).PlainList l (items.setIfInBounds j v) := ⟨_, Heap.get?_update_self _ ho rfl⟩
  refine wpAny_bind (wpAny_setSeqItemAt ho rfl ?_)
  exact wpAny_pure ⟨.none, rfl, wpAny_pure (hQ _ hfin (Heap.SameBut.update ..))⟩

noncomputable def setCell (cs : List ACell) (i : Nat) (k : Int) (a : AVal) : Option (List ACell) := cs[i]?.bind fun c => match c.lst? with
  | some xs => if 0 ≤ k ∧ k < 2 ^ 60 ∧ k < xs.length then some (cs.set i (.lst (xs.set k.toNat a))) else none
  | none => c.dct?.bind fun es => a.int?.bind fun n => if es.length < 1000 then some (cs.set i (.dct (dput es k n))) else none

theorem idx_nodup {l : List Addr} (hn : l.Nodup) {i j : Nat} {x : Addr} (hi : l[i]? = some x) (hj : l[j]? = some x) : i = j :=
  (List.getElem?_inj (List.getElem?_eq_some_iff.mp hi).1 hn).mp (hi.trans hj.symm)

/-- one cell changes -/
theorem Wd.set {D γ : List Addr} {cs : List ACell} {h h' : Heap} {i : Nat} {a : Addr} {c : ACell} (w : Wd Z D γ cs h) (hi : γ[i]? = some a) (hs : ∀ b o, b ≠ a → h.get? b = some o → h'.get? b = some o) (hc : CellR Z h' D γ a c) : Wd Z D γ (cs.set i c) h' := by
  have haD := w.γD a (List.mem_of_getElem? hi)
  exact {
    base := fun b o e => hs b o (fun q => by have := (w.live a haD).1; rw [← q, e] at this; cases this) (w.base b o e)
    live := fun d hd => ⟨(w.live d hd).1, by
      by_cases q : d = a
      · subst q; exact hc.live
      · obtain ⟨o, e⟩ := (w.live d hd).2; exact ⟨o, hs d o q e⟩⟩
    γD := w.γD
    γnd := w.γnd
    cells := ⟨by rw [List.length_set]; exact w.cells.1, fun j b d h1 h2 => by
      rcases getElem?_set_cases h2 with ⟨rfl, q⟩ | ⟨q, h3⟩
      · cases q
        rw [hi] at h1; cases h1
        exact hc
      · have hba : b ≠ a := fun e => q (idx_nodup w.γnd hi (e ▸ h1))
        exact (w.cells.2 j b d h1 h3).mono (fun b' o hb e => hs b' o (fun q => hb (q ▸ haD)) e) fun o e => hs b o hba e⟩ }

theorem setCell_wp {A : Around} {D γ : List Addr} {s : Shared} {i : Nat} {k : Int} {ov v : Value} {t : Tok} {a : AVal} {cs cs' : List ACell} {E : Value → Shared → Prop} (hg : setCell cs i k a = some cs') (ho : VRel Z s.heap D γ ov (.cell i)) (hv : VRel Z s.heap D γ v a) (w : Wd Z D γ cs s.heap) :
    wpAny Z.M A (setItem ov (.int k t) v) (fun _ s' => Chg γ s s' ∧ Wd Z D γ cs' s'.heap) E s := by
  obtain ⟨l, rfl, hi⟩ := vrel_cell ho
  obtain ⟨c, hc, g1⟩ := bind_some hg
  clear hg
  have hcr := w.cells.2 i l c hi hc
  have hlγ := List.mem_of_getElem? hi
  have hlD := w.γD l hlγ
  split at g1
  · rename_i xs hx
    obtain rfl := clst?_some hx
    obtain ⟨vs, hp, hvs⟩ := cell_lst hcr
    obtain ⟨hk, g2⟩ := ite_some g1
    cases g2
    have hlen := hvs.length
    refine setItem_plain hp hk.1 (Int.lt_trans hk.2.1 (by decide)) (by rw [List.size_toArray, hlen]; exact hk.2.2) fun h' hp' hs' => ?_
    refine ⟨⟨h', _, rfl, fun b o hb e => hs'.extBut b o (fun q => hb (q ▸ hlγ)) e⟩, w.set hi (fun b o hb e => hs'.extBut b o hb e) ?_⟩
    have hD : ∀ b o, b ∉ D → s.heap.get? b = some o → h'.get? b = some o := fun b o hb e => hs'.extBut b o (fun q => hb (q ▸ hlD)) e
    refine .lst (vs := vs.set k.toNat v) ?_ ((hvs.mono hD).set _ (hv.mono hD))
    rw [List.setIfInBounds_toArray] at hp'
    exact hp'
  · obtain ⟨es, hx, g2⟩ := bind_some g1
    obtain ⟨n, hn, g3⟩ := bind_some g2
    clear g1 g2
    obtain rfl := cdct?_some hx
    obtain rfl := int?_some hn
    obtain ⟨kvs, hm, hd, hvs⟩ := cell_dct hcr
    obtain ⟨hlt, g4⟩ := ite_some g3
    cases g4
    obtain ⟨u, rfl⟩ := vrel_int hv
    refine wpAny_setItem_pairs (intKind_is _ _ k t) hd (fun h' hd' hs' => ?_) (by rw [dvals_length hvs, sizeLine_eq]; omega)
    refine ⟨⟨h', _, rfl, fun b o hb e => hs'.extBut b o (fun q => hb (q ▸ hlγ)) e⟩, w.set hi (fun b o hb e => hs'.extBut b o hb e) ?_⟩
    exact .dct hm hd' (dvals_put hvs k n u)

noncomputable def sSet (fv fo fi : ASt → Option AVal) : AS := fun st => (fv st).bind fun a => (fo st).bind fun o => (fi st).bind fun i => o.cell?.bind fun j => i.int?.bind fun k => (setCell st.cells j k a).bind fun cs' => some (.next, { st with cells := cs' })

theorem rs_set {k : Nat} {o i value : Expr} {p pos : Pos} {fv fo fi : ASt → Option AVal} (Rv : RP Z S k value fv) (Ro : RP Z S k o fo) (Ri : RP Z S k i fi) (hs : ∀ env, swapsWith value (some (.Subscript o i p)) pos.line env = pure false) :
    RSt Z S k (.Assign [.Subscript o i p] value pos) (sSet fv fo fi) := by
  intro A env own D γ st s fl st' E hf r hr
  obtain ⟨a, q1, f1⟩ := bind_some hf
  obtain ⟨oa, q2, f2⟩ := bind_some f1
  obtain ⟨ia, q3, f3⟩ := bind_some f2
  obtain ⟨j, q5, f4⟩ := bind_some f3
  obtain ⟨kk, q6, f5⟩ := bind_some f4
  obtain ⟨cs', q4, f6⟩ := bind_some f5
  clear hf f1 f2 f3 f4 f5
  obtain rfl := cell?_some q5
  obtain rfl := int?_some q6
  cases f6
  refine wpAny_Assign_Subscript (Rv.use q1 r hr fun v s1 k1 v1 => Ro.use q2 (r.keeps' k1) hr fun ov s2 k2 v2 => Ri.use q3 ((r.keeps' k1).keeps' k2) hr fun iv s3 k3 v3 => ?_) (hs env)
  have r3 := ((r.keeps' k1).keeps' k2).keeps' k3
  obtain ⟨t, rfl⟩ := vrel_int v3
  refine wpAny_mono (setCell_wp q4 (v2.keeps fun _ _ e => k3.get e) (v1.keeps fun _ _ e => k3.get (k2.get e)) r3.wd) (fun _ s4 h => ?_) fun _ _ x => x
  have k13 := (k1.trans k2).trans k3
  exact .of_keep ((k13.chg _).trans (h.1.mono fun a h => List.mem_append_right own h) fun b hb => .inl hb) (r3.cellsTo h.1 h.2) .next
end
end Mine

end
section

namespace Mine
section
variable {Z : Amb} {S : Sx}

/-! what no run comes to -/
noncomputable def noP : ASt → Option AVal := fun _ => none
noncomputable def noT : ASt → Option Bool := fun _ => none
noncomputable def noS : AS := fun _ => none
theorem rp_no {k : Nat} {e : Expr} : RP Z S k e noP := by intro A env own D γ st s a E hf; cases hf
theorem rt_no {k : Nat} {e : Expr} : RT Z S k e noT := by intro A env own D γ st s a E hf; cases hf
theorem rst_no {k : Nat} {t : Stmt} : RSt Z S k t noS := by intro A env own D γ st s fl st' E hf; cases hf
theorem rss_no {k : Nat} {ts : List Stmt} : RSs Z S k ts noS := by intro A env own D γ st s fl st' E hf; cases hf

/-! truth -/
noncomputable def truthA (cs : List ACell) (a : AVal) : Option Bool := match a with
  | .bool b => some b
  | .int i => some (i != 0)
  | .none => some false
  | a => (lstOf cs a).bind fun xs => if xs.length < 1000 then some (!xs.isEmpty) else none

theorem truth_wp {A : Around} {D γ : List Addr} {s : Shared} {v : Value} {a : AVal} {b : Bool} {cs : List ACell} {E : Value → Shared → Prop} (hg : truthA cs a = some b) (hv : VRel Z s.heap D γ v a) (w : Wd Z D γ cs s.heap) :
    wpAny Z.M A (truthy v) (fun c s' => Kp s s' ∧ c = b) E s := by
  unfold truthA at hg
  split at hg
  · cases hg; obtain rfl := vrel_bool hv; exact wpAny_truthy_bool ⟨Kp.refl _, rfl⟩
  · cases hg; obtain ⟨t, rfl⟩ := vrel_int hv; exact P.truthy_int ⟨Kp.refl _, rfl⟩
  · cases hg; obtain rfl := vrel_none hv; exact truthy_none ⟨Kp.refl _, rfl⟩
  · obtain ⟨xs, q1, g1⟩ := bind_some hg
    obtain ⟨h1, g2⟩ := ite_some g1
    cases g2
    obtain ⟨l, vs, rfl, hp, hvs⟩ := lstOf_wp q1 hv w
    have hlen := hvs.length
    refine wpAny_truthy_list hp.isList (by rw [List.size_toArray]; omega) ⟨Kp.toks _ _, ?_⟩
    cases hvs <;> rfl

noncomputable def tVal (f : ASt → Option AVal) (st : ASt) : Option Bool := (f st).bind (truthA st.cells)
theorem rt_val {k : Nat} {e : Expr} {f : ASt → Option AVal} (R : RP Z S k e f) (he : ∀ env whole, isTrue e env whole = (do let v ← whole; standAt e.pos; holding [v] (truthy v))) : RT Z S k e (tVal f) := by
  intro A env own D γ st s b E hf r hr
  unfold tVal at hf
  cases q : f st with
  | none => rw [q] at hf; cases hf
  | some a =>
    rw [q] at hf
    refine isTrue_plain (R.use q r hr fun v s1 k1 v1 => ?_) (he _ _)
    exact wpAny_mono (truth_wp hf v1 (r.keeps' k1).wd) (fun c s2 h => ⟨k1.trans h.1, h.2⟩) fun _ _ x => x

noncomputable def tNot (f : ASt → Option Bool) (st : ASt) : Option Bool := (f st).map (!·)
theorem rt_not {k : Nat} {e : Expr} {pos : Pos} {f : ASt → Option Bool} (R : RT Z S k e f) : RT Z S k (.UnaryOp .Not e pos) (tNot f) := by
  intro A env own D γ st s b E hf r hr
  unfold tNot at hf
  cases q : f st with
  | none => rw [q] at hf; cases hf
  | some a =>
    rw [q] at hf; cases hf
    exact isTrue_not (R.use q r hr fun s1 k1 => ⟨k1, rfl⟩)

noncomputable def tAnd (f g : ASt → Option Bool) (st : ASt) : Option Bool := match f st with
  | some true => g st
  | r => r
noncomputable def tOr (f g : ASt → Option Bool) (st : ASt) : Option Bool := match f st with
  | some false => g st
  | r => r
theorem rt_and_nil {k : Nat} {pos : Pos} : RT Z S k (.BoolOp .And [] pos) (fun _ => some true) := by
  intro A env own D γ st s b E hf r hr
  cases hf
  exact isTrue_and_nil ⟨Kp.refl _, rfl⟩
theorem rt_or_nil {k : Nat} {pos : Pos} : RT Z S k (.BoolOp .Or [] pos) (fun _ => some false) := by
  intro A env own D γ st s b E hf r hr
  cases hf
  exact isTrue_or_nil ⟨Kp.refl _, rfl⟩
theorem rt_and {k : Nat} {e : Expr} {es : List Expr} {pos : Pos} {f g : ASt → Option Bool} (R : RT Z S k e f) (R2 : RT Z S k (.BoolOp .And es pos) g) : RT Z S k (.BoolOp .And (e :: es) pos) (tAnd f g) := by
  intro A env own D γ st s b E hf r hr
  unfold tAnd at hf
  cases q : f st with
  | none => rw [q] at hf; cases hf
  | some a =>
    rw [q] at hf
    refine isTrue_and (R.use q r hr fun s1 k1 => ?_)
    cases a with
    | false => cases hf; exact ⟨k1, rfl⟩
    | true => exact wpAny_mono (R2 hf (r.keeps' k1) hr) (fun c s2 h => ⟨k1.trans h.1, h.2⟩) fun _ _ x => x
theorem rt_or {k : Nat} {e : Expr} {es : List Expr} {pos : Pos} {f g : ASt → Option Bool} (R : RT Z S k e f) (R2 : RT Z S k (.BoolOp .Or es pos) g) : RT Z S k (.BoolOp .Or (e :: es) pos) (tOr f g) := by
  intro A env own D γ st s b E hf r hr
  unfold tOr at hf
  cases q : f st with
  | none => rw [q] at hf; cases hf
  | some a =>
    rw [q] at hf
    refine isTrue_or (R.use q r hr fun s1 k1 => ?_)
    cases a with
    | true => cases hf; exact ⟨k1, rfl⟩
    | false => exact wpAny_mono (R2 hf (r.keeps' k1) hr) (fun c s2 h => ⟨k1.trans h.1, h.2⟩) fun _ _ x => x

/-- a <= c <= b -/
noncomputable def tChain (g1 g2 : Op2) (f1 f2 f3 : ASt → Option AVal) (st : ASt) : Option Bool := match bin2 g1 f1 f2 st with
  | some (.bool true) => (match bin2 g2 f2 f3 st with | some (.bool b) => some b | _ => none)
  | some (.bool false) => some false
  | _ => none
theorem rt_chain {k : Nat} {l m u : Expr} {op1 op2 : CmpOp} {pos : Pos} {f1 f2 f3 : ASt → Option AVal} {g1 g2 : Op2} (R1 : RP Z S k l f1) (R2 : RP Z S k m f2) (R3 : RP Z S k u f3) (h1 : ROp Z k (compareOp op1) g1) (h2 : ROp Z k (compareOp op2) g2)
    (hm : lastMarks [op1, op2] [m, u] = false) : RT Z S k (.Compare l [op1, op2] [m, u] pos) (tChain g1 g2 f1 f2 f3) := by
  intro A env own D γ st s b E hf r hr
  unfold tChain at hf
  have first : ∀ b1, bin2 g1 f1 f2 st = some (.bool b1) → (b1 = true → ∃ c, bin2 g2 f2 f3 st = some (.bool c) ∧ b = c) → (b1 = false → b = false) →
      wpAny Z.M A (isTrue (.Compare l [op1, op2] [m, u] pos) env (eval (.Compare l [op1, op2] [m, u] pos) env)) (fun v s' => Kp s s' ∧ v = b) E s := by
    intro b1 q1 ht hfl
    obtain ⟨a, c, p1, p2, p3⟩ := bin2_some q1
    refine isTrue_chain (R1.use p1 r hr fun v s1 k1 v1 => ?_) hm
    show wpAny _ _ (do
      let rv ← holding [v] (eval m env)
      standAt pos
      let c ← holding [v, rv] (compareOp op1 v rv)
      release [v, rv] [c]
      if ← holding [c, rv] (truthy c) then testChain pos rv [op2] [eval u env] else pure false) _ _ _
    refine wpAny_bind (wpAny_holding (R2.use p2 (r.keeps' k1) hr fun rv s2 k2 v2 => wpAny_bind (wpAny_standAt (wpAny_bind (wpAny_holding ?_)))))
    refine wpAny_mono (h1 p3 (v1.keeps fun _ _ e => k2.get e) v2 ((r.keeps' k1).keeps' k2).wd hr) (fun x s3 h => wpAny_bind (wpAny_release' (wpAny_bind (wpAny_holding ?_)))) fun _ _ x => x
    obtain ⟨k3, hx⟩ := h
    cases hx
    refine wpAny_truthy_bool ?_
    cases b1 with
    | false => 
      rw [hfl rfl]
      exact wpAny_pure ⟨(k1.trans k2).trans k3, rfl⟩
    | true =>
      obtain ⟨c', q2, rfl⟩ := ht rfl
      obtain ⟨a', d, p4, p5, p6⟩ := bin2_some q2
      rw [p2] at p4; cases p4
      show wpAny _ _ (do
        let rv' ← holding [rv] (eval u env)
        standAt pos
        let c ← operate [rv, rv'] (compareOp op2 rv rv')
        holding [c] (truthy c)) _ _ _
      have r3 := ((r.keeps' k1).keeps' k2).keeps' k3
      refine wpAny_bind (wpAny_holding (R3.use p5 r3 hr fun w' s4 k4 v4 => wpAny_bind (wpAny_standAt (wpAny_bind (wpAny_operate' ?_)))))
      refine wpAny_mono (h2 p6 (v2.keeps fun _ _ e => k4.get (k3.get e)) v4 (r3.keeps' k4).wd hr) (fun x s5 h => wpAny_holding ?_) fun _ _ x => x
      obtain ⟨k5, hx⟩ := h
      cases hx
      exact wpAny_truthy_bool ⟨(((k1.trans k2).trans k3).trans k4).trans k5, rfl⟩
  split at hf
  · rename_i q1
    split at hf
    · rename_i c q2
      cases hf
      exact first true q1 (fun _ => ⟨_, q2, rfl⟩) (fun h => by cases h)
    · cases hf
  · rename_i q1
    cases hf
    exact first false q1 (fun h => by cases h) fun _ => rfl
  · cases hf

/-! expressions that fork -/
noncomputable def pIf (c : ASt → Option Bool) (f g : ASt → Option AVal) (st : ASt) : Option AVal := match c st with
  | some true => f st
  | some false => g st
  | none => none
theorem rp_if {k : Nat} {e b o : Expr} {pos : Pos} {c : ASt → Option Bool} {f g : ASt → Option AVal} (R : RT Z S k e c) (R1 : RP Z S k b f) (R2 : RP Z S k o g) : RP Z S k (.IfExp e b o pos) (pIf c f g) := by
  intro A env own D γ st s a E hf r hr
  unfold pIf at hf
  split at hf
  · rename_i q
    refine IfExp_ (R.use q r hr fun s1 k1 => ?_)
    exact wpAny_mono (R1 hf (r.keeps' k1) hr) (fun v s2 h => ⟨k1.trans h.1, h.2⟩) fun _ _ x => x
  · rename_i q
    refine IfExp_ (R.use q r hr fun s1 k1 => ?_)
    exact wpAny_mono (R2 hf (r.keeps' k1) hr) (fun v s2 h => ⟨k1.trans h.1, h.2⟩) fun _ _ x => x
  · cases hf

noncomputable def pAnd (f g : ASt → Option AVal) (st : ASt) : Option AVal := match f st with
  | some a => (match truthA st.cells a with
    | some true => g st
    | some false => some a
    | none => none)
  | none => none
theorem rp_one {k : Nat} {op : BoolOp} {e : Expr} {pos : Pos} {f : ASt → Option AVal} (R : RP Z S k e f) : RP Z S k (.BoolOp op [e] pos) f := fun hf r hr => BoolOp_one (R hf r hr)
theorem rp_and {k : Nat} {e e2 : Expr} {es : List Expr} {pos : Pos} {f g : ASt → Option AVal} (R : RP Z S k e f) (R2 : RP Z S k (.BoolOp .And (e2 :: es) pos) g) : RP Z S k (.BoolOp .And (e :: e2 :: es) pos) (pAnd f g) := by
  intro A env own D γ st s a E hf r hr
  unfold pAnd at hf
  split at hf
  · rename_i b q
    refine BoolOp_and (R.use q r hr fun v s1 k1 v1 => ?_)
    cases q2 : truthA st.cells b with
    | none => rw [q2] at hf; cases hf
    | some t =>
      rw [q2] at hf
      refine wpAny_mono (truth_wp q2 v1 (r.keeps' k1).wd) (fun c s2 h => ?_) fun _ _ x => x
      obtain ⟨k2, rfl⟩ := h
      cases c with
      | true => exact wpAny_mono (R2 hf ((r.keeps' k1).keeps' k2) hr) (fun v s3 h => ⟨(k1.trans k2).trans h.1, h.2⟩) fun _ _ x => x
      | false => cases hf; exact ⟨k1.trans k2, v1.keeps fun _ _ e => k2.get e⟩
  · cases hf

noncomputable def pNeg (f : ASt → Option AVal) (st : ASt) : Option AVal := (f st).bind fun a => a.int?.bind fun i => some (.int (-i))
theorem rp_neg {k : Nat} {e : Expr} {pos : Pos} {f : ASt → Option AVal} (R : RP Z S k e f) : RP Z S k (.UnaryOp .USub e pos) (pNeg f) := by
  intro A env own D γ st s a E hf r hr
  obtain ⟨b, q, f1⟩ := bind_some hf
  obtain ⟨i, q2, f2⟩ := bind_some f1
  clear hf f1
  obtain rfl := int?_some q2
  cases f2
  refine UnaryOp_ (R.use q r hr fun v s1 k1 v1 => ?_)
  obtain ⟨t, rfl⟩ := vrel_int v1
  exact P.neg_int ⟨k1.trans (Kp.toks _ _), .int _ _⟩

/-! is -/
noncomputable def AVal.const? : AVal → Option Value
  | .none => some .none
  | .bool b => some (.bool b)
  | .cst v => some v
  | _ => Option.none
theorem const?_some {h : Heap} {D γ : List Addr} {a : AVal} {v u : Value} (hg : a.const? = some v) (hv : VRel Z h D γ u a) : u = v := by
  unfold AVal.const? at hg
  split at hg <;> cases hg
  · exact vrel_none hv
  · exact vrel_bool hv
  · exact vrel_cst hv
noncomputable def gIs : Op2 := fun _ a b => a.const?.bind fun v => b.const?.bind fun w => if plainIs v w = true then some (.bool (v == w)) else none
noncomputable def gIsNot : Op2 := fun _ a b => a.const?.bind fun v => b.const?.bind fun w => if plainIs v w = true then some (.bool (!(v == w))) else none
theorem op_is {k : Nat} : ROp Z k (compareOp .Is) gIs := by
  intro A D γ s v w a b c cs E hg hv hw _ _
  obtain ⟨v', q1, g1⟩ := bind_some hg
  obtain ⟨w', q2, g2⟩ := bind_some g1
  obtain ⟨h, g3⟩ := ite_some g2
  cases g3
  obtain rfl := const?_some q1 hv
  obtain rfl := const?_some q2 hw
  exact wpAny_is_plain h ⟨Kp.refl _, .bool _⟩
theorem op_isNot {k : Nat} : ROp Z k (compareOp .IsNot) gIsNot := by
  intro A D γ s v w a b c cs E hg hv hw _ _
  obtain ⟨v', q1, g1⟩ := bind_some hg
  obtain ⟨w', q2, g2⟩ := bind_some g1
  obtain ⟨h, g3⟩ := ite_some g2
  cases g3
  obtain rfl := const?_some q1 hv
  obtain rfl := const?_some q2 hw
  exact wpAny_isNot_plain h ⟨Kp.refl _, .bool _⟩

/-! displays -/
noncomputable def pTup (f : ASt → Option (List AVal)) (st : ASt) : Option AVal := match f st with
  | some xs => if xs.length < 1000 then some (.tup xs) else none
  | none => none
noncomputable def pLst (f : ASt → Option (List AVal)) (st : ASt) : Option AVal := match f st with
  | some xs => if xs.length < 1000 then some (.lst xs) else none
  | none => none

theorem newTuple_wp {A : Around} {D γ : List Addr} {s : Shared} {vs : List Value} {xs : List AVal} {cs : List ACell} {E : Value → Shared → Prop} (hx : xs.length < 1000) (hv : VRels Z s.heap D γ vs xs) (w : Wd Z D γ cs s.heap) :
    wpAny Z.M A (newTuple vs) (fun v s' => Kp s s' ∧ VRel Z s'.heap D γ v (.tup xs)) E s := by
  have hl := hv.length
  refine wpAny_newObj_type ?_ (by show vs.toArray.size ≤ sizeLine; rw [List.size_toArray, sizeLine_eq]; omega)
  have k1 : Kp s { s with heap := s.heap.push { cls := .type "tuple", data := .seq vs.toArray } } := ⟨_, _, rfl, fun b o e => Heap.get?_push_of_some _ e⟩
  exact ⟨k1, .tup w.new ⟨0, Heap.get?_push_size _ rfl⟩ (hv.keeps fun _ _ e => k1.get e)⟩
theorem newList_wp {A : Around} {D γ : List Addr} {s : Shared} {vs : List Value} {xs : List AVal} {cs : List ACell} {E : Value → Shared → Prop} (hx : xs.length < 1000) (hv : VRels Z s.heap D γ vs xs) (w : Wd Z D γ cs s.heap) :
    wpAny Z.M A (newList vs) (fun v s' => Kp s s' ∧ VRel Z s'.heap D γ v (.lst xs)) E s := by
  have hl := hv.length
  refine wpAny_newObj_type ?_ (by show vs.toArray.size ≤ sizeLine; rw [List.size_toArray, sizeLine_eq]; omega)
  have k1 : Kp s { s with heap := s.heap.push { cls := .type "list", data := .seq vs.toArray } } := ⟨_, _, rfl, fun b o e => Heap.get?_push_of_some _ e⟩
  exact ⟨k1, .lst w.new ⟨0, Heap.get?_push_size _ rfl⟩ (hv.keeps fun _ _ e => k1.get e)⟩

theorem rp_tup {k : Nat} {es : List Expr} {n : Nat} {pos : Pos} {f : ASt → Option (List AVal)} (R : RPs Z S k es f) : RP Z S k (.Tuple es n pos) (pTup f) := by
  intro A env own D γ st s a E hf r hr
  unfold pTup at hf
  split at hf
  · rename_i xs q
    split at hf
    · cases hf
      refine Tuple_ (wpAny_mono (R q r hr) (fun vs s1 h => ?_) fun _ _ x => x)
      exact wpAny_mono (newTuple_wp (by assumption) h.2 (r.keeps' h.1).wd) (fun v s2 h2 => ⟨h.1.trans h2.1, h2.2⟩) fun _ _ x => x
    · cases hf
  · cases hf
theorem rp_lst {k : Nat} {es : List Expr} {pos : Pos} {f : ASt → Option (List AVal)} (R : RPs Z S k es f) : RP Z S k (.List es pos) (pLst f) := by
  intro A env own D γ st s a E hf r hr
  unfold pLst at hf
  split at hf
  · rename_i xs q
    split at hf
    · cases hf
      refine List_ (wpAny_mono (R q r hr) (fun vs s1 h => ?_) fun _ _ x => x)
      exact wpAny_mono (newList_wp (by assumption) h.2 (r.keeps' h.1).wd) (fun v s2 h2 => ⟨h.1.trans h2.1, h2.2⟩) fun _ _ x => x
    · cases hf
  · cases hf
end
end Mine

end
section

namespace Mine
section
variable {Z : Amb} {S : Sx}

/-- the ints of a row -/
noncomputable def intsOf : List AVal → Option (List Int)
  | [] => some []
  | x :: xs => x.int?.bind fun i => (intsOf xs).bind fun is => some (i :: is)
theorem intsOf_eq : ∀ {xs : List AVal} {ns : List Int}, intsOf xs = some ns → xs = ns.map .int
  | [], ns, h => by cases h; rfl
  | x :: xs, ns, h => by
    obtain ⟨i, q1, h1⟩ := bind_some h
    obtain ⟨is, q2, h2⟩ := bind_some h1
    cases h2
    rw [int?_some q1, intsOf_eq q2]; rfl
theorem intsOf_map : ∀ ns : List Int, intsOf (ns.map .int) = some ns
  | [] => rfl
  | n :: ns => by
    show (intsOf (ns.map .int)).bind _ = _
    rw [intsOf_map ns]; rfl
theorem ints_are {h : Heap} {D γ : List Addr} : ∀ {ns : List Int} {vs : List Value}, VRels Z h D γ vs (ns.map .int) → IntsAre vs ns
  | [], vs, x => by obtain rfl := vrels_nil x; exact .nil
  | n :: ns, vs, x => by
    obtain ⟨v, vs', rfl, h1, h2⟩ := vrels_cons x
    obtain ⟨t, rfl⟩ := vrel_int h1
    exact .cons n t (ints_are h2)
theorem are_ints {h : Heap} {D γ : List Addr} {ns : List Int} {vs : List Value} (x : IntsAre vs ns) : VRels Z h D γ vs (ns.map .int) := by
  induction x with
  | nil => exact .nil
  | cons n t _ ih => exact .cons (.int n t) ih

/-! + and * -/
noncomputable def gAddI : Op2 := g2i fun a b => some (.int (a + b))
noncomputable def gAddL : Op2 := fun cs a b => (lstOf cs a).bind fun xs => (lstOf cs b).bind fun ys => if xs.length + ys.length < 1000 then some (.lst (xs ++ ys)) else none
noncomputable def gAdd : Op2 := gEither gAddI gAddL
theorem op_addL {k : Nat} : ROp Z k (binaryOp .Add) gAddL := by
  intro A D γ s v w a b c cs E hg hv hw wd hr
  obtain ⟨xs, q1, g1⟩ := bind_some hg
  obtain ⟨ys, q2, g2⟩ := bind_some g1
  obtain ⟨hlt, g3⟩ := ite_some g2
  cases g3
  obtain ⟨l, vs, rfl, ⟨n, h1⟩, v1⟩ := lstOf_wp q1 hv wd
  obtain ⟨m, us, rfl, ⟨n2, h2⟩, v2⟩ := lstOf_wp q2 hw wd
  have l1 := v1.length
  have l2 := v2.length
  refine P.add_list h1 h2 ?_ (by rw [List.size_toArray, List.size_toArray, sizeLine_eq]; omega)
  have k1 : Kp s { s with heap := s.heap.push { cls := .type "list", data := .seq (vs.toArray ++ us.toArray) } } := ⟨_, _, rfl, fun b o e => Heap.get?_push_of_some _ e⟩
  refine ⟨k1, .lst (vs := vs ++ us) wd.new ⟨0, ?_⟩ ((v1.append v2).keeps fun _ _ e => k1.get e)⟩
  rw [← List.append_toArray]
  exact Heap.get?_push_size _ rfl
theorem op_add {k : Nat} : ROp Z k (binaryOp .Add) gAdd := rop_either (rop_int fun hc hq => by cases hc; exact P.add_int (hq _ _ fun _ _ _ => .int _ _)) op_addL

noncomputable def gMulI : Op2 := g2i fun a b => if a.natAbs < 2 ^ 62 then some (.int (a * b)) else none
/-- [x] * n -/
noncomputable def gMulL : Op2 := fun cs a b => (lstOf cs a).bind fun xs => b.int?.bind fun n => xs.head?.bind fun x => if xs.length = 1 ∧ 0 ≤ n ∧ n < 1000 then some (.lst (List.replicate n.toNat x)) else none
noncomputable def gMul : Op2 := gEither gMulI gMulL
theorem fold_app : ∀ (n : Nat) (v : Value) (acc : Array Value), List.foldl (fun x1 x2 => x1 ++ x2) acc (List.replicate n #[v]) = acc ++ (List.replicate n v).toArray
  | 0, v, acc => by simp
  | n + 1, v, acc => by
    rw [List.replicate_succ, List.foldl_cons, fold_app n v]
    rw [List.replicate_succ, Array.append_assoc]
    exact congrArg (acc ++ ·) (List.append_toArray [v] _)
theorem vrels_rep {h : Heap} {D γ : List Addr} {v : Value} {a : AVal} (x : VRel Z h D γ v a) : ∀ n : Nat, VRels Z h D γ (List.replicate n v) (List.replicate n a)
  | 0 => .nil
  | n + 1 => .cons x (vrels_rep x n)
theorem op_mulL {k : Nat} : ROp Z k (binaryOp .Mult) gMulL := by
  intro A D γ s v w a b c cs E hg hv hw wd hr
  obtain ⟨xs, q1, g1⟩ := bind_some hg
  obtain ⟨n, q2, g2⟩ := bind_some g1
  obtain ⟨x, q3, g3⟩ := bind_some g2
  obtain ⟨hc, g4⟩ := ite_some g3
  cases g4
  obtain rfl := int?_some q2
  obtain ⟨t, rfl⟩ := vrel_int hw
  obtain ⟨l, vs, rfl, ⟨e, h1⟩, v1⟩ := lstOf_wp q1 hv wd
  match xs, hc.1, q3 with
  | [y], _, q3 =>
    cases q3
    obtain ⟨u, rfl, h2⟩ := vrels_1 v1
    refine wpAny_binaryOp_repeat_ref (T := "list") (U := "int") (by decide) ⟨_, h1, rfl⟩ (fun s' => typeIs_int s' n t) noFill_list_mul F.fills_int_mul F.slot_int_rmul repeat_list F.slot_int_index.lookup
      (call_meets F.slot_int_rmul (typeIs_int s n t) F.entry_int_rmul (F.args_int_rmul_2 _ _) (int___rmul___int_list n t l [u].toArray e)
        ⟨h1, rfl, ⟨_, h1, rfl⟩, call_meets F.slot_list_mul ⟨_, h1, rfl⟩ F.entry_list_mul (F.args_list_mul_2 _ _)
          (AutoListH.list___mul___list_int_3 l [u].toArray e n t (by simp [Builtin.List.listFitsIndex]; omega) (by simp; omega) (by simp [Builtin.List.listTooLong, sizeLine]; omega))
          ⟨h1, ?_⟩⟩)
    have e0 : (List.foldl (fun x1 x2 => x1 ++ x2) #[] (List.replicate (if ([u].toArray).isEmpty = true then 0 else n.toNat) [u].toArray)) = (List.replicate n.toNat u).toArray := by
      rw [if_neg (by simp)]
      rw [fold_app n.toNat u #[]]
      simp
    rw [e0]
    have k1 : Kp s { s with heap := s.heap.push { cls := .type "list", data := .seq (List.replicate n.toNat u).toArray } } := ⟨_, _, rfl, fun b o e => Heap.get?_push_of_some _ e⟩
    exact ⟨k1, .lst wd.new ⟨0, Heap.get?_push_size _ rfl⟩ (vrels_rep (h2.keeps fun _ _ e => k1.get e) _)⟩
theorem op_mul {k : Nat} : ROp Z k (binaryOp .Mult) gMul := rop_either (rop_int fun hc hq => by
  obtain ⟨h, hc⟩ := ite_some hc
  cases hc; exact P.mul_int (hq _ _ fun _ _ _ => .int _ _) (IntMulOk.of_left (intBits_small h))) op_mulL

/-! == and != -/
noncomputable def boolsOf : List AVal → Option (List Bool)
  | [] => some []
  | .bool b :: xs => (boolsOf xs).bind fun bs => some (b :: bs)
  | _ => none
theorem bools_are {h : Heap} {D γ : List Addr} : ∀ {xs : List AVal} {bs : List Bool} {vs : List Value}, boolsOf xs = some bs → VRels Z h D γ vs xs → vs = bs.map .bool
  | [], bs, vs, e, x => by cases e; exact vrels_nil x
  | .bool b :: xs, bs, vs, e, x => by
    obtain ⟨bs', q, e1⟩ := bind_some e
    cases e1
    obtain ⟨v, vs', rfl, h1, h2⟩ := vrels_cons x
    rw [vrel_bool h1, bools_are q h2]; rfl

noncomputable def gEqI : Op2 := g2i fun a b => some (.bool (a == b))
/-- rows of truths, alike -/
noncomputable def gEqL : Op2 := fun cs a b => (lstOf cs a).bind fun xs => (lstOf cs b).bind fun ys => (boolsOf xs).bind fun p => (boolsOf ys).bind fun q => if p = q then some (.bool true) else none
noncomputable def dEq (es fs : List (Int × Int)) : Bool := es.length == fs.length && es.all fun p => dget fs p.1 == some p.2
noncomputable def gEqD : Op2 := fun cs a b => (dctOf cs a).bind fun es => (dctOf cs b).bind fun fs => if es.length = fs.length → es.all (fun p => (dget fs p.1).isSome) = true then some (.bool (dEq es fs)) else none
noncomputable def gEq : Op2 := gEither gEqI (gEither gEqL gEqD)

theorem hits_of {A : Around} {s : Shared} {kb : List (Int × Value)} {fs : List (Int × Int)} (hb : DVals kb fs) : ∀ {ka : List (Int × Value)} {es : List (Int × Int)}, DVals ka es → es.all (fun p => (dget fs p.1).isSome) = true →
    KeqHits A s kb ka (es.all fun p => dget fs p.1 == some p.2)
  | [], [], _, _ => .nil
  | (k, v) :: ka, (k', n) :: es, h, hall => by
    rw [List.all_cons, Bool.and_eq_true] at hall
    cases h with
    | cons hab ht =>
      obtain ⟨rfl, t, hv⟩ := hab
      obtain rfl : v = Value.int n t := hv
      obtain ⟨m, hm⟩ := Option.isSome_iff_exists.mp hall.1
      obtain ⟨u, hu⟩ := (dvals_get hb k).1 m hm
      rw [List.all_cons, hm]
      have e : (some m == some n) = (n == m) := by
        by_cases h : n = m
        · subst h; simp
        · have h1 : (n == m) = false := by simpa using h
          have h2 : (some m == some n) = false := by simp [Ne.symm h]
          rw [h1, h2]
      rw [show ((some m : Option Int) == some ((k, n) : Int × Int).2) = (n == m) from e]
      exact .hit hu ((MeetsSeq.EqGives.int n m t u).at _ _) (hits_of hb ht hall.2)

theorem op_eqL {k : Nat} : ROp Z k (compareOp .Eq) gEqL := by
  intro A D γ s v w a b c cs E hg hv hw wd hr
  obtain ⟨xs, q1, g1⟩ := bind_some hg
  obtain ⟨ys, q2, g2⟩ := bind_some g1
  obtain ⟨p, q3, g3⟩ := bind_some g2
  obtain ⟨q, q4, g4⟩ := bind_some g3
  obtain ⟨rfl, g5⟩ := ite_some g4
  cases g5
  obtain ⟨l, vs, rfl, h1, v1⟩ := lstOf_wp q1 hv wd
  obtain ⟨m, us, rfl, h2, v2⟩ := lstOf_wp q2 hw wd
  obtain rfl := bools_are q3 v1
  obtain rfl := bools_are q4 v2
  show wpAny _ _ (richCompare .Eq _ _) _ _ _
  refine SeqAt.RcAt.lists (e := fun _ => true) h1.isList h2.isList rfl (by have := hr.units; omega) (fun j _ _ => SeqAt.EqAt.same _) _ _ _ _ ?_
  refine ⟨Kp.refl _, ?_⟩
  rw [show ((List.range (List.map Value.bool p).toArray.size).all fun _ => true) = true from by simp]
  exact .bool _
theorem op_eqD {k : Nat} : ROp Z k (compareOp .Eq) gEqD := by
  intro A D γ s v w a b c cs E hg hv hw wd hr
  obtain ⟨xs, q1, g1⟩ := bind_some hg
  obtain ⟨ys, q2, g2⟩ := bind_some g1
  obtain ⟨hc, g5⟩ := ite_some g2
  cases g5
  obtain ⟨l, vs, rfl, n1, h1, v1⟩ := dctOf_wp q1 hv wd
  obtain ⟨m, us, rfl, n2, h2, v2⟩ := dctOf_wp q2 hw wd
  refine keq_eq (r := xs.all fun p => dget ys p.1 == some p.2) (beq_false_of_ne n1) (beq_false_of_ne n2) h1 h2 (by have := hr.units; omega) (fun hl => hits_of v2 v1 (hc (by rw [← dvals_length v1, ← dvals_length v2]; exact hl))) ⟨Kp.refl _, ?_⟩
  rw [dvals_length v1, dvals_length v2]
  exact .bool _
theorem op_eq {k : Nat} : ROp Z k (compareOp .Eq) gEq := rop_either (rop_int fun hc hq => by cases hc; exact P.eq_int (hq _ _ fun _ _ _ => .bool _)) (rop_either op_eqL op_eqD)

noncomputable def gNeI : Op2 := g2i fun a b => some (.bool (a != b))
/-- xs != [] -/
noncomputable def gNeL : Op2 := fun cs a b => (lstOf cs a).bind fun xs => (lstOf cs b).bind fun ys => if ys.length = 0 ∧ xs.length ≠ 0 then some (.bool true) else if ys.length = 0 then some (.bool false) else none
noncomputable def gNe : Op2 := gEither gNeI gNeL
theorem op_neL {k : Nat} : ROp Z k (compareOp .NotEq) gNeL := by
  intro A D γ s v w a b c cs E hg hv hw wd hr
  obtain ⟨xs, q1, g1⟩ := bind_some hg
  obtain ⟨ys, q2, g2⟩ := bind_some g1
  obtain ⟨l, vs, rfl, h1, v1⟩ := lstOf_wp q1 hv wd
  obtain ⟨m, us, rfl, h2, v2⟩ := lstOf_wp q2 hw wd
  have l1 := v1.length
  have l2 := v2.length
  show wpAny _ _ (richCompare .NotEq _ _) _ _ _
  by_cases hc : ys.length = 0 ∧ xs.length ≠ 0
  · rw [if_pos hc] at g2
    cases g2
    exact SeqAt.RcNeAt.lists_lengths h1.isList h2.isList (by rw [List.size_toArray, List.size_toArray, l1, l2, hc.1]; simpa using hc.2) (by have := hr.units; omega) _ _ _ _ ⟨Kp.refl _, .bool _⟩
  · rw [if_neg hc] at g2
    obtain ⟨h0, g3⟩ := ite_some g2
    cases g3
    have hx : xs.length = 0 := Decidable.byContradiction fun h => hc ⟨h0, h⟩
    obtain rfl := List.length_eq_zero_iff.mp (l1.trans hx)
    obtain rfl := List.length_eq_zero_iff.mp (l2.trans h0)
    exact SeqAt.RcNeAt.lists (e := fun _ => true) h1.isList h2.isList rfl (by have := hr.units; omega) (fun j h => absurd h (Nat.not_lt_zero _)) _ _ _ _ ⟨Kp.refl _, .bool _⟩
theorem op_ne {k : Nat} : ROp Z k (compareOp .NotEq) gNe := rop_either (rop_int fun hc hq => by cases hc; exact P.ne_int (hq _ _ fun _ _ _ => .bool _)) op_neL

/-! in -/
noncomputable def gIn : Op2 := fun cs a b => a.int?.bind fun i => (dctOf cs b).bind fun es => some (.bool (dget es i).isSome)
theorem dget_some {kvs : List (Int × Value)} {es : List (Int × Int)} (h : DVals kvs es) (k : Int) : (valueAt kvs k).isSome = (dget es k).isSome := by
  cases q : dget es k with
  | none => rw [(dvals_get h k).2 q]; rfl
  | some n => obtain ⟨t, ht⟩ := (dvals_get h k).1 n q; rw [ht]; rfl
theorem op_in {k : Nat} : ROp Z k (compareOp .In) gIn := by
  intro A D γ s v w a b c cs E hg hv hw wd hr
  obtain ⟨i, q1, g1⟩ := bind_some hg
  obtain ⟨es, q2, g2⟩ := bind_some g1
  cases g2
  obtain rfl := int?_some q1
  obtain ⟨t, rfl⟩ := vrel_int hv
  obtain ⟨m, us, rfl, n2, h2, v2⟩ := dctOf_wp q2 hw wd
  refine wpAny_in_of (intKind_is _ _ i t) (beq_false_of_ne n2) h2.mapOf ⟨Kp.toks _ _, ?_⟩
  rw [dget_some v2]
  exact .bool _
end
end Mine

end
section

namespace Mine
section
variable {Z : Amb} {S : Sx}

noncomputable abbrev BFn := List ACell → List AVal → Option AVal
/-- what a builtin answers -/
noncomputable def BC (Z : Amb) (k : Nat) (fv : Value) (kws : List Str) (g : BFn) : Prop :=
  ∀ {A : Around} {D γ : List Addr} {args kvs : List Value} {avs : List AVal} {cs : List ACell} {s : Shared} {r : AVal} {E : Value → Shared → Prop}, g cs avs = some r → VRels Z s.heap D γ (args ++ kvs) avs → kvs.length = kws.length →
    Wd Z D γ cs s.heap → Room A k → wpAny Z.M A (call fv args (kws.zip kvs)) (fun v s' => Kp s s' ∧ VRel Z s'.heap D γ v r) E s

noncomputable def pB (g : BFn) (f gk : ASt → Option (List AVal)) (st : ASt) : Option AVal := (f st).bind fun as => (gk st).bind fun bs => g st.cells (as ++ bs)

theorem rp_bcall {k : Nat} {x : Str} {xp pos : Pos} {fv : Value} {es : List Expr} {ks : List Keyword} {kws : List Str} {f gk : ASt → Option (List AVal)} {g : BFn} (H : BC Z k fv kws g) (hk : Keep Z fv) (h0 : RP Z S k (.Name x xp) (fun _ => some (.cst fv)))
    (h1 : RPs Z S k es f) (h2 : RKs Z S k ks gk) (hall : ks.all (·.arg.isSome) = true) (hkw : ks.filterMap (·.arg) = kws) (sh : ArgSh es f) (hgl : ∀ st bs, gk st = some bs → bs.length = kws.length) :
    RP Z S k (.Call (.Name x xp) es ks pos) (pB g f gk) := by
  intro A env own D γ st s a E hf r hr
  obtain ⟨as, q1, f1⟩ := bind_some hf
  obtain ⟨bs, q2, f2⟩ := bind_some f1
  refine callName h0 h1 h2 hall sh.sh sh.ns rfl q1 q2 r hr hk fun vs kvs s' k1 v1 v2 => ?_
  rw [hkw]
  exact wpAny_mono (H f2 (v1.append v2) (by rw [v2.length]; exact hgl _ _ q2) (r.keeps' k1).wd hr) (fun v s2 h => ⟨k1.trans h.1, h.2⟩) fun _ _ x => x

/-- one argument, no keyword -/
noncomputable def fun1 (g : List ACell → AVal → Option AVal) : BFn := fun cs as => match as with
  | [a] => g cs a
  | _ => none
theorem bc1 {k : Nat} {fv : Value} {g : List ACell → AVal → Option AVal}
    (h : ∀ {A : Around} {D γ : List Addr} {v : Value} {a r : AVal} {cs : List ACell} {s : Shared} {E : Value → Shared → Prop}, g cs a = some r → VRel Z s.heap D γ v a → Wd Z D γ cs s.heap → Room A k →
      wpAny Z.M A (call fv [v]) (fun v s' => Kp s s' ∧ VRel Z s'.heap D γ v r) E s) : BC Z k fv [] (fun1 g) := by
  intro A D γ args kvs avs cs s r E hg hv hk w hr
  obtain rfl := List.length_eq_zero_iff.mp hk
  rw [List.append_nil] at hv
  unfold fun1 at hg
  split at hg
  · obtain ⟨v, rfl, h1⟩ := vrels_1 hv
    exact h hg h1 w hr
  · cases hg

/-! len -/
noncomputable def lenA (cs : List ACell) (a : AVal) : Option AVal := match lstOf cs a with
  | some xs => if xs.length < 1000 then some (.int xs.length) else none
  | none => (dctOf cs a).bind fun es => if es.length < 1000 then some (.int es.length) else none
theorem bc_len {k : Nat} : BC Z k (.builtin "len") [] (fun1 lenA) := bc1 fun {A D γ v a r cs s E} hg hv w hr => by
  unfold lenA at hg
  split at hg
  · rename_i xs q
    obtain ⟨h, g1⟩ := ite_some hg
    cases g1
    obtain ⟨l, vs, rfl, h1, v1⟩ := lstOf_wp q hv w
    have l1 := v1.length
    refine call_len_list h1.isList (by rw [List.size_toArray, l1]; omega) ⟨Kp.toks _ _, ?_⟩
    rw [List.size_toArray, l1]; exact .int _ _
  · obtain ⟨es, q, g1⟩ := bind_some hg
    obtain ⟨h, g2⟩ := ite_some g1
    cases g2
    obtain ⟨l, kvs, rfl, hn, h1, v1⟩ := dctOf_wp q hv w
    have l1 := dvals_length v1
    refine call_len_dict (beq_false_of_ne hn) h1 (by rw [l1]; omega) ⟨Kp.toks _ _, ?_⟩
    rw [l1]; exact .int _ _

/-! sum, max, min of ints -/
noncomputable def smallInts (ns : List Int) : Bool := ns.length < 1000 && ns.all fun n => n.natAbs < 2 ^ 40
noncomputable def sumA (cs : List ACell) (a : AVal) : Option AVal := (lstOf cs a).bind fun xs => (intsOf xs).bind fun ns => some (.int ns.sum)
noncomputable def maxA (cs : List ACell) (a : AVal) : Option AVal := (lstOf cs a).bind fun xs => (intsOf xs).bind fun ns => ns.max?.bind fun m => some (.int m)
noncomputable def minA (cs : List ACell) (a : AVal) : Option AVal := (lstOf cs a).bind fun xs => (intsOf xs).bind fun ns => ns.min?.bind fun m => some (.int m)

theorem ints_items {h : Heap} {D γ : List Addr} {xs : List AVal} {ns : List Int} {vs : List Value} (q : intsOf xs = some ns) (x : VRels Z h D γ vs xs) : ∃ ps : Array (Int × Tok), vs.toArray = intItems ps ∧ ns = ps.toList.map (·.1) := by
  obtain rfl := intsOf_eq q
  have hi := ints_are x
  obtain ⟨ps, e⟩ := hi.allInts.items
  exact ⟨ps, e, by rw [← hi.numsOf, ← nums_intItems, ← e]⟩

theorem bc_sum {k : Nat} : BC Z k (.builtin "sum") [] (fun1 sumA) := bc1 fun {A D γ v a r cs s E} hg hv w hr => by
  obtain ⟨xs, q1, g1⟩ := bind_some hg
  obtain ⟨ns, q2, g2⟩ := bind_some g1
  cases g2
  obtain ⟨l, vs, rfl, h1, v1⟩ := lstOf_wp q1 hv w
  obtain ⟨ps, e, rfl⟩ := ints_items q2 v1
  have h2 := h1.isList
  rw [e] at h2
  refine sum_intListG hr.handled h2 fun h' tk t' hk => ⟨⟨h', tk, rfl, hk⟩, ?_⟩
  rw [preSum_eq, List.take_of_length_le (by simp)]
  exact .int _ _
theorem bc_max {k : Nat} : BC Z k (.builtin "max") [] (fun1 maxA) := bc1 fun {A D γ v a r cs s E} hg hv w hr => by
  obtain ⟨xs, q1, g1⟩ := bind_some hg
  obtain ⟨ns, q2, g2⟩ := bind_some g1
  obtain ⟨m, q3, g3⟩ := bind_some g2
  cases g3
  obtain ⟨l, vs, rfl, h1, v1⟩ := lstOf_wp q1 hv w
  obtain ⟨ps, e, rfl⟩ := ints_items q2 v1
  have h2 := h1.isList
  rw [e] at h2
  have hsz : 0 < ps.size := by
    rcases Nat.eq_zero_or_pos ps.size with h | h
    · rw [Array.size_eq_zero_iff.mp h] at q3; cases q3
    · exact h
  refine max_intList hr.handled h2 hsz fun v h' tk hv hk => ?_
  obtain ⟨t, rfl⟩ := intItems_at hv
  refine ⟨⟨h', tk, rfl, hk⟩, ?_⟩
  obtain ⟨b1, b2⟩ := argBest_gt (numAt ps) (ps.size - 1)
  have : numAt ps (argBest (fun i j => decide (numAt ps i > numAt ps j)) (ps.size - 1)) = m := by
    have q4 := List.max?_eq_some_iff.mp q3
    refine Int.le_antisymm (q4.2 _ ?_) ?_
    · rw [numAt_eq]; exact getD_mem (by rw [List.length_map, Array.length_toList]; omega)
    · obtain ⟨j, hj, e⟩ := mem_getD q4.1
      rw [List.length_map, Array.length_toList] at hj
      rw [← e, ← numAt_eq]; exact b2 j (by omega)
  rw [this]; exact .int _ _
theorem bc_min {k : Nat} : BC Z k (.builtin "min") [] (fun1 minA) := bc1 fun {A D γ v a r cs s E} hg hv w hr => by
  obtain ⟨xs, q1, g1⟩ := bind_some hg
  obtain ⟨ns, q2, g2⟩ := bind_some g1
  obtain ⟨m, q3, g3⟩ := bind_some g2
  cases g3
  obtain ⟨l, vs, rfl, h1, v1⟩ := lstOf_wp q1 hv w
  obtain ⟨ps, e, rfl⟩ := ints_items q2 v1
  have h2 := h1.isList
  rw [e] at h2
  have hsz : 0 < ps.size := by
    rcases Nat.eq_zero_or_pos ps.size with h | h
    · rw [Array.size_eq_zero_iff.mp h] at q3; cases q3
    · exact h
  refine min_intList hr.handled h2 hsz fun v h' tk hv hk => ?_
  obtain ⟨t, rfl⟩ := intItems_at hv
  refine ⟨⟨h', tk, rfl, hk⟩, ?_⟩
  obtain ⟨b1, b2⟩ := argBest_lt (numAt ps) (ps.size - 1)
  have : numAt ps (argBest (fun i j => decide (numAt ps i < numAt ps j)) (ps.size - 1)) = m := by
    have q4 := List.min?_eq_some_iff.mp q3
    refine Int.le_antisymm ?_ (q4.2 _ ?_)
    · obtain ⟨j, hj, e⟩ := mem_getD q4.1
      rw [List.length_map, Array.length_toList] at hj
      rw [← e, ← numAt_eq]; exact b2 j (by omega)
    · rw [numAt_eq]; exact getD_mem (by rw [List.length_map, Array.length_toList]; omega)
  rw [this]; exact .int _ _

/-! list(d), sorted -/
theorem dkeys_ints {kvs : List (Int × Value)} {es : List (Int × Int)} (hd : DVals kvs es) : ∀ {vs : List Value}, vs.length = kvs.length → (∀ (j : Nat) (v : Value), vs[j]? = some v → ∃ k x, kvs[j]? = some (k, x) ∧ Z.ik.is k v = true) → IntsAre vs (es.map (·.1)) := by
  induction hd with
  | nil => intro vs hl _; obtain rfl := List.length_eq_zero_iff.mp hl; exact .nil
  | @cons p q kvs es hab _ ih =>
    intro vs hl hv
    match vs, hl with
    | v :: vs, hl =>
      obtain ⟨k', x', e, hk⟩ := hv 0 v rfl
      cases e
      obtain ⟨t, rfl⟩ := Value.isInt_shape hk
      have := hab.1
      simp only at this
      rw [List.map_cons, ← this]
      exact .cons k' t (ih (Nat.succ.inj hl) fun j u hu => hv (j + 1) u hu)

noncomputable def listA (cs : List ACell) (a : AVal) : Option AVal := (dctOf cs a).bind fun es => if es.length < 1000 then some (.lst (es.map fun p => .int p.1)) else none
theorem bc_list {k : Nat} : BC Z k (.type "list") [] (fun1 listA) := bc1 fun {A D γ v a r cs s E} hg hv w hr => by
  obtain ⟨es, q1, g1⟩ := bind_some hg
  obtain ⟨hlt, g2⟩ := ite_some g1
  cases g2
  obtain ⟨l, kvs, rfl, hn, h1, v1⟩ := dctOf_wp q1 hv w
  obtain ⟨ep, hat⟩ := h1.dictAt
  have l1 := dvals_length v1
  refine kdl_call (kdl_dict (knd := Z.ik) (kvs := kvs) (ep := ep) (beq_false_of_ne hn)) hr.handled hat (by rw [l1, sizeLine_eq]; omega) fun h' tk acc c' hk hD hacc => ?_
  refine ⟨⟨h', tk, rfl, hk⟩, ?_⟩
  have hi : IntsAre acc.toList (es.map (·.1)) := dkeys_ints (Z := Z) v1 (by rw [Array.length_toList]; exact hacc.1) fun j u e => hacc.2 j u (by rw [← Array.getElem?_toList]; exact e)
  have hr := are_ints (Z := Z) (h := h') (D := D) (γ := γ) hi
  rw [List.map_map] at hr
  exact .lst w.new ⟨c', by rw [Array.toArray_toList]; exact hD⟩ hr

/-- ints in order -/
noncomputable def isort : List Int → List Int
  | [] => []
  | x :: xs => ins x (isort xs)
where ins (x : Int) : List Int → List Int
  | [] => [x]
  | y :: ys => if x ≤ y then x :: y :: ys else y :: ins x ys
theorem ins_perm (x : Int) : ∀ ys : List Int, (isort.ins x ys).Perm (x :: ys)
  | [] => .refl _
  | y :: ys => by
    rw [isort.ins]
    split
    · exact .refl _
    · exact ((ins_perm x ys).cons y).trans (.swap x y ys)
theorem isort_perm : ∀ xs : List Int, (isort xs).Perm xs
  | [] => .refl _
  | x :: xs => (ins_perm x _).trans ((isort_perm xs).cons x)
theorem ins_sorted (x : Int) : ∀ ys : List Int, ys.Pairwise (· ≤ ·) → (isort.ins x ys).Pairwise (· ≤ ·)
  | [], _ => List.pairwise_singleton _ _
  | y :: ys, h => by
    obtain ⟨h1, h2⟩ := List.pairwise_cons.mp h
    rw [isort.ins]
    split
    · rename_i hle
      refine List.pairwise_cons.mpr ⟨fun z hz => ?_, h⟩
      rcases List.mem_cons.mp hz with rfl | hz
      · exact hle
      · exact Int.le_trans hle (h1 z hz)
    · rename_i hle
      refine List.pairwise_cons.mpr ⟨fun z hz => ?_, ins_sorted x ys h2⟩
      rcases List.mem_cons.mp ((ins_perm x ys).mem_iff.mp hz) with rfl | hz
      · exact Int.le_of_lt (Int.not_le.mp hle)
      · exact h1 z hz
theorem isort_sorted : ∀ xs : List Int, (isort xs).Pairwise (· ≤ ·)
  | [] => .nil
  | x :: xs => ins_sorted x _ (isort_sorted xs)
theorem isort_unique {xs ys : List Int} (hp : ys.Perm xs) (hs : ys.Pairwise (· ≤ ·)) : ys = isort xs :=
  List.Perm.eq_of_pairwise (fun _ _ _ _ h1 h2 => Int.le_antisymm h1 h2) hs (isort_sorted xs) (hp.trans (isort_perm xs).symm)
theorem isort_unique_rev {xs ys : List Int} (hp : ys.Perm xs) (hs : ys.Pairwise (· ≥ ·)) : ys = (isort xs).reverse := by
  rw [← isort_unique ((List.reverse_perm ys).trans hp) (List.pairwise_reverse.mpr hs), List.reverse_reverse]

noncomputable def sortedA (cs : List ACell) (a : AVal) : Option AVal := match lstOf cs a with
  | some xs => (intsOf xs).bind fun ns => if ns.length < 64 then some (.lst ((isort ns).map .int)) else none
  | none => (dctOf cs a).bind fun es => if es.length < 64 then some (.lst ((isort (es.map (·.1))).map .int)) else none

theorem sortedAll_old' {h : Heap} {vs : List Value} {out : Array Value} : ∀ b o, h.get? b = some o → (sortedAll h vs out).get? b = some o := fun _ _ e => sortedAll_old e
theorem sorted_plain {h : Heap} {a : Addr} {vs : List Value} {n : Nat} {out : Array Value} (ho : h.get? a = some (seqObj "list" vs.toArray n)) : (sortedHeap h a vs out).PlainList a out := by
  have ha : a < h.objs.size := Heap.lt_size ho
  obtain ⟨e1, ho1⟩ : ∃ e1, (h.update a (Obj.mapSeq fun _ => #[])).get? a = some (seqObj "list" #[] e1) := ⟨_, get?_update_seq ho (fun _ => #[])⟩
  unfold sortedHeap
  refine ⟨_, get?_update_seq (xs := #[]) (n := e1) ?_ (fun _ => out)⟩
  rw [Heap.get?_push_ne _ _ _ (by rw [size_push', Heap.size_update]; exact Nat.ne_of_lt (Nat.lt_succ_of_lt ha)), Heap.get?_push_ne _ _ _ (by rw [Heap.size_update]; exact Nat.ne_of_lt ha)]
  exact ho1
theorem sorted_but {h : Heap} {a : Addr} {vs : List Value} {out : Array Value} : ∀ b o, b ≠ a → h.get? b = some o → (sortedHeap h a vs out).get? b = some o := by
  intro b o hb e
  unfold sortedHeap
  refine (Heap.get?_update_other _ _ (Ne.symm hb)).trans (Heap.get?_push_of_some _ (Heap.get?_push_of_some _ ((Heap.get?_update_other _ _ (Ne.symm hb)).trans e)))

theorem bc_sorted {k : Nat} : BC Z k (.builtin "sorted") [] (fun1 sortedA) := bc1 fun {A D γ v a r cs s E} hg hv w hr => by
  unfold sortedA at hg
  split at hg
  · rename_i xs q1
    obtain ⟨ns, q2, g2⟩ := bind_some hg
    obtain ⟨hlt, g3⟩ := ite_some g2
    cases g3
    obtain ⟨l, vs, rfl, h1, v1⟩ := lstOf_wp q1 hv w
    obtain rfl := intsOf_eq q2
    have hi := ints_are v1
    refine sorted_ints h1.isList hi (by rw [hi.length]; exact hlt) fun out ns' a1 a2 a3 => ?_
    obtain rfl := isort_unique a2 a3
    obtain ⟨e, he⟩ := sortedAll_at s.heap vs out
    exact ⟨⟨_, _, rfl, sortedAll_old'⟩, .lst (w.fresh (none_of_size (Nat.le_succ _))) ⟨e, by rw [Array.toArray_toList]; exact he⟩ (are_ints a1)⟩
  · obtain ⟨es, q1, g1⟩ := bind_some hg
    obtain ⟨hlt, g2⟩ := ite_some g1
    cases g2
    obtain ⟨l, kvs, rfl, hn, h1, v1⟩ := dctOf_wp q1 hv w
    obtain ⟨ep, hat⟩ := h1.dictAt
    have l1 := dvals_length v1
    refine call_function_entry kind_sorted plain_sorted entry_sorted (args_sorted1 _) ?_
    unfold Builtin.«sorted»
    refine wpAny_bind (m := checkCount "sorted" 1 1 _) (wpAny_pure ?_)
    refine wpAny_bind (kdu_collect (A := A.in1) (kdl_dict (knd := Z.ik) (kvs := kvs) (ep := ep) (beq_false_of_ne hn)) hr.handled hat (by rw [l1, sizeLine_eq]; omega) fun h' tk acc hk hacc => ?_)
    have hi : IntsAre acc.toList (es.map (·.1)) := dkeys_ints (Z := Z) v1 (by rw [Array.length_toList]; exact hacc.1) fun j u e => hacc.2 j u (by rw [← Array.getElem?_toList]; exact e)
    have hl : acc.toList.length = es.length := by rw [hi.length, List.length_map]
    refine wpAny_bind (wpAny_newList ?_ (by rw [hl, sizeLine_eq]; omega))
    have ho : (h'.push (seqObj "list" acc.toList.toArray 0)).get? h'.objs.size = some (seqObj "list" acc.toList.toArray 0) := Heap.get?_push_size _ rfl
    refine wpAny_bind (wpAny_holding (wpAny_call_entry slot_list_sort ⟨_, ho, rfl⟩ entry_list_sort (list_sort_tree ho hi (by rw [hl]; exact hlt) fun out ns' a1 a2 a3 => ⟨_, rfl, ?_⟩) (args_list_sort _)))
    obtain rfl := isort_unique a2 a3
    have hdom : h'.get? h'.objs.size = none := none_of_size (Nat.le_refl _)
    have hfr : s.heap.get? h'.objs.size = none := by
      cases e : s.heap.get? h'.objs.size with
      | none => rfl
      | some o => have := hk _ _ e; rw [hdom] at this; cases this
    refine wpAny_pure ⟨_, rfl, ⟨_, _, rfl, fun b o e => sorted_but b o (fun q => by rw [q, hfr] at e; cases e) (Heap.get?_push_of_some _ (hk b o e))⟩, ?_⟩
    obtain ⟨n, hp⟩ := sorted_plain (vs := acc.toList) (out := out) ho
    exact .lst (w.fresh hfr) ⟨n, by rw [Array.toArray_toList]; exact hp⟩ (are_ints a1)

/-! bytes(row), type(x), isinstance -/
noncomputable def bytesA (cs : List ACell) (a : AVal) : Option AVal := (lstOf cs a).bind fun xs => (intsOf xs).bind fun ns => if ns.length < 1000 ∧ (ns.all fun n => decide (0 ≤ n ∧ n < 256)) = true then some (.bytes (ns.map Int.toNat)) else none
theorem toNats_byteArr : ∀ ns : List Int, (ns.all fun n => decide (0 ≤ n ∧ n < 256)) = true → toNats (byteArr ns) = ns.map Int.toNat
  | [], _ => rfl
  | n :: ns, h => by
    rw [List.all_cons, Bool.and_eq_true, decide_eq_true_iff] at h
    have ih := toNats_byteArr ns h.2
    unfold toNats byteArr at ih ⊢
    rw [List.map_cons, List.map_cons]
    show _ :: _ = _
    congr 1
    show n.toNat.toUInt8.toNat = n.toNat
    rw [UInt8.toNat_ofNat']
    omega
theorem bc_bytes {k : Nat} : BC Z k (.type "bytes") [] (fun1 bytesA) := bc1 fun {A D γ v a r cs s E} hg hv w hr => by
  obtain ⟨xs, q1, g1⟩ := bind_some hg
  obtain ⟨ns, q2, g2⟩ := bind_some g1
  obtain ⟨h, g3⟩ := ite_some g2
  cases g3
  obtain ⟨l, vs, rfl, h1, v1⟩ := lstOf_wp q1 hv w
  obtain rfl := intsOf_eq q2
  have hi := ints_are v1
  refine call_bytes_ints h1.isList hi (fun n hn => of_decide_eq_true (List.all_eq_true.mp h.2 n hn)) (by rw [hi.length, sizeLine_eq]; omega) hr.handled fun h' t k hk => ⟨⟨h', k, rfl, hk⟩, ?_⟩
  rw [← toNats_byteArr ns h.2]
  exact .bytes _ _

noncomputable def typeA (_ : List ACell) (a : AVal) : Option AVal := match a with
  | .bool _ => some (.cst (.type "bool"))
  | .bytes _ => some (.cst (.type "bytes"))
  | _ => none
theorem bc_type {k : Nat} : BC Z k (.type "type") [] (fun1 typeA) := bc1 fun {A D γ v a r cs s E} hg hv w hr => by
  unfold typeA at hg
  split at hg
  · cases hg
    obtain rfl := vrel_bool hv
    exact call_type_of (Tx := "bool") (PySem.typeIs_bool _ _) rfl ⟨Kp.refl _, .cst _⟩
  · cases hg
    obtain ⟨b, t, rfl, _⟩ := vrel_bytes hv
    exact call_type_of (Tx := "bytes") (typeIs_bytes _ _ _) rfl ⟨Kp.refl _, .cst _⟩
  · cases hg
end
end Mine

end
section

namespace Mine
section
variable {Z : Amb} {S : Sx}

/-- the method that a receiver hands out -/
noncomputable def MO (Z : Amb) (name : Str) (id : String) (ok : List ACell → AVal → Bool) : Prop :=
  ∀ {A : Around} {D γ : List Addr} {v : Value} {a : AVal} {cs : List ACell} {s : Shared} {pl : Sem Bool} {E : Value → Shared → Prop} {Q : Value × List Value → Shared → Prop}, ok cs a = true → VRel Z s.heap D γ v a → Wd Z D γ cs s.heap → Q (.builtin id, [v]) s → wpAny Z.M A (getMethod v name pl) Q E s

noncomputable def isDct (cs : List ACell) (a : AVal) : Bool := (dctOf cs a).isSome
noncomputable def isLst (cs : List ACell) (a : AVal) : Bool := (lstOf cs a).isSome
theorem mo_dict {name : Str} {id : String} (slot : Slot "dict" name id) (hty : typeOf (.builtin id) = pure (.type "method_descriptor")) : MO Z name id isDct := by
  intro A D γ v a cs s pl E Q hok hv w h
  obtain ⟨es, q⟩ := Option.isSome_iff_exists.mp hok
  obtain ⟨l, kvs, rfl, hn, h1, v1⟩ := dctOf_wp q hv w
  exact getMethod_builtin h1.typeIs PySem.F.plainAttrs_dict slot hty h1.mapOf.noDict h
theorem mo_list {name : Str} {id : String} (slot : Slot "list" name id) (hty : typeOf (.builtin id) = pure (.type "method_descriptor")) : MO Z name id isLst := by
  intro A D γ v a cs s pl E Q hok hv w h
  obtain ⟨es, q⟩ := Option.isSome_iff_exists.mp hok
  obtain ⟨l, vs, rfl, h1, v1⟩ := lstOf_wp q hv w
  refine getMethod_list_of slot hty h1.isList ?_ h
  obtain ⟨n, e⟩ := h1
  exact ⟨_, e, rfl⟩

/-- a method's call upon pure arguments: what follows is the call of the builtin -/
theorem callMeth {k : Nat} {o : Expr} {name : Str} {id : String} {ok : List ACell → AVal → Bool} {apos pos : Pos} {es : List Expr} {ks : List Keyword} {fo : ASt → Option AVal} {f g : ASt → Option (List AVal)} (hm : MO Z name id ok) (h0 : RP Z S k o fo) (h1 : RPs Z S k es f) (h2 : RKs Z S k ks g)
    (hall : ks.all (·.arg.isSome) = true) (sh : ArgSh es f) (he : ∀ env, eval (.Call (.Attribute o name apos) es ks pos) env = (do
      let ov ← eval o env
      standAt apos.atName
      let (f, first) ← holding [ov] (getMethod ov name (do return (← importBound o env).getD true))
      callWith pos f first (backTo pos (starEach es env)) (backToKw pos (keywordEach ks env))))
    {A : Around} {env : Env} {own D γ : List Addr} {st : ASt} {s : Shared} {a : AVal} {as bs : List AVal} {E : Value → Shared → Prop} {Q : Value → Shared → Prop} (hf0 : fo st = some a) (hok : ok st.cells a = true) (hf : f st = some as) (hg : g st = some bs) (r : Rel Z S env own D γ st s.heap) (hr : Room A k)
    (h : ∀ v vs kvs s', Kp s s' → VRel Z s'.heap D γ v a → VRels Z s'.heap D γ vs as → VRels Z s'.heap D γ kvs bs → wpAny Z.M A (call (.builtin id) (v :: vs) ((ks.filterMap (·.arg)).zip kvs)) Q E s') :
    wpAny Z.M A (eval (.Call (.Attribute o name apos) es ks pos) env) Q E s := by
  refine methodCall_KW (pl := (do return (← importBound o env).getD true)) (h0.use hf0 r hr fun v s1 k1 v1 => hm hok v1 (r.keeps' k1).wd ?_) (he env)
  refine callWith_of (P := fun h => ∀ b o, Z.H0.get? b = some o → h.get? b = some o) (by rw [any_star pos env (sh.ns env), any_kw pos env hall]; rfl) (keep_builtin id) ?_
  refine wpAny_mono (callArgs h1 h2 hall sh.sh hf hg (r.keeps' k1) hr) (fun a s2 ha => ?_) fun _ _ x => x
  obtain ⟨vs, kvs, rfl, k2, r1, r2⟩ := ha
  exact ⟨((r.keeps' k1).keeps' k2).base, h v vs kvs s2 (k1.trans k2) (v1.keeps fun _ _ e => k2.get e) r1 r2⟩

/-- a pure method -/
noncomputable def pM (ok : List ACell → AVal → Bool) (g : BFn) (fo : ASt → Option AVal) (f : ASt → Option (List AVal)) (st : ASt) : Option AVal := (fo st).bind fun a => (f st).bind fun as => if ok st.cells a = true then g st.cells (a :: as) else none
theorem rp_meth {k : Nat} {o : Expr} {name : Str} {id : String} {ok : List ACell → AVal → Bool} {apos pos : Pos} {es : List Expr} {fo : ASt → Option AVal} {f : ASt → Option (List AVal)} {g : BFn} (H : BC Z k (.builtin id) [] g) (hm : MO Z name id ok) (h0 : RP Z S k o fo) (h1 : RPs Z S k es f) (sh : ArgSh es f)
    (he : ∀ env, eval (.Call (.Attribute o name apos) es [] pos) env = (do
      let ov ← eval o env
      standAt apos.atName
      let (f, first) ← holding [ov] (getMethod ov name (do return (← importBound o env).getD true))
      callWith pos f first (backTo pos (starEach es env)) (backToKw pos (keywordEach [] env)))) : RP Z S k (.Call (.Attribute o name apos) es [] pos) (pM ok g fo f) := by
  intro A env own D γ st s c E hf r hr
  obtain ⟨a, q1, f1⟩ := bind_some hf
  obtain ⟨as, q2, f2⟩ := bind_some f1
  obtain ⟨hok, f3⟩ := ite_some f2
  refine callMeth hm h0 h1 rks_nil rfl sh he q1 hok q2 rfl r hr fun v vs kvs s1 k1 v1 v2 v3 => ?_
  obtain rfl := vrels_nil v3
  exact wpAny_mono (H (args := v :: vs) (kvs := []) f3 (by rw [List.append_nil]; exact .cons v1 v2) rfl (r.keeps' k1).wd hr) (fun v s2 h => ⟨k1.trans h.1, h.2⟩) fun _ _ x => x

/-- what a builtin does to the cells -/
noncomputable abbrev CFn := List ACell → List AVal → Option (List ACell)
noncomputable def SC (Z : Amb) (k : Nat) (fv : Value) (kws : List Str) (g : CFn) : Prop :=
  ∀ {A : Around} {D γ : List Addr} {args kvs : List Value} {avs : List AVal} {cs cs' : List ACell} {s : Shared} {E : Value → Shared → Prop}, g cs avs = some cs' → VRels Z s.heap D γ (args ++ kvs) avs → kvs.length = kws.length →
    Wd Z D γ cs s.heap → Room A k → wpAny Z.M A (call fv args (kws.zip kvs)) (fun _ s' => Chg γ s s' ∧ Wd Z D γ cs' s'.heap) E s
noncomputable def sM (ok : List ACell → AVal → Bool) (g : CFn) (fo : ASt → Option AVal) (f gk : ASt → Option (List AVal)) : AS := fun st => (fo st).bind fun a => (f st).bind fun as => (gk st).bind fun bs => if ok st.cells a = true then (g st.cells ((a :: as) ++ bs)).bind fun cs' => some (.next, { st with cells := cs' }) else none
theorem rs_meth {k : Nat} {o : Expr} {name : Str} {id : String} {ok : List ACell → AVal → Bool} {apos pos epos : Pos} {es : List Expr} {ks : List Keyword} {kws : List Str} {fo : ASt → Option AVal} {f gk : ASt → Option (List AVal)} {g : CFn} (H : SC Z k (.builtin id) kws g) (hm : MO Z name id ok) (h0 : RP Z S k o fo) (h1 : RPs Z S k es f) (h2 : RKs Z S k ks gk)
    (hall : ks.all (·.arg.isSome) = true) (hkw : ks.filterMap (·.arg) = kws) (sh : ArgSh es f) (hgl : ∀ st bs, gk st = some bs → bs.length = kws.length)
    (he : ∀ env, eval (.Call (.Attribute o name apos) es ks pos) env = (do
      let ov ← eval o env
      standAt apos.atName
      let (f, first) ← holding [ov] (getMethod ov name (do return (← importBound o env).getD true))
      callWith pos f first (backTo pos (starEach es env)) (backToKw pos (keywordEach ks env)))) : RSt Z S k (.Expr (.Call (.Attribute o name apos) es ks pos) epos) (sM ok g fo f gk) := by
  intro A env own D γ st s fl st' E hf r hr
  obtain ⟨a, q1, f1⟩ := bind_some hf
  obtain ⟨as, q2, f2⟩ := bind_some f1
  obtain ⟨bs, q3, f3⟩ := bind_some f2
  obtain ⟨hok, f4⟩ := ite_some f3
  obtain ⟨cs', q4, f5⟩ := bind_some f4
  cases f5
  refine wpAny_Expr_any ?_ (by unfold interactive; rw [r.esc, r.kind]; rfl) rfl
  refine callMeth hm h0 h1 h2 hall sh he q1 hok q2 q3 r hr fun v vs kvs s1 k1 v1 v2 v3 => ?_
  rw [hkw]
  refine wpAny_mono (H (args := v :: vs) q4 (VRels.append (.cons v1 v2) v3) (by rw [v3.length]; exact hgl _ _ q3) (r.keeps' k1).wd hr) (fun v s2 h => ?_) fun _ _ x => x
  obtain ⟨c2, w2⟩ := h
  exact .of_keep ((k1.chg _).trans (c2.mono fun a h => List.mem_append_right own h) fun b hb => .inl hb) ((r.keeps' k1).cellsTo c2 w2) .next

/-! dict.get, list.count -/
theorem dvals_getD {kvs : List (Int × Value)} {es : List (Int × Int)} (h : DVals kvs es) (k n : Int) (t : Tok) : ∃ u, (valueAt kvs k).getD (.int n t) = .int ((dget es k).getD n) u := by
  cases q : dget es k with
  | none => rw [(dvals_get h k).2 q]; exact ⟨t, rfl⟩
  | some m => obtain ⟨u, hu⟩ := (dvals_get h k).1 m q; rw [hu]; exact ⟨u, rfl⟩
noncomputable def getA : BFn := fun cs as => match as with
  | [d, k, n] => (dctOf cs d).bind fun es => k.int?.bind fun i => n.int?.bind fun j => some (.int ((dget es i).getD j))
  | _ => none
theorem bc_get {k : Nat} : BC Z k (.builtin "dict.get") [] getA := by
  intro A D γ args kvs avs cs s r E hg hv hk w hr
  obtain rfl := List.length_eq_zero_iff.mp hk
  rw [List.append_nil] at hv
  unfold getA at hg
  split at hg
  · obtain ⟨es, q1, g1⟩ := bind_some hg
    obtain ⟨i, q2, g2⟩ := bind_some g1
    obtain ⟨j, q3, g3⟩ := bind_some g2
    cases g3
    obtain rfl := int?_some q2
    obtain rfl := int?_some q3
    obtain ⟨v, u, x, rfl, h1, h3, h4⟩ := vrels_3 hv
    obtain ⟨t1, rfl⟩ := vrel_int h3
    obtain ⟨t2, rfl⟩ := vrel_int h4
    obtain ⟨l, kvs, rfl, hn, k1, v1⟩ := dctOf_wp q1 h1 w
    refine call_meetsIn PySem.F.slot_dict_get k1.typeIs PySem.F.entry_dict_get (PySem.F.args_dict_get_3 _ _ _) (meets_dict_get_default Z.ik l (intKind_is _ _ i t1) (beq_false_of_ne hn) _) ⟨_, k1.mapOf, Kp.toks _ _, ?_⟩
    obtain ⟨u, hu⟩ := dvals_getD v1 i j t2
    rw [hu]
    exact .int _ _
  · cases hg
noncomputable def countA : BFn := fun cs as => match as with
  | [l, k] => (lstOf cs l).bind fun xs => (intsOf xs).bind fun ns => k.int?.bind fun i => some (.int (ns.count i : Nat))
  | _ => none
theorem bc_count {k : Nat} : BC Z k (.builtin "list.count") [] countA := by
  intro A D γ args kvs avs cs s r E hg hv hk w hr
  obtain rfl := List.length_eq_zero_iff.mp hk
  rw [List.append_nil] at hv
  unfold countA at hg
  split at hg
  · obtain ⟨xs, q1, g1⟩ := bind_some hg
    obtain ⟨ns, q2, g2⟩ := bind_some g1
    obtain ⟨i, q3, g3⟩ := bind_some g2
    cases g3
    obtain rfl := intsOf_eq q2
    obtain rfl := int?_some q3
    obtain ⟨v, u, rfl, h1, h3⟩ := vrels_2 hv
    obtain ⟨t1, rfl⟩ := vrel_int h3
    obtain ⟨l, vs, rfl, k1, v1⟩ := lstOf_wp q1 h1 w
    exact count_list_ints k1.isList (ints_are v1) ⟨Kp.toks _ _, .int _ _⟩
  · cases hg

/-! list.append, list.insert(0, x), list.sort(reverse=True) -/
theorem Chg.one {γ : List Addr} {s : Shared} {l : Addr} {h' : Heap} {tk : Nat} (hl : l ∈ γ) (hs : ∀ b o, b ≠ l → s.heap.get? b = some o → h'.get? b = some o) : Chg γ s { s with heap := h', toks := tk } :=
  ⟨h', tk, rfl, fun b o hb e => hs b o (fun q => hb (q ▸ hl)) e⟩
/-- a list cell becomes another -/
theorem Wd.setL {D γ : List Addr} {cs : List ACell} {h h' : Heap} {i : Nat} {a : Addr} {xs ys : List AVal} {vs : List Value} (w : Wd Z D γ cs h) (hi : γ[i]? = some a) (hs : ∀ b o, b ≠ a → h.get? b = some o → h'.get? b = some o) (_ : cs[i]? = some (.lst xs)) (hp : h'.PlainList a vs.toArray) (hv : VRels Z h D γ vs ys) :
    Wd Z D γ (cs.set i (.lst ys)) h' := by
  have haD := w.γD a (List.mem_of_getElem? hi)
  exact w.set hi hs (.lst hp (hv.mono fun b o hb e => hs b o (fun q => hb (q ▸ haD)) e))

noncomputable def appendA : CFn := fun cs as => match as with
  | [l, x] => l.cell?.bind fun i => cs[i]?.bind fun c => c.lst?.bind fun xs => if xs.length < 1000 then some (cs.set i (.lst (xs ++ [x]))) else none
  | _ => none
theorem sc_append {k : Nat} : SC Z k (.builtin "list.append") [] appendA := by
  intro A D γ args kvs avs cs cs' s E hg hv hk w hr
  obtain rfl := List.length_eq_zero_iff.mp hk
  rw [List.append_nil] at hv
  unfold appendA at hg
  split at hg
  · obtain ⟨i, q1, g1⟩ := bind_some hg
    obtain ⟨c, q2, g2⟩ := bind_some g1
    obtain ⟨xs, q3, g3⟩ := bind_some g2
    obtain ⟨hlt, g4⟩ := ite_some g3
    cases g4
    obtain rfl := cell?_some q1
    obtain rfl := clst?_some q3
    obtain ⟨v, u, rfl, h1, h3⟩ := vrels_2 hv
    obtain ⟨l, rfl, hi⟩ := vrel_cell h1
    obtain ⟨vs, hp, v1⟩ := cell_lst (w.cells.2 i l _ hi q2)
    have l1 := v1.length
    refine wpAny_list_append_plain hp (fun h' hp' hs' => ?_) (by rw [List.size_toArray, l1, sizeLine_eq]; omega)
    refine ⟨Chg.one (tk := s.toks) (List.mem_of_getElem? hi) fun b o hb e => hs'.extBut b o hb e, w.setL hi (fun b o hb e => hs'.extBut b o hb e) q2 ?_ (v1.append (.cons h3 .nil))⟩
    rw [List.push_toArray] at hp'
    exact hp'
  · cases hg

noncomputable def insertA : CFn := fun cs as => match as with
  | [l, .int 0, x] => l.cell?.bind fun i => cs[i]?.bind fun c => c.lst?.bind fun xs => if xs.length < 1000 then some (cs.set i (.lst (x :: xs))) else none
  | _ => none
theorem sc_insert {k : Nat} : SC Z k (.builtin "list.insert") [] insertA := by
  intro A D γ args kvs avs cs cs' s E hg hv hk w hr
  obtain rfl := List.length_eq_zero_iff.mp hk
  rw [List.append_nil] at hv
  unfold insertA at hg
  split at hg
  · obtain ⟨i, q1, g1⟩ := bind_some hg
    obtain ⟨c, q2, g2⟩ := bind_some g1
    obtain ⟨xs, q3, g3⟩ := bind_some g2
    obtain ⟨hlt, g4⟩ := ite_some g3
    cases g4
    obtain rfl := cell?_some q1
    obtain rfl := clst?_some q3
    obtain ⟨v, z, u, rfl, h1, h5, h3⟩ := vrels_3 hv
    obtain ⟨t, rfl⟩ := vrel_int h5
    obtain ⟨l, rfl, hi⟩ := vrel_cell h1
    obtain ⟨vs, ⟨n, hp⟩, v1⟩ := cell_lst (w.cells.2 i l _ hi q2)
    have l1 := v1.length
    refine call_meets PySem.F.slot_list_insert ⟨_, hp, rfl⟩ PySem.F.entry_list_insert (PySem.F.args_list_insert_3 _ _ _) (AutoListH.list_insert_list_int_val_1 l vs.toArray n 0 t u (by decide) (by rw [List.size_toArray, l1, sizeLine_eq]; omega)) ⟨hp, ?_⟩
    refine ⟨Chg.one (tk := s.toks) (List.mem_of_getElem? hi) fun b o hb e => (Heap.get?_update_other _ _ (Ne.symm hb)).trans e, w.setL hi (fun b o hb e => (Heap.get?_update_other _ _ (Ne.symm hb)).trans e) q2 ⟨n + 1, ?_⟩ (.cons h3 v1)⟩
    refine (Heap.get?_update_self _ hp rfl).trans (congrArg some ?_)
    simp [Obj.mapSeq]
  · cases hg
end
end Mine

end
section

namespace Mine
/-- an iterator at its start -/
inductive ItOk (Z : Amb) (A : Around) (D γ : List Addr) (h0 : Heap) (I : Addr) (xs : List AVal) (tup : Bool) : Prop
  | mk (hb : Heap) (fp : List Addr) (P : Nat → Value → Prop) (St : Nat → Heap → Prop) (h1 : hb.get? I = none ∧ ∀ b o, hb.get? b = some o → h0.get? b = some o) (h2 : Walks Z.prog Z.w A I fp [I] xs.length P St) (h3 : xs.length < 1000) (h4 : St 0 h0) (h5 : ∀ i h, St i h → ∃ o, h.get? I = some o) (h6 : I ∉ D) (h7 : ∀ b ∈ fp, (b ∉ D ∨ (tup = true ∧ b ∈ γ)) ∧ ∃ o, h0.get? b = some o) (h8 : ∀ i v, P i v → ∃ x, xs[i]? = some x ∧ VRel Z hb D γ v x)
    (h9 : tup = true → ∀ (elts : List Expr) (k : Nat) (pos : Pos) (T : Addr) (i : Nat) (s : Shared) (E : Value → Shared → Prop) (Q : Unit → Shared → Prop), St i s.heap → Q () s → wpAny Z.M A (letOwnedTupleGo (.Tuple elts k pos) (.ref I) (.ref T)) Q E s)

inductive ItAt (Z : Amb) (A : Around) (D γ : List Addr) (s : Shared) (xs : List AVal) (tup : Bool) (it : Value) (s2 : Shared) : Prop
  | mk (k : Kp s s2) (I : Addr) (e : it = .ref I) (h : s.heap.get? I = none) (o : ItOk Z A D γ s2.heap I xs tup)
/-- an iterable expression, and its iterator -/
noncomputable def RI (Z : Amb) (S : Sx) (k : Nat) (tup : Bool) (e : Expr) (f : ASt → Option (List AVal)) : Prop :=
  ∀ {A : Around} {env : Env} {own D γ : List Addr} {st : ASt} {s : Shared} {xs : List AVal} {E : Value → Shared → Prop}, f st = some xs → Rel Z S env own D γ st s.heap → Room A k →
    wpAny Z.M A (eval e env) (fun x s1 => wpAny Z.M A (pyIter x) (ItAt Z A D γ s xs tup) E s1) E s

section
variable {Z : Amb} {S : Sx}
theorem Kp.free' {s s' : Shared} (h : Kp s s') {a : Addr} (ha : s'.heap.get? a = none) : s.heap.get? a = none := by
  cases e : s.heap.get? a with
  | none => rfl
  | some o => have := h.get e; rw [ha] at this; cases this

noncomputable def itemsL (a : AVal) : Option (List AVal) := a.lst?.bind fun xs => if xs.length < 1000 then some xs else none
noncomputable def itemsD (a : AVal) : Option (List AVal) := a.dct?.bind fun es => if es.length < 1000 then some (es.map fun p => .int p.1) else none
noncomputable def itemsB (a : AVal) : Option (List AVal) := a.bytes?.bind fun b => if b.length < 1000 then some (b.map fun (n : Nat) => .int (n : Int)) else none

theorem ri_lst {k : Nat} {e : Expr} {f : ASt → Option AVal} (R : RP Z S k e f) {tup : Bool} : RI Z S k tup e (fun st => (f st).bind itemsL) := by
  intro A env own D γ st s xs E hf r hr
  obtain ⟨a, q1, f1⟩ := bind_some hf
  obtain ⟨ys, q2, f2⟩ := bind_some f1
  obtain ⟨hlt, f3⟩ := ite_some f2
  cases f3
  obtain rfl := lst?_some q2
  refine R.use q1 r hr fun v s1 k1 v1 => ?_
  obtain ⟨l, vs, rfl, hl, hp, hvs⟩ := vrel_lst v1
  have l1 : vs.toArray.size = xs.length := by rw [List.size_toArray, hvs.length]
  have w1 := (r.keeps' k1).wd
  refine wpAny_pyIter_list hp.isList ?_
  have k2 : Kp s1 { s1 with heap := s1.heap.push { cls := .type "list_iterator", data := .fields #[.ref l, .int 0 0] } } := ⟨_, _, rfl, fun b o e => Heap.get?_push_of_some _ e⟩
  have hll : l ≠ s1.heap.objs.size := by obtain ⟨n, e⟩ := hp; exact Nat.ne_of_lt (Heap.lt_size e)
  have W := Walks.list (prog := Z.prog) (w := Z.w) hr.handled s1.heap.objs.size l hll vs.toArray
  rw [l1] at W
  refine ⟨k1.trans k2, _, rfl, ?_, s1.heap, [s1.heap.objs.size, l], _, _, ⟨none_of_size (Nat.le_refl _), fun b o e => Heap.get?_push_of_some _ e⟩, W, hlt, ⟨⟨_, Heap.get?_push_size _ rfl, rfl, rfl⟩, hp.isList.at fun o e => Heap.get?_push_of_some _ e⟩, (fun i h hst => let ⟨o, e, _⟩ := hst.1; ⟨o, e⟩), w1.new, ?_, ?_, ?_⟩
  · cases e : s.heap.get? s1.heap.objs.size with
    | none => rfl
    | some o => have := k1.get e; rw [none_of_size (Nat.le_refl _)] at this; cases this
  · intro b hb
    rcases List.mem_cons.mp hb with rfl | hb
    · exact ⟨.inl w1.new, _, Heap.get?_push_size _ rfl⟩
    · obtain rfl := List.mem_singleton.mp hb
      obtain ⟨n, e⟩ := hp
      exact ⟨.inl hl, _, Heap.get?_push_of_some _ e⟩
  · intro i v hi
    obtain ⟨x, h1, h2⟩ := hvs.get' (i := i) (by rw [← hi, List.getElem?_toArray])
    exact ⟨x, h1, h2⟩
  · intro _ elts n pos T i s2 E' Q hst hQ
    exact wpAny_letOwnedTupleGo_listiter hst.1 hQ

/-- a list that is a cell, for a comprehension of pairs -/
noncomputable def itemsC (cs : List ACell) (a : AVal) : Option (List AVal) := a.cell?.bind fun i => cs[i]?.bind fun c => c.lst?.bind fun xs => if xs.length < 1000 then some xs else none
theorem ri_cell {k : Nat} {e : Expr} {f : ASt → Option AVal} (R : RP Z S k e f) : RI Z S k true e (fun st => (f st).bind (itemsC st.cells)) := by
  intro A env own D γ st s xs E hf r hr
  obtain ⟨a, q1, f1⟩ := bind_some hf
  obtain ⟨i, q2, f2⟩ := bind_some f1
  obtain ⟨c, q3, f3⟩ := bind_some f2
  obtain ⟨ys, q4, f4⟩ := bind_some f3
  obtain ⟨hlt, f5⟩ := ite_some f4
  cases f5
  obtain rfl := cell?_some q2
  obtain rfl := clst?_some q4
  refine R.use q1 r hr fun v s1 k1 v1 => ?_
  obtain ⟨l, rfl, hi⟩ := vrel_cell v1
  have w1 := (r.keeps' k1).wd
  obtain ⟨vs, hp, hvs⟩ := cell_lst (w1.cells.2 i l _ hi q3)
  have l1 : vs.toArray.size = xs.length := by rw [List.size_toArray, hvs.length]
  refine wpAny_pyIter_list hp.isList ?_
  have k2 : Kp s1 { s1 with heap := s1.heap.push { cls := .type "list_iterator", data := .fields #[.ref l, .int 0 0] } } := ⟨_, _, rfl, fun b o e => Heap.get?_push_of_some _ e⟩
  have hll : l ≠ s1.heap.objs.size := by obtain ⟨n, e⟩ := hp; exact Nat.ne_of_lt (Heap.lt_size e)
  have W := Walks.list (prog := Z.prog) (w := Z.w) hr.handled s1.heap.objs.size l hll vs.toArray
  rw [l1] at W
  refine ⟨k1.trans k2, _, rfl, k1.free' (none_of_size (Nat.le_refl _)), s1.heap, [s1.heap.objs.size, l], _, _, ⟨none_of_size (Nat.le_refl _), fun b o e => Heap.get?_push_of_some _ e⟩, W, hlt, ⟨⟨_, Heap.get?_push_size _ rfl, rfl, rfl⟩, hp.isList.at fun o e => Heap.get?_push_of_some _ e⟩, (fun i h hst => let ⟨o, e, _⟩ := hst.1; ⟨o, e⟩), w1.new, ?_, ?_, ?_⟩
  · intro b hb
    rcases List.mem_cons.mp hb with rfl | hb
    · exact ⟨.inl w1.new, _, Heap.get?_push_size _ rfl⟩
    · obtain rfl := List.mem_singleton.mp hb
      obtain ⟨n, e⟩ := hp
      exact ⟨.inr ⟨rfl, List.mem_of_getElem? hi⟩, _, Heap.get?_push_of_some _ e⟩
  · intro i v hi
    obtain ⟨x, h1, h2⟩ := hvs.get' (i := i) (by rw [← hi, List.getElem?_toArray])
    exact ⟨x, h1, h2⟩
  · intro _ elts n pos T i s2 E' Q hst hQ
    exact wpAny_letOwnedTupleGo_listiter hst.1 hQ

theorem ri_dct {k : Nat} {e : Expr} {f : ASt → Option AVal} (R : RP Z S k e f) : RI Z S k false e (fun st => (f st).bind itemsD) := by
  intro A env own D γ st s xs E hf r hr
  obtain ⟨a, q1, f1⟩ := bind_some hf
  obtain ⟨es, q2, f2⟩ := bind_some f1
  obtain ⟨hlt, f3⟩ := ite_some f2
  cases f3
  obtain rfl := dct?_some q2
  refine R.use q1 r hr fun v s1 k1 v1 => ?_
  obtain ⟨l, kvs, rfl, hl, hn, hd, hvs⟩ := vrel_dct v1
  have l1 := dvals_length hvs
  have w1 := (r.keeps' k1).wd
  obtain ⟨ep, hat⟩ := hd.dictAt
  refine wpAny_pyIter_dict (beq_false_of_ne hn) hat ?_
  have k2 : Kp s1 { s1 with heap := s1.heap.push { cls := .type "dict_keyiterator", data := .fields #[.ref l, .int 0 0, .int kvs.length 0, .int ep 0] } } := ⟨_, _, rfl, fun b o e => Heap.get?_push_of_some _ e⟩
  have hlt2 := hat.lt_size
  have W := Walks.dictKeys (prog := Z.prog) (w := Z.w) (knd := Z.ik) hr.handled s1.heap.objs.size l (Nat.ne_of_lt hlt2) kvs ep
  have e1 : kvs.length = (es.map fun p => AVal.int p.1).length := by rw [l1, List.length_map]
  rw [e1] at W
  refine ⟨k1.trans k2, _, rfl, ?_, s1.heap, [s1.heap.objs.size, l], _, _, ⟨none_of_size (Nat.le_refl _), fun b o e => Heap.get?_push_of_some _ e⟩, W, by rw [List.length_map]; exact hlt, ⟨⟨_, Heap.get?_push_size _ rfl, rfl, by rw [← e1]; rfl⟩, hat.push _⟩, (fun i h hst => let ⟨o, e, _⟩ := hst.1; ⟨o, e⟩), w1.new, ?_, ?_, (fun h => nomatch h)⟩
  · cases e : s.heap.get? s1.heap.objs.size with
    | none => rfl
    | some o => have := k1.get e; rw [none_of_size (Nat.le_refl _)] at this; cases this
  · intro b hb
    rcases List.mem_cons.mp hb with rfl | hb
    · exact ⟨.inl w1.new, _, Heap.get?_push_size _ rfl⟩
    · obtain rfl := List.mem_singleton.mp hb
      obtain ⟨o, _, e, _⟩ := hat
      exact ⟨.inl hl, _, Heap.get?_push_of_some _ e⟩
  · rintro i v ⟨kk, x, hx, hk⟩
    obtain ⟨t, rfl⟩ := Value.isInt_shape hk
    have h1 : (kvs.map (·.1))[i]? = some kk := by rw [List.getElem?_map, hx]; rfl
    rw [dvals_keys hvs, List.getElem?_map] at h1
    obtain ⟨p, hp, hpk⟩ := Option.map_eq_some_iff.mp h1
    exact ⟨.int kk, by rw [List.getElem?_map, hp, ← hpk]; rfl, .int _ _⟩

theorem ri_bytes {k : Nat} {e : Expr} {f : ASt → Option AVal} (R : RP Z S k e f) : RI Z S k false e (fun st => (f st).bind itemsB) := by
  intro A env own D γ st s xs E hf r hr
  obtain ⟨a, q1, f1⟩ := bind_some hf
  obtain ⟨es, q2, f2⟩ := bind_some f1
  obtain ⟨hlt, f3⟩ := ite_some f2
  cases f3
  obtain rfl := bytes?_some q2
  refine R.use q1 r hr fun v s1 k1 v1 => ?_
  obtain ⟨b, t, rfl, rfl⟩ := vrel_bytes v1
  have l1 : (toNats b).length = b.size := by unfold toNats; rw [List.length_map, Array.length_toList]
  have w1 := (r.keeps' k1).wd
  refine KBw.pyIter_bytes ?_
  have W := KBw.walks (prog := Z.prog) (w := Z.w) hr.handled s1.heap.objs.size b t
  have e1 : b.size = ((toNats b).map fun (n : Nat) => AVal.int n).length := by rw [List.length_map, l1]
  rw [e1] at W
  refine ⟨k1.trans ⟨_, _, rfl, fun b o e => Heap.get?_push_of_some _ e⟩, _, rfl, ?_, s1.heap, [s1.heap.objs.size], _, _, ⟨none_of_size (Nat.le_refl _), fun b o e => Heap.get?_push_of_some _ e⟩, W, by rw [List.length_map]; exact hlt, ⟨_, Heap.get?_push_size _ rfl, rfl, rfl⟩, (fun i h hst => let ⟨o, e, _⟩ := hst; ⟨o, e⟩), w1.new, ?_, ?_, (fun h => nomatch h)⟩
  · cases e : s.heap.get? s1.heap.objs.size with
    | none => rfl
    | some o => have := k1.get e; rw [none_of_size (Nat.le_refl _)] at this; cases this
  · intro b hb
    obtain rfl := List.mem_singleton.mp hb
    exact ⟨.inl w1.new, _, Heap.get?_push_size _ rfl⟩
  · rintro i v ⟨c, u, hc, rfl⟩
    refine ⟨.int (c.toNat : Int), ?_, .int _ _⟩
    unfold toNats
    rw [List.getElem?_map, List.getElem?_map, Array.getElem?_toList, hc]; rfl
end
end Mine

end
section

namespace Mine
/-- what an iterator hands out goes to names -/
noncomputable def RTgt (Z : Amb) (S : Sx) (tup : Bool) (target : Expr) (tg : AVal → ASt → Option ASt) : Prop :=
  ∀ {A : Around} {env : Env} {own D γ : List Addr} {st st' : ASt} {s : Shared} {v : Value} {a : AVal} {I : Addr} {E : Value → Shared → Prop} {k : Nat}, tg a st = some st' → Rel Z S env own D γ st s.heap → VRel Z s.heap D γ v a → Room A k →
    (tup = true → ∀ (elts : List Expr) (k : Nat) (pos : Pos) (T : Addr) (E : Value → Shared → Prop) (Q : Unit → Shared → Prop), Q () s → wpAny Z.M A (letOwnedTupleGo (.Tuple elts k pos) (.ref I) (.ref T)) Q E s) →
    wpAny Z.M A (letOwnedTupleGo target (.ref I) v) (fun _ s1 => wpAny Z.M A (assign target env v) (fun _ s2 => Chg own s s2 ∧ Rel Z S env own D γ st' s2.heap) E s1) E s

section
variable {Z : Amb} {S : Sx}

theorem Rel.over {env : Env} {own D D₂ γ : List Addr} {st : ASt} {h h' : Heap} {I : Addr} (r : Rel Z S env own D γ st h) (hk : ∀ b o, b ≠ I → h.get? b = some o → h'.get? b = some o) (hI : I ∈ D) (hIo : I ∉ own) (hIγ : I ∉ γ)
    (hIc : ∀ (x : Str) (c : Addr), env.cells.lookup x = some c → c ≠ I) (hD : ∀ d ∈ D₂, d ∈ D) (ho : ∀ a ∈ own, a ∈ D₂) (hγ : ∀ a ∈ γ, a ∈ D₂) (hcap : ∀ (x : Str) (c : Addr), env.cells.lookup x = some c → c ∈ D₂) (hlive : ∀ d ∈ D₂, ∃ o, h'.get? d = some o) : Rel Z S env own D₂ γ st h' := by
  have kD : ∀ b o, b ∉ D → h.get? b = some o → h'.get? b = some o := fun b o hb e => hk b o (fun q => hb (q ▸ hI)) e
  have up : ∀ {v : Value} {a : AVal}, VRel Z h D γ v a → VRel Z h' D₂ γ v a := fun x => by
    have := VRel.grow (ex := []) (D' := D₂) (fun a ha => .inl (hD a ha)) (x.mono kD)
    rwa [List.append_nil] at this
  exact { r with
    ownD := ho
    γD := hγ
    cap := fun x c h => ⟨hcap x c h, (r.cap x c h).2⟩
    base := fun b o e => hk b o (fun q => by have := (r.live I hI).1; rw [← q, e] at this; cases this) (r.base b o e)
    live := fun d hd => ⟨(r.live d (hD d hd)).1, hlive d hd⟩
    ns := by
      obtain ⟨m, hn, hm⟩ := r.ns
      refine ⟨m, hn.at' fun o e => hk _ o (fun q => hIo (q ▸ r.Lown)) e, fun i x h1 h2 av h3 => ?_⟩
      obtain ⟨v, e, rv⟩ := hm i x h1 h2 av h3
      exact ⟨v, e, up rv⟩
    cl := fun i x h1 h2 => by
      obtain ⟨c, vo, e1, e2, e3⟩ := r.cl i x h1 h2
      obtain ⟨o, ho, hd⟩ := e2
      refine ⟨c, vo, e1, ⟨o, hk _ o (hIc x c e1) ho, hd⟩, fun av h3 => ?_⟩
      obtain ⟨v, e, rv⟩ := e3 av h3
      exact ⟨v, e, up rv⟩
    cells := (r.cells.mono kD fun a ha o e => hk a o (fun q => hIγ (q ▸ ha)) e).grow fun a ha => .inl (hD a ha) }

/-- fewer dirty addresses -/
theorem Rel.drop {env : Env} {own D D₂ γ : List Addr} {st : ASt} {h : Heap} (r : Rel Z S env own D γ st h) (hD : ∀ {d : Addr}, d ∈ D₂ → d ∈ D) (ho : ∀ a ∈ own, a ∈ D₂) (hγ : ∀ a ∈ γ, a ∈ D₂) (hcap : ∀ (x : Str) (c : Addr), env.cells.lookup x = some c → c ∈ D₂) : Rel Z S env own D₂ γ st h := by
  have up : ∀ {v : Value} {a : AVal}, VRel Z h D γ v a → VRel Z h D₂ γ v a := fun x => by
    have := VRel.grow (ex := []) (D' := D₂) (fun a ha => .inl (hD ha)) x
    rwa [List.append_nil] at this
  exact { r with
    ownD := ho
    γD := hγ
    cap := fun x c h => ⟨hcap x c h, (r.cap x c h).2⟩
    live := fun d hd => r.live d (hD hd)
    ns := let ⟨m, hn, hm⟩ := r.ns; ⟨m, hn, fun i x h1 h2 av h3 => let ⟨v, e, rv⟩ := hm i x h1 h2 av h3; ⟨v, e, up rv⟩⟩
    cl := fun i x h1 h2 => let ⟨c, vo, e1, e2, e3⟩ := r.cl i x h1 h2; ⟨c, vo, e1, e2, fun av h3 => let ⟨v, e, rv⟩ := e3 av h3; ⟨v, e, up rv⟩⟩
    cells := r.cells.grow fun a ha => .inl (hD ha) }

/-- more dirty addresses: they were free -/
theorem Rel.growD {env : Env} {own D ex γ : List Addr} {st : ASt} {h h' : Heap} (r : Rel Z S env own D γ st h) (hk : ∀ b o, h.get? b = some o → h'.get? b = some o) (hex : ∀ a ∈ ex, h.get? a = none) (hlive : ∀ a ∈ ex, ∃ o, h'.get? a = some o) : Rel Z S env own (D ++ ex) γ st h' := by
  have hD : ∀ a, a ∈ D ++ ex → a ∈ D ∨ h.get? a = none := fun a ha => (List.mem_append.mp ha).imp id (hex a)
  have up : ∀ {v : Value} {a : AVal}, VRel Z h D γ v a → VRel Z h' (D ++ ex) γ v a := fun x => by
    have := VRel.grow (ex := []) hD x
    rw [List.append_nil] at this
    exact this.keeps hk
  exact { r with
    ownD := fun a ha => List.mem_append_left _ (r.ownD a ha)
    γD := fun a ha => List.mem_append_left _ (r.γD a ha)
    cap := fun x c h => ⟨List.mem_append_left _ (r.cap x c h).1, (r.cap x c h).2⟩
    base := fun b o e => hk b o (r.base b o e)
    live := fun d hd => by
      rcases List.mem_append.mp hd with hd | hd
      · obtain ⟨h1, o, e⟩ := r.live d hd; exact ⟨h1, o, hk d o e⟩
      · refine ⟨?_, hlive d hd⟩
        cases e : Z.H0.get? d with
        | none => rfl
        | some o => have := r.base d o e; rw [hex d hd] at this; cases this
    ns := by
      obtain ⟨m, hn, hm⟩ := r.ns
      refine ⟨m, hn.keeps hk, fun i x h1 h2 av h3 => ?_⟩
      obtain ⟨v, e, rv⟩ := hm i x h1 h2 av h3
      exact ⟨v, e, up rv⟩
    cl := fun i x h1 h2 => by
      obtain ⟨c, vo, e1, e2, e3⟩ := r.cl i x h1 h2
      refine ⟨c, vo, e1, e2.keeps hk, fun av h3 => ?_⟩
      obtain ⟨v, e, rv⟩ := e3 av h3
      exact ⟨v, e, up rv⟩
    cells := (r.cells.grow hD).mono (fun b o _ e => hk b o e) fun _ _ o e => hk _ o e }

/-! targets -/
noncomputable def tgName (i : Nat) (a : AVal) (st : ASt) : Option ASt := some (stv i a st)
noncomputable def tgPair (i j : Nat) (a : AVal) (st : ASt) : Option ASt := a.tup?.bind fun l => match l with
  | [x, y] => some (stv j y (stv i x st))
  | _ => none

theorem tgt_name {tup : Bool} {i : Nat} {x : Str} {kd : NameKind} {p : Pos} (hi : S.vars[i]? = some x) (hk : S.sc.names.lookup x = some kd) (hkd : kd = .local ∨ (kd = .cell ∧ x ∈ S.wv)) : RTgt Z S tup (.Name x p) (tgName i) := by
  intro A env own D γ st st' s v a I E k hg r hv hr _
  cases hg
  refine wpAny_of_eq (a := ()) rfl (wpAny_assign_Name (storeVar hi hk hkd r hv fun s2 c2 r2 => ⟨c2, r2⟩))

theorem unpack2 {A : Around} {env : Env} {own D γ : List Addr} {st : ASt} {s : Shared} {v : Value} {a1 a2 : AVal} {E : Value → Shared → Prop} {k n : Nat} {pos p q : Pos} {i j : Nat} {x y : Str} {kd ke : NameKind} {Q : Unit → Shared → Prop}
    (hi : S.vars[i]? = some x) (hk : S.sc.names.lookup x = some kd) (hkd : kd = .local ∨ (kd = .cell ∧ x ∈ S.wv)) (hj : S.vars[j]? = some y) (hl : S.sc.names.lookup y = some ke) (hke : ke = .local ∨ (ke = .cell ∧ y ∈ S.wv))
    (r : Rel Z S env own D γ st s.heap) (hv : VRel Z s.heap D γ v (.tup [a1, a2])) (hr : Room A k) (h : ∀ s2, Chg own s s2 → Rel Z S env own D γ (stv j a2 (stv i a1 st)) s2.heap → Q () s2) :
    wpAny Z.M A (assign (.Tuple [.Name x p, .Name y q] n pos) env v) Q E s := by
  obtain ⟨T, vs, rfl, _, hp, hvs⟩ := vrel_tup hv
  obtain ⟨u1, u2, rfl, h1, h2⟩ := vrels_2 hvs
  refine assign_Tuple_tuple hr.handled hp.isTup rfl rfl fun h' he => ?_
  have k1 : Kp s { s with heap := h' } := ⟨h', _, rfl, fun b o e => he b o (Nat.ne_of_lt (Heap.lt_size e)) e⟩
  show wpAny _ _ (do holding [u2] (assign (.Name x p) env u1); assignInOrder [assign (.Name y q) env] [u2]) _ _ _
  refine wpAny_bind (wpAny_holding (wpAny_assign_Name (storeVar hi hk hkd (r.keeps' k1) (h1.keeps fun _ _ e => k1.get e) fun s1 c1 r1 => ?_)))
  show wpAny _ _ (do holding [] (assign (.Name y q) env u2); assignInOrder [] []) _ _ _
  have h2' : VRel Z s1.heap D γ u2 a2 := (h2.keeps fun _ _ e => k1.get e).mono fun b o hb e => c1.get (fun h => hb (r.ownD b h)) e
  refine wpAny_bind (wpAny_holding (wpAny_assign_Name (storeVar hj hl hke r1 h2' fun s2 c2 r2 => ?_)))
  exact wpAny_pure (h s2 (((k1.chg _).trans c1 fun b hb => .inl hb).trans c2 fun b hb => .inl hb) r2)

theorem tgt_pair {i j : Nat} {x y : Str} {kd ke : NameKind} {p q pos : Pos} {n : Nat} (hi : S.vars[i]? = some x) (hk : S.sc.names.lookup x = some kd) (hkd : kd = .local ∨ (kd = .cell ∧ x ∈ S.wv))
    (hj : S.vars[j]? = some y) (hl : S.sc.names.lookup y = some ke) (hke : ke = .local ∨ (ke = .cell ∧ y ∈ S.wv)) : RTgt Z S true (.Tuple [.Name x p, .Name y q] n pos) (tgPair i j) := by
  intro A env own D γ st st' s v a I E k hg r hv hr hgo
  obtain ⟨l, q1, g1⟩ := bind_some hg
  obtain rfl := tup?_some q1
  clear hg q1
  split at g1
  · rename_i a1 a2
    cases g1
    obtain ⟨T, vs, rfl, _⟩ := vrel_tup hv
    exact hgo rfl _ _ _ _ _ _ (unpack2 hi hk hkd hj hl hke r hv hr fun s2 c2 r2 => ⟨c2, r2⟩)
  · cases g1

/-! for -/
noncomputable def forL (tg : AVal → ASt → Option ASt) (b : AS) : List AVal → AS
  | [], st => some (.next, st)
  | x :: xs, st => match tg x st with
    | some st1 => (match b st1 with
      | some (.next, st2) => forL tg b xs st2
      | some (.cont, st2) => forL tg b xs st2
      | some (.brk, st2) => some (.next, st2)
      | some (.ret v, st2) => some (.ret v, st2)
      | none => none)
    | none => none
noncomputable def sFor (f : ASt → Option (List AVal)) (tg : AVal → ASt → Option ASt) (b : AS) : AS := fun st => (f st).bind fun xs => forL tg b xs st

inductive ForInv (Z : Amb) (S : Sx) (env : Env) (own D γ : List Addr) (s2 : Shared) (I : Addr) (len : Nat) (St : Nat → Heap → Prop) (C : Nat → ASt → Prop) (n : Nat) (s' : Shared) : Prop
  | mk (i : Nat) (ex : List Addr) (st1 : ASt) (e : n = len + 1 - i) (hi : i ≤ len) (hq : C i st1) (hc : Chg (I :: (own ++ γ)) s2 s') (hex : ∀ a ∈ ex, s2.heap.get? a = none) (r : Rel Z S env own (D ++ [I] ++ ex) (γ ++ ex) st1 s'.heap) (hst : St i s'.heap)

/-- the answer of a turn, back at the outside -/
theorem for_back {env : Env} {own D γ ex' : List Addr} {I : Addr} {s s2 s5 : Shared} {st5 : ASt} {x : Flow} {fl5 : AFlow} (k2 : Kp s s2) (hI : s.heap.get? I = none) (hc5 : Chg (I :: (own ++ γ)) s2 s5) (hex5 : ∀ a ∈ ex', s2.heap.get? a = none) (r5 : Rel Z S env own (D ++ ex') (γ ++ ex') st5 s5.heap) (q5 : FRel Z s5.heap (D ++ ex') (γ ++ ex') x fl5) : After Z S env own D γ s fl5 st5 x s5 := by
  exact ⟨ex', (k2.chg _).trans hc5 fun b hb => (List.mem_cons.mp hb).elim (fun q => .inr (q ▸ hI)) .inl, fun a ha => k2.free' (hex5 a ha), r5, q5⟩
theorem FRel.less {h : Heap} {D D' γ : List Addr} {x : Flow} {fl : AFlow} (q : FRel Z h D' γ x fl) (hD : ∀ {d : Addr}, d ∈ D → d ∈ D') : FRel Z h D γ x fl := by
  cases q with
  | next => exact .next
  | brk => exact .brk
  | cont => exact .cont
  | ret hv =>
    refine .ret ?_
    have := VRel.grow (ex := []) (D' := D) (fun a ha => .inl (hD ha)) hv
    rwa [List.append_nil] at this
/-- one address is written over -/
theorem Chg.over1 {L : List Addr} {s s' : Shared} {I : Addr} {h4 : Heap} {tk4 : Nat} (hc : Chg (I :: L) s s') (hk4 : ∀ b o, b ∉ [I] → s'.heap.get? b = some o → h4.get? b = some o) : Chg (I :: L) s { s' with heap := h4, toks := tk4 } :=
  hc.trans (L' := [I]) ⟨h4, tk4, rfl, hk4⟩ fun b hb => .inl (by rw [List.mem_singleton.mp hb]; exact List.mem_cons_self)
theorem not_one {b I : Addr} (h : b ≠ I) : b ∉ [I] := fun m => h (List.mem_singleton.mp m)
theorem mem_mid {α : Type} {a d : α} {D ex : List α} (h : d ∈ D ++ ex) : d ∈ D ++ [a] ++ ex := by
  rcases List.mem_append.mp h with h | h
  · exact List.mem_append_left _ (List.mem_append_left _ h)
  · exact List.mem_append_right _ h
theorem sub_grow {α : Type} {γ D ex : List α} (h : ∀ a ∈ γ, a ∈ D) : ∀ a ∈ γ ++ ex, a ∈ D ++ ex := fun a ha => by
  rcases List.mem_append.mp ha with q | q
  · exact List.mem_append_left _ (h a q)
  · exact List.mem_append_right _ q
theorem mid_mem {α : Type} {a : α} {D ex : List α} : a ∈ D ++ [a] ++ ex := List.mem_append_left _ (List.mem_append_right _ (List.mem_singleton.mpr rfl))
theorem Rel.inD {env : Env} {own D γ γ₀ : List Addr} {st : ASt} {h : Heap} {I : Addr} (r : Rel Z S env own D γ st h) (hI : I ∈ D) (hγ : ∀ a ∈ γ₀, a ∈ γ) : ∀ a, a ∈ I :: (own ++ γ₀) → a ∈ D := fun a hm => by
  rcases List.mem_cons.mp hm with rfl | hm
  · exact hI
  · rcases List.mem_append.mp hm with hm | hm
    · exact r.ownD a hm
    · exact r.γD a (hγ a hm)
theorem Rel.inD1 {env : Env} {own D γ : List Addr} {st : ASt} {h : Heap} {I a : Addr} (r : Rel Z S env own D γ st h) (hI : I ∈ D) (ha : a ∈ D) : ∀ b, b ∈ I :: (own ++ [a]) → b ∈ D := fun b hm => by
  rcases List.mem_cons.mp hm with rfl | hm
  · exact hI
  · rcases List.mem_append.mp hm with hm | hm
    · exact r.ownD b hm
    · rw [List.mem_singleton.mp hm]; exact ha
/-- what a turn left new was new at the loop's start -/
theorem new_append {env : Env} {own D γ : List Addr} {ex ex' : List Addr} {st : ASt} {I : Addr} {s2 s4 s6 : Shared} (r6 : Rel Z S env own (D ++ [I] ++ ex) (γ ++ ex) st s6.heap) (hex : ∀ a ∈ ex, s2.heap.get? a = none) (hex' : ∀ a ∈ ex', s6.heap.get? a = none) (c4 : Chg (I :: (own ++ γ)) s2 s4) (c6 : Chg own s4 s6) :
    ∀ a ∈ ex ++ ex', s2.heap.get? a = none := fun a ha => by
  rcases List.mem_append.mp ha with h | h
  · exact hex a h
  · cases e : s2.heap.get? a with
    | none => rfl
    | some o =>
      by_cases hm : a ∈ I :: (own ++ γ)
      · obtain ⟨o', e'⟩ := (r6.live a (r6.inD mid_mem (fun _ h => List.mem_append_left _ h) a hm)).2
        rw [hex' a h] at e'; cases e'
      · have := c6.get (fun ho => hm (List.mem_cons_of_mem _ (List.mem_append_left _ ho))) (c4.get hm e)
        rw [hex' a h] at this; cases this

theorem for_loop {k : Nat} {target : Expr} {body : List Stmt} {tg : AVal → ASt → Option ASt} {b : AS} (Rt : RTgt Z S false target tg) (Rb : RSs Z S k body b)
    {A : Around} {env : Env} {own D γ : List Addr} {st : ASt} {s s2 : Shared} {fl : AFlow} {st' : ASt} {I : Addr} {xs : List AVal} {RR : Result → Shared → Prop} (f1 : forL tg b xs st = some (fl, st')) (r : Rel Z S env own D γ st s.heap) (hr : Room A k) (k2 : Kp s s2) (hI : s.heap.get? I = none) (it : ItOk Z A D γ s2.heap I xs false)
    (kR : ∀ x s5, After Z S env own D γ s fl st' x s5 → RR (.ok x) s5) : codeAny Z.M A (.forLoop target (.ref I) body [] env) RR s2 := by
  obtain ⟨hb, fp, P, St, ⟨hbI, hbk⟩, W, hsz, hst, hlv, hID, hfp', hval, hgo⟩ := it
  have hfp : ∀ b ∈ fp, b ∉ D ∧ ∃ o, s2.heap.get? b = some o := fun b hb => ⟨(hfp' b hb).1.elim id (fun h => nomatch h.1), (hfp' b hb).2⟩
  have hIo2 : ∃ o, s2.heap.get? I = some o := (hfp I (W.sub I (List.mem_singleton.mpr rfl))).2
  have r2 : Rel Z S env own (D ++ [I]) γ st s2.heap := r.growD (fun _ _ e => k2.get e) (fun a ha => by rw [List.mem_singleton.mp ha]; exact hI) (fun a ha => by rw [List.mem_singleton.mp ha]; exact hIo2)
  have hIo : I ∉ own := fun h => hID (r.ownD I h)
  have hIγ : I ∉ γ := fun h => hID (r.γD I h)
  have hIc : ∀ (x : Str) (c : Addr), env.cells.lookup x = some c → c ≠ I := fun x c h q => hID (q ▸ (r.cap x c h).1)
  have turn : ∀ {n : Nat} {s' : Shared} {K K2 : Flow → Shared → Prop} {E : Value → Shared → Prop}, ForInv Z S env own D γ s2 I xs.length St (fun i st1 => forL tg b (xs.drop i) st1 = some (fl, st')) n s' →
      (∀ s3 m, m < n → ForInv Z S env own D γ s2 I xs.length St (fun i st1 => forL tg b (xs.drop i) st1 = some (fl, st')) m s3 → K .next s3 ∧ K .cont s3) → (∀ s3, After Z S env own D γ s fl st' .next s3 → K .brk s3 ∧ K2 .next s3) → (∀ v s3, After Z S env own D γ s fl st' (.ret v) s3 → K (.ret v) s3) →
      wpAny Z.M A (pyNext (.ref I)) (fun r s1 => match r with
        | none => wpAny Z.M A (execs [] env) K2 E s1
        | some v => wpAny Z.M A (letOwnedTupleGo target (.ref I) v) (fun _ s1' => wpAny Z.M A (assign target env v) (fun _ s2 => wpAny Z.M A (execs body env) K E s2) E s1') E s1) E s' := by
    intro n s' K K2 E hI' kn kb kr
    obtain ⟨i, ex, st1, rfl, hi, hq, hc, hex, r3, hst'⟩ := hI'
    have hIex : I ∉ ex := fun h => by obtain ⟨o, e⟩ := hIo2; rw [hex I h] at e; cases e
    by_cases hlt : i < xs.length
    · refine W.item i s' _ _ hlt hst' fun v h4 tk4 hP hst4 hk4 => ?_
      obtain ⟨x, hx, hv0⟩ := hval i v hP
      rw [List.drop_eq_getElem_cons hlt, (List.getElem?_eq_some_iff.mp hx).2] at hq
      unfold forL at hq
      split at hq
      case h_2 => cases hq
      rename_i st2 q2
      obtain ⟨fl3, st3, q3, T⟩ := turn_of hq
      have c4 : Chg (I :: (own ++ γ)) s2 { s' with heap := h4, toks := tk4 } := hc.over1 hk4
      have r4 : Rel Z S env own (D ++ [I] ++ ex) (γ ++ ex) st1 h4 :=
        r3.over (I := I) (fun b o hb e => hk4 b o (not_one hb) e) mid_mem hIo (fun h => (List.mem_append.mp h).elim hIγ hIex) hIc (fun d h => h) r3.ownD r3.γD (fun x c h => (r3.cap x c h).1) fun d hd => by
          by_cases q : d = I
          · rw [q]; exact hlv _ _ hst4
          · obtain ⟨o, e⟩ := (r3.live d hd).2
            exact ⟨o, hk4 d o (not_one q) e⟩
      have v4 : VRel Z h4 (D ++ [I] ++ ex) (γ ++ ex) v x := by
        have h0 : VRel Z hb (D ++ [I] ++ ex) (γ ++ ex) v x := hv0.grow fun a ha => by
          rcases List.mem_append.mp ha with h | h
          · exact (List.mem_append.mp h).imp id fun h => by rw [List.mem_singleton.mp h]; exact hbI
          · cases e : hb.get? a with
            | none => exact .inr rfl
            | some o => have := hbk a o e; rw [hex a h] at this; cases this
        exact (h0.keeps hbk).mono fun b o hb e => c4.get (fun hm => hb (r3.inD mid_mem (fun _ h => List.mem_append_left _ h) b hm)) e
      refine wpAny_mono (Rt (E := E) q2 r4 v4 hr (fun ht elts kk pos T E' Q hQ => hgo ht elts kk pos T (i + 1) _ E' Q hst4 hQ)) (fun _ s5 h5 => wpAny_mono h5 (fun _ s6 h6 => ?_) fun _ _ x => x) fun _ _ x => x
      obtain ⟨c6, r6⟩ := h6
      refine wpAny_mono (Rb q3 r6 hr) (fun y s7 h7 => ?_) fun _ _ x => x
      obtain ⟨ex', c7, hex', r7, q7⟩ := h7
      have hf' := new_append r6 hex hex' c4 c6
      have c47 : Chg (own ++ (γ ++ ex)) { s' with heap := h4, toks := tk4 } s7 := (c6.mono fun a h => List.mem_append_left _ h).trans c7 fun b hb => .inl hb
      have c27 : Chg (I :: (own ++ γ)) s2 s7 := c4.trans c47 fun b hb => by
        rcases List.mem_append.mp hb with h | h
        · exact .inl (List.mem_cons_of_mem _ (List.mem_append_left _ h))
        · rcases List.mem_append.mp h with h | h
          · exact .inl (List.mem_cons_of_mem _ (List.mem_append_right _ h))
          · exact .inr (hex b h)
      rw [List.append_assoc, List.append_assoc γ] at r7 q7
      have hst7 : St (i + 1) s7.heap := W.frame _ _ _ hst4 fun b hb o e => c47.get (fun hm => by
        obtain ⟨hbD, o', e'⟩ := hfp b hb
        rcases List.mem_append.mp hm with hm | hm
        · exact hbD (r.ownD b hm)
        · rcases List.mem_append.mp hm with hm | hm
          · exact hbD (r.γD b hm)
          · rw [hex b hm] at e'; cases e') e
      have r9 : Rel Z S env own (D ++ (ex ++ ex')) (γ ++ (ex ++ ex')) st3 s7.heap := r7.drop mem_mid (fun a ha => List.mem_append_left _ (r.ownD a ha)) (sub_grow r.γD) fun x c h => List.mem_append_left _ (r.cap x c h).1
      exact After.turn0 (K := fun y => K y s7) (for_back k2 hI c27 hf' r9 (q7.less mem_mid)) T (fun hq => kn s7 (xs.length + 1 - (i + 1)) (Nat.sub_lt_sub_left (Nat.lt_succ_of_lt hlt) (Nat.lt_succ_self i)) ⟨i + 1, ex ++ ex', st3, rfl, hlt, hq, c27, hf', r7, hst7⟩) (fun a => (kb s7 a).1) fun v a => kr v s7 a
    · rw [List.drop_eq_nil_of_le (Nat.not_lt.mp hlt)] at hq
      cases hq
      obtain rfl := Nat.le_antisymm hi (Nat.not_lt.mp hlt)
      refine W.done s' _ _ hst' fun h4 tk4 hk4 => wpAny_execs_nil (kb _ (for_back (ex' := ex) k2 hI (hc.over1 hk4) hex ?_ .next)).2
      have nI : ∀ {d : Addr}, d ∈ D ++ ex → d ≠ I := fun hd q => (List.mem_append.mp hd).elim (fun h => hID (q ▸ h)) fun h => hIex (q ▸ h)
      exact r3.over (I := I) (fun b o hb e => hk4 b o (not_one hb) e) mid_mem hIo (fun h => (List.mem_append.mp h).elim hIγ hIex) hIc (fun d h => mem_mid h) (fun a ha => List.mem_append_left _ (r.ownD a ha)) (sub_grow r.γD) (fun x c h => List.mem_append_left _ (r.cap x c h).1) fun d hd => by
        obtain ⟨o, e⟩ := (r3.live d (mem_mid hd)).2
        exact ⟨o, hk4 d o (not_one (nI hd)) e⟩
  exact codeAny_forLoop_any (fun n s' => ForInv Z S env own D γ s2 I xs.length St (fun i st1 => forL tg b (xs.drop i) st1 = some (fl, st')) n s') (fun n s' h => turn h (fun s3 m hm i => ⟨⟨m, hm, i⟩, ⟨m, hm, i⟩⟩) (fun s3 a => ⟨kR _ _ a, kR _ _ a⟩) fun v s3 a => kR _ _ a) (xs.length + 1)
    ⟨0, [], st, rfl, Nat.zero_le _, f1, (Kp.refl s2).chg _, (fun _ h => nomatch h), by rw [List.append_nil, List.append_nil]; exact r2, hst⟩

theorem rs_for {k : Nat} {target iter : Expr} {body : List Stmt} {pos : Pos} {f : ASt → Option (List AVal)} {tg : AVal → ASt → Option ASt} {b : AS} (R : RI Z S k false iter f) (Rt : RTgt Z S false target tg) (Rb : RSs Z S k body b)
    (hs : ∀ env x, foldedSetIterable iter env x = pure x) : RSt Z S k (.For target iter body [] pos) (sFor f tg b) := by
  intro A env own D γ st s fl st' E hf r hr
  obtain ⟨xs, q1, f1⟩ := bind_some hf
  refine wpAny_For (wpAny_mono (R q1 r hr) (fun x s1 h1 => wpAny_mono h1 (fun it s2 h2 => ?_) fun _ _ x => x) fun _ _ x => x) (hs env)
  obtain ⟨k2, I, rfl, hI, o⟩ := h2
  exact for_loop Rt Rb f1 r hr k2 hI o fun _ _ a => a
end
end Mine

end
section

namespace Mine

noncomputable def relabelS (scope sc : Scope) : Scope :=
  { scope with names := scope.names.map fun (n, k) => if (k == .free && sc.kind == .function && sc.names.lookup n == some .cell) then (n, .cell) else (n, k) }

noncomputable def closL (cells : List (Str × Addr)) : List (Str × NameKind) → List (Str × Addr) → List (Str × Addr)
  | [], acc => acc
  | (n, k) :: r, acc => if k == .free then closL cells r ((n, (cells.lookup n).getD 0) :: acc) else closL cells r acc

theorem closL_sound {cells : List (Str × Addr)} : ∀ {names : List (Str × NameKind)} {acc : List (Str × Addr)}, (∀ x ∈ names, x.2 = .free → (cells.lookup x.1).isSome = true) → (∀ x c, (x, c) ∈ acc → cells.lookup x = some c) → ∀ x c, (x, c) ∈ closL cells names acc → cells.lookup x = some c
  | [], _, _, h2, x, c, h => h2 x c h
  | (n, k) :: r, acc, h1, h2, x, c, h => by
    unfold closL at h
    split at h
    · rename_i hk
      refine closL_sound (fun y hy => h1 y (List.mem_cons_of_mem _ hy)) (fun y d hy => ?_) x c h
      rcases List.mem_cons.mp hy with e | hy
      · obtain ⟨d', hd⟩ := Option.isSome_iff_exists.mp (h1 (n, k) List.mem_cons_self (by simpa using hk))
        cases e
        simp only at hd
        rw [hd]; rfl
      · exact h2 y d hy
    · exact closL_sound (fun y hy => h1 y (List.mem_cons_of_mem _ hy)) h2 x c h
theorem closL_mem {cells : List (Str × Addr)} : ∀ {names : List (Str × NameKind)} {acc : List (Str × Addr)} {x : Str}, ((x, NameKind.free) ∈ names ∨ ∃ c, (x, c) ∈ acc) → ∃ c, (x, c) ∈ closL cells names acc
  | [], _, _, h => by
    rcases h with h | h
    · cases h
    · exact h
  | (n, k) :: r, acc, x, h => by
    unfold closL
    split
    · refine closL_mem ?_
      rcases h with h | ⟨c, h⟩
      · rcases List.mem_cons.mp h with e | h
        · cases e; exact .inr ⟨_, List.mem_cons_self⟩
        · exact .inl h
      · exact .inr ⟨c, List.mem_cons_of_mem _ h⟩
    · rename_i hk
      refine closL_mem ?_
      rcases h with h | h
      · rcases List.mem_cons.mp h with e | h
        · cases e; simp at hk
        · exact .inl h
      · exact .inr h

theorem closL_free {cells : List (Str × Addr)} : ∀ {names : List (Str × NameKind)} {acc : List (Str × Addr)} {x : Str} {c : Addr}, (x, c) ∈ closL cells names acc → (x, c) ∈ acc ∨ (x, NameKind.free) ∈ names
  | [], _, _, _, h => .inl h
  | (n, k) :: r, acc, x, c, h => by
    unfold closL at h
    split at h
    · rename_i hk
      rcases closL_free h with h | h
      · rcases List.mem_cons.mp h with e | h
        · cases e
          have : k = .free := by simpa using hk
          exact .inr (by rw [this]; exact List.mem_cons_self)
        · exact .inl h
      · exact .inr (List.mem_cons_of_mem _ h)
    · exact (closL_free h).imp id (List.mem_cons_of_mem _)
theorem mem_key {names : List (Str × NameKind)} (hn : (names.map (·.1)).Nodup) {x : Str} {a b : NameKind} (ha : (x, a) ∈ names) (hb : (x, b) ∈ names) : a = b := by
  induction names with
  | nil => cases ha
  | cons p r ih =>
    rw [List.map_cons, List.nodup_cons] at hn
    rcases List.mem_cons.mp ha with e | ha <;> rcases List.mem_cons.mp hb with e' | hb
    · rw [← e'] at e; exact (Prod.mk.inj e).2
    · exact absurd (show p.1 ∈ r.map (·.1) by rw [← e]; exact List.mem_map.mpr ⟨(x, b), hb, rfl⟩) hn.1
    · exact absurd (show p.1 ∈ r.map (·.1) by rw [← e']; exact List.mem_map.mpr ⟨(x, a), ha, rfl⟩) hn.1
    · exact ih hn.2 ha hb
theorem pairwise_all {α : Type} {R : α → α → Prop} : ∀ {l : List α}, (∀ x ∈ l, ∀ y ∈ l, R x y) → l.Pairwise R
  | [], _ => .nil
  | x :: _, h => .cons (fun y hy => h x List.mem_cons_self y (List.mem_cons_of_mem _ hy)) (pairwise_all fun x hx y hy => h x (List.mem_cons_of_mem _ hx) y (List.mem_cons_of_mem _ hy))

theorem forIn_clos {env : Env} (f : Str × NameKind → List (Str × Addr) → Sem (ForInStep (List (Str × Addr))))
    (hf : ∀ n k cs, f (n, k) cs = if k == .free then (do let a ← cellOf env n; pure (.yield ((n, a) :: cs))) else pure (.yield cs)) : ∀ (names : List (Str × NameKind)) (acc : List (Str × Addr)),
    (∀ x ∈ names, x.2 = .free → (env.cells.lookup x.1).isSome = true) → forIn names acc f = (pure (closL env.cells names acc) : Sem (List (Str × Addr)))
  | [], acc, _ => by rw [List.forIn_nil]; rfl
  | (n, k) :: r, acc, h => by
    rw [List.forIn_cons, hf]
    unfold closL
    split
    · rename_i hk
      obtain ⟨d, hd⟩ := Option.isSome_iff_exists.mp (h (n, k) List.mem_cons_self (by simpa using hk))
      simp only at hd
      rw [show cellOf env n = pure d from by unfold cellOf; rw [hd], hd]
      exact forIn_clos f hf r _ fun x hx => h x (List.mem_cons_of_mem _ hx)
    · exact forIn_clos f hf r _ fun x hx => h x (List.mem_cons_of_mem _ hx)
theorem closureFor_eq {scope : Scope} {env : Env} (h : ∀ x ∈ scope.names, x.2 = .free → (env.cells.lookup x.1).isSome = true) : closureFor scope env = pure (closL env.cells scope.names []) := by
  unfold closureFor
  show (forIn scope.names [] (fun (x : Str × NameKind) (cs : List (Str × Addr)) => if (x.2 == .free) = true then (do let a ← cellOf env x.1; pure (.yield ((x.1, a) :: cs))) else pure (.yield cs)) >>= fun s => pure s) = _
  rw [forIn_clos _ (fun _ _ _ => rfl) _ _ h]
  rfl

section
variable {M : Model} {A : Around} {E : Value → Shared → Prop} {s : Shared}
/-- the frame of a comprehension -/
noncomputable def cEnv (scope : Scope) (C : Addr) (env : Env) : Env :=
  { scope := relabelS scope env.scope, locals := C, globals := env.globals, cells := cellsFrom (C + 1) scope.names (closL env.cells scope.names []), qual := env.qual, func := none, code := env.code, frame := env.frame, builtins := env.builtins }

theorem newCompEnv {scope : Scope} {env : Env} {cl : List (Str × Addr)} {Q : Env → Shared → Prop}
    (h : ∀ h', h' = pushCells (s.heap.push { cls := .type "dict", data := .dict #[] }) scope.names → Q { scope := scope, locals := s.heap.objs.size, globals := env.globals, cells := cellsFrom (s.heap.objs.size + 1) scope.names cl, qual := env.qual, func := none, code := env.code, frame := env.frame, builtins := env.builtins } { s with heap := h' }) :
    wpAny M A (newFunctionEnv scope env.globals cl [] env.qual none .none (some env)) Q E s := by
  simp only [newFunctionEnv, Option.isSome_some, if_true]
  refine wpAny_bind (wpAny_alloc ?_)
  refine wpAny_bind (wpAny_layCells _ (fun name kind cells => by cases hkc : kind == NameKind.cell <;> simp) _ _ _ _ ?_)
  rw [show ({ s with heap := s.heap.push { cls := .type "dict", data := .dict #[] } } : Shared).heap.objs.size = s.heap.objs.size + 1 from Heap.size_push ..]
  rw [List.forIn_nil]
  exact wpAny_bind (wpAny_pure (wpAny_pure (h _ rfl)))
end

theorem cellsFrom_mem : ∀ (names : List (Str × NameKind)) (n : Nat) (acc : List (Str × Addr)) (x : Str) (c : Addr), (x, c) ∈ cellsFrom n names acc → (x, c) ∈ acc ∨ (n ≤ c ∧ (x, NameKind.cell) ∈ names)
  | [], _, _, _, _, h => .inl h
  | (nm, k) :: r, n, acc, x, c, h => by
    unfold cellsFrom at h
    split at h
    · rename_i hk
      rcases cellsFrom_mem r _ _ x c h with h | ⟨h1, h2⟩
      · rcases List.mem_cons.mp h with e | h
        · cases e
          have : k = .cell := by simpa using hk
          exact .inr ⟨Nat.le_refl _, by rw [this]; exact List.mem_cons_self⟩
        · exact .inl h
      · exact .inr ⟨Nat.le_of_succ_le h1, List.mem_cons_of_mem _ h2⟩
    · rcases cellsFrom_mem r _ _ x c h with h | ⟨h1, h2⟩
      · exact .inl h
      · exact .inr ⟨h1, List.mem_cons_of_mem _ h2⟩
theorem cellsFrom_has : ∀ (names : List (Str × NameKind)) (n : Nat) (acc : List (Str × Addr)) (x : Str), ((∃ c, (x, c) ∈ acc) ∨ (x, NameKind.cell) ∈ names) → ∃ c, (x, c) ∈ cellsFrom n names acc
  | [], _, _, _, h => h.elim id fun h => nomatch h
  | (nm, k) :: r, n, acc, x, h => by
    unfold cellsFrom
    split
    · refine cellsFrom_has r _ _ x ?_
      rcases h with ⟨c, h⟩ | h
      · exact .inl ⟨c, List.mem_cons_of_mem _ h⟩
      · rcases List.mem_cons.mp h with e | h
        · cases e; exact .inl ⟨_, List.mem_cons_self⟩
        · exact .inr h
    · rename_i hk
      refine cellsFrom_has r _ _ x ?_
      rcases h with h | h
      · exact .inl h
      · rcases List.mem_cons.mp h with e | h
        · cases e; simp at hk
        · exact .inr h
theorem lookup_of_mem {α : Type} : ∀ {l : List (Str × α)} {x : Str} {c : α}, (x, c) ∈ l → ∃ d, l.lookup x = some d
  | (k, v) :: r, x, c, h => by
    rw [List.lookup_cons]
    cases hb : x == k with
    | true => exact ⟨v, rfl⟩
    | false =>
      rcases List.mem_cons.mp h with e | h
      · cases e; simp at hb
      · exact lookup_of_mem h

theorem cellsFrom_new : ∀ (names : List (Str × NameKind)) (h : Heap) (acc : List (Str × Addr)), acc.Pairwise (fun x y => x.1 ≠ y.1 → x.2 ≠ y.2) → (∀ x ∈ acc, x.2 < h.objs.size) →
    (cellsFrom h.objs.size names acc).Pairwise (fun x y => x.1 ≠ y.1 → x.2 ≠ y.2) ∧ ∀ x c, (x, c) ∈ cellsFrom h.objs.size names acc → (x, c) ∈ acc ∨ (pushCells h names).IsCell c none
  | [], _, _, h1, _ => ⟨h1, fun _ _ h => .inl h⟩
  | (nm, k) :: r, h, acc, h1, h2 => by
    unfold cellsFrom pushCells
    split
    · have := cellsFrom_new r (h.push { cls := .type "cell", data := .cell none }) ((nm, h.objs.size) :: acc) (List.pairwise_cons.mpr ⟨fun y hy _ e => by
        have e' : h.objs.size = y.2 := e
        exact Nat.lt_irrefl _ (e' ▸ h2 y hy), h1⟩) (fun x hx => by
        rw [Heap.size_push]
        rcases List.mem_cons.mp hx with rfl | hx
        · exact Nat.lt_succ_self _
        · exact Nat.lt_succ_of_lt (h2 x hx))
      rw [Heap.size_push] at this
      refine ⟨this.1, fun x c hc => ?_⟩
      rcases this.2 x c hc with h3 | h3
      · rcases List.mem_cons.mp h3 with e | h3
        · cases e
          exact .inr ⟨_, pushCells_keeps _ _ _ _ (Heap.get?_push_size _ rfl), rfl⟩
        · exact .inl h3
      · exact .inr h3
    · exact cellsFrom_new r h acc h1 h2

theorem name_of_addr' : ∀ {cs : List (Str × Addr)}, (cs.Pairwise fun x y => x.1 ≠ y.1 → x.2 ≠ y.2) → ∀ {n n' : Str} {c : Addr}, (n, c) ∈ cs → (n', c) ∈ cs → n = n'
  | x :: r, hp, n, n', c, h, h' => by
    obtain ⟨h1, h2⟩ := List.pairwise_cons.mp hp
    rcases List.mem_cons.mp h with e | h <;> rcases List.mem_cons.mp h' with e' | h'
    · rw [← e'] at e; exact (Prod.mk.inj e).1
    · exact Decidable.byContradiction fun hne => h1 _ h' (by rw [← e]; exact hne) (by rw [← e])
    · exact Decidable.byContradiction fun hne => h1 _ h (by rw [← e']; exact fun q => hne q.symm) (by rw [← e'])
    · exact name_of_addr' h2 h h'

theorem relabel_lookup {sc : Scope} : ∀ {names : List (Str × NameKind)} {x : Str} {k : NameKind}, (names.map fun (n, k) => if (k == NameKind.free && sc.kind == .function && sc.names.lookup n == some .cell) then (n, NameKind.cell) else (n, k)).lookup x = some k →
    names.lookup x = some k ∨ (names.lookup x = some .free ∧ k = .cell)
  | (n, k') :: r, x, k, h => by
    change List.lookup x ((if (k' == NameKind.free && sc.kind == .function && sc.names.lookup n == some .cell) = true then (n, NameKind.cell) else (n, k')) :: _) = _ at h
    by_cases hc : (k' == NameKind.free && sc.kind == .function && sc.names.lookup n == some .cell) = true
    · rw [if_pos hc] at h
      rw [List.lookup_cons] at h ⊢
      cases hx : x == n with
      | true =>
        rw [hx] at h
        cases h
        simp only [Bool.and_eq_true, beq_iff_eq] at hc
        exact .inr ⟨by rw [hc.1.1], rfl⟩
      | false => rw [hx] at h; exact relabel_lookup h
    · rw [if_neg hc] at h
      rw [List.lookup_cons] at h ⊢
      cases hx : x == n with
      | true => rw [hx] at h; exact .inl h
      | false => rw [hx] at h; exact relabel_lookup h

/-- names of a comprehension: its own, and what it takes from around -/
structure CompNames (scope : Scope) (S S' : Sx) (nt : Nat) (caps : List Nat) : Prop where
  kind : scope.kind = .function
  sc : S'.sc = relabelS scope S.sc
  nd : S'.vars.Nodup
  keys : (scope.names.map (·.1)).Nodup
  own : ∀ x ∈ S'.vars.take nt, scope.names.lookup x ≠ some .free
  cap : ∀ (i : Nat) (x : Str), (S'.vars.drop nt)[i]? = some x → ∃ j : Nat, caps[i]? = some j ∧ S.vars[j]? = some x ∧ scope.names.lookup x = some .free ∧ (S.sc.names.lookup x = some .cell ∨ S.sc.names.lookup x = some .free)
  len : S'.vars.length = nt + caps.length
  wv : ∀ x ∈ S'.wv, scope.names.lookup x = some .cell
  bound : ∀ x ∈ scope.names, x.2 = .free → ∃ j : Nat, S.vars[j]? = some x.1 ∧ (S.sc.names.lookup x.1 = some .cell ∨ S.sc.names.lookup x.1 = some .free)

noncomputable def capSt (nt : Nat) (caps : List Nat) (st : ASt) : ASt := { loc := List.replicate nt none ++ caps.map fun j => (st.loc[j]?).bind id, cells := st.cells }

section
variable {Z : Amb} {S S' : Sx}
theorem compRel {scope : Scope} {nt : Nat} {caps : List Nat} (N : CompNames scope S S' nt caps) {env : Env} {own D γ : List Addr} {st : ASt} {s : Shared} (r : Rel Z S env own D γ st s.heap) :
    closureFor scope env = pure (closL env.cells scope.names []) ∧ ∃ own', s.heap.objs.size ∈ own' ∧ (∀ a ∈ own', s.heap.get? a = none) ∧
      Rel Z S' (cEnv scope s.heap.objs.size env) own' (D ++ own') γ (capSt nt caps st) (pushCells (s.heap.push { cls := .type "dict", data := .dict #[] }) scope.names) := by
  have hfree : ∀ x ∈ scope.names, x.2 = .free → (env.cells.lookup x.1).isSome = true := fun x hx hk => by
    obtain ⟨j, h1, h2⟩ := N.bound x hx hk
    obtain ⟨c, vo, h3, _⟩ := r.cl j x.1 h1 h2
    rw [h3]; rfl
  have hcl : ∀ x c, (x, c) ∈ closL env.cells scope.names [] → env.cells.lookup x = some c := closL_sound hfree fun _ _ h => nomatch h
  have hold : ∀ b o, s.heap.get? b = some o → b < s.heap.objs.size := fun b o e => Heap.lt_size e
  have hDlt : ∀ d ∈ D, d < s.heap.objs.size := fun d hd => by obtain ⟨o, e⟩ := (r.live d hd).2; exact hold d o e
  have hk : ∀ b o, s.heap.get? b = some o → (pushCells (s.heap.push { cls := .type "dict", data := .dict #[] }) scope.names).get? b = some o := fun b o e => pushCells_keeps _ _ b o (Heap.get?_push_of_some _ e)
  have hsz : (s.heap.push { cls := .type "dict", data := .dict #[] }).objs.size = s.heap.objs.size + 1 := Heap.size_push ..
  have hmem := cellsFrom_mem scope.names (s.heap.objs.size + 1) (closL env.cells scope.names [])
  have hnew := cellsFrom_new scope.names (s.heap.push { cls := .type "dict", data := .dict #[] }) (closL env.cells scope.names [])
    (pairwise_all fun x hx y hy hne e => hne (r.apart x.1 y.1 x.2 (hcl _ _ hx) (by rw [e]; exact hcl _ _ hy))) (fun x hx => by rw [hsz]; exact Nat.lt_succ_of_lt (hDlt _ (r.cap _ _ (hcl x.1 x.2 hx)).1))
  rw [hsz] at hnew
  -- a name's cell: of around, or own
  have hcase : ∀ x c, (cellsFrom (s.heap.objs.size + 1) scope.names (closL env.cells scope.names [])).lookup x = some c →
      (env.cells.lookup x = some c ∧ (x, NameKind.free) ∈ scope.names ∧ c < s.heap.objs.size) ∨ (s.heap.objs.size + 1 ≤ c ∧ (x, NameKind.cell) ∈ scope.names ∧ (pushCells (s.heap.push { cls := .type "dict", data := .dict #[] }) scope.names).IsCell c none) := fun x c h => by
    have hm := mem_of_lookup h
    rcases hmem x c hm with h1 | ⟨h1, h2⟩
    · have h3 := hcl x c h1
      refine .inl ⟨h3, (closL_free h1).elim (fun h => nomatch h) id, hDlt _ (r.cap _ _ h3).1⟩
    · rcases hnew.2 x c hm with h4 | h4
      · exact absurd h1 (Nat.not_le.mpr (Nat.lt_succ_of_lt (hDlt _ (r.cap _ _ (hcl x c h4)).1)))
      · exact .inr ⟨h1, h2, h4⟩
  refine ⟨closureFor_eq hfree, s.heap.objs.size :: ((cellsFrom (s.heap.objs.size + 1) scope.names (closL env.cells scope.names [])).filter fun p => decide (s.heap.objs.size + 1 ≤ p.2)).map (·.2), List.mem_cons_self, ?_, ?_⟩
  · intro a ha
    refine none_of_size ?_
    rcases List.mem_cons.mp ha with rfl | ha
    · exact Nat.le_refl _
    · obtain ⟨p, hp, rfl⟩ := List.mem_map.mp ha
      exact Nat.le_of_succ_le (of_decide_eq_true (List.mem_filter.mp hp).2)
  · have hfr : ∀ a ∈ s.heap.objs.size :: ((cellsFrom (s.heap.objs.size + 1) scope.names (closL env.cells scope.names [])).filter fun p => decide (s.heap.objs.size + 1 ≤ p.2)).map (·.2), s.heap.objs.size ≤ a := by
      intro a ha
      rcases List.mem_cons.mp ha with rfl | ha
      · exact Nat.le_refl _
      · obtain ⟨p, hp, rfl⟩ := List.mem_map.mp ha
        exact Nat.le_of_succ_le (of_decide_eq_true (List.mem_filter.mp hp).2)
    have hmine : ∀ x c, (cellsFrom (s.heap.objs.size + 1) scope.names (closL env.cells scope.names [])).lookup x = some c → s.heap.objs.size + 1 ≤ c → c ∈ s.heap.objs.size :: ((cellsFrom (s.heap.objs.size + 1) scope.names (closL env.cells scope.names [])).filter fun p => decide (s.heap.objs.size + 1 ≤ p.2)).map (·.2) :=
      fun x c h hc => List.mem_cons_of_mem _ (List.mem_map.mpr ⟨(x, c), List.mem_filter.mpr ⟨mem_of_lookup h, decide_eq_true hc⟩, rfl⟩)
    revert hfr hmine
    generalize hown : (s.heap.objs.size :: ((cellsFrom (s.heap.objs.size + 1) scope.names (closL env.cells scope.names [])).filter fun p => decide (s.heap.objs.size + 1 ≤ p.2)).map (·.2)) = own'
    intro hfr hmine
    have hnone : ∀ a ∈ own', s.heap.get? a = none := fun a ha => none_of_size (hfr a ha)
    have hγlt : ∀ a ∈ γ, a < s.heap.objs.size := fun a ha => hDlt a (r.γD a ha)
    have hD : ∀ a, a ∈ D ++ own' → a ∈ D ∨ s.heap.get? a = none := fun a ha => (List.mem_append.mp ha).imp id (hnone a)
    have up : ∀ {v : Value} {a : AVal}, VRel Z s.heap D γ v a → VRel Z (pushCells (s.heap.push { cls := .type "dict", data := .dict #[] }) scope.names) (D ++ own') γ v a := fun x => by
      have := VRel.grow (ex := []) hD x
      rw [List.append_nil] at this
      exact this.keeps hk
    have hesc : relabelS scope env.scope = relabelS scope S.sc := by rw [r.esc]
    have hlk : ∀ (i : Nat) (x : Str), S'.vars[i]? = some x → nt ≤ i → ∃ j : Nat, caps[i - nt]? = some j ∧ S.vars[j]? = some x ∧ scope.names.lookup x = some .free ∧ (S.sc.names.lookup x = some .cell ∨ S.sc.names.lookup x = some .free) := fun i x h hi =>
      N.cap (i - nt) x (by rw [List.getElem?_drop]; rw [Nat.add_sub_cancel' hi]; exact h)
    have hloc : ∀ (i : Nat) (av : AVal), (capSt nt caps st).loc[i]? = some (some av) → nt ≤ i ∧ ∃ j : Nat, caps[i - nt]? = some j ∧ st.loc[j]? = some (some av) := fun i av h => by
      unfold capSt at h
      by_cases hi : i < nt
      · rw [List.getElem?_append_left (by rw [List.length_replicate]; exact hi), List.getElem?_replicate, if_pos hi] at h
        cases h
      · rw [List.getElem?_append_right (by rw [List.length_replicate]; exact Nat.not_lt.mp hi), List.length_replicate, List.getElem?_map] at h
        obtain ⟨j, h1, h2⟩ := Option.map_eq_some_iff.mp h
        refine ⟨Nat.not_lt.mp hi, j, h1, ?_⟩
        obtain ⟨o, h3, h4⟩ := bind_some h2
        rw [h3]; exact congrArg some h4
    exact {
      kind := by rw [N.sc]; exact N.kind
      esc := by rw [N.sc]; exact hesc
      eg := r.eg
      eb := r.eb
      vnd := N.nd
      Lown := by rw [← hown]; exact List.mem_cons_self
      ownD := fun a ha => List.mem_append_right _ ha
      γD := fun a ha => List.mem_append_left _ (r.γD a ha)
      γnd := r.γnd
      ownγ := fun a ha hg => Nat.lt_irrefl _ (Nat.lt_of_lt_of_le (hγlt a hg) (hfr a ha))
      cap := fun x c h => by
        rcases hcase x c h with ⟨h1, _, h3⟩ | ⟨h1, _, _⟩
        · exact ⟨List.mem_append_left _ (r.cap x c h1).1, Nat.ne_of_lt h3, (r.cap x c h1).2.2⟩
        · exact ⟨List.mem_append_right _ (hmine x c h h1), fun e => Nat.lt_irrefl _ (Nat.lt_of_lt_of_le (Nat.lt_succ_self _) (e ▸ h1)), fun hg => Nat.lt_irrefl _ (Nat.lt_of_lt_of_le (Nat.lt_succ_of_lt (hγlt c hg)) h1)⟩
      apart := fun x y c h1 h2 => name_of_addr' hnew.1 (mem_of_lookup h1) (mem_of_lookup h2)
      ownc := fun x hx c h => by
        rcases hcase x c h with ⟨_, h2, _⟩ | ⟨h1, _, _⟩
        · exact absurd (mem_key N.keys h2 (mem_of_lookup (N.wv x hx))) (by decide)
        · exact hmine x c h h1
      base := fun b o e => hk b o (r.base b o e)
      live := fun d hd => by
        rcases List.mem_append.mp hd with hd | hd
        · obtain ⟨h1, o, e⟩ := r.live d hd; exact ⟨h1, o, hk d o e⟩
        · refine ⟨?_, ?_⟩
          · cases e : Z.H0.get? d with
            | none => rfl
            | some o => have := r.base d o e; rw [hnone d hd] at this; cases this
          · rw [← hown] at hd
            rcases List.mem_cons.mp hd with rfl | hd
            · exact ⟨_, pushCells_keeps _ _ _ _ (Heap.get?_push_size _ rfl)⟩
            · obtain ⟨p, hp, rfl⟩ := List.mem_map.mp hd
              obtain ⟨h1, h2⟩ := List.mem_filter.mp hp
              rcases hnew.2 p.1 p.2 h1 with h3 | ⟨o, h3, _⟩
              · exact absurd (of_decide_eq_true h2) (Nat.not_le.mpr (Nat.lt_succ_of_lt (hDlt _ (r.cap _ _ (hcl p.1 p.2 h3)).1)))
              · exact ⟨o, h3⟩
      ns := ⟨_, (Heap.Ns.new s.heap (.type "dict")).keeps (pushCells_keeps _ _), fun i x h1 h2 av h3 => by
        obtain ⟨hi, _⟩ := hloc i av h3
        obtain ⟨j, _, _, h4, _⟩ := hlk i x h1 hi
        rw [N.sc] at h2
        rcases relabel_lookup h2 with h5 | ⟨_, h5⟩
        · rw [h4] at h5; cases h5
        · cases h5⟩
      cl := fun i x h1 h2 => by
        rw [N.sc] at h2
        by_cases hi : nt ≤ i
        · obtain ⟨j, h3, h4, h5, h6⟩ := hlk i x h1 hi
          obtain ⟨c, vo, h7, h8, h9⟩ := r.cl j x h4 h6
          obtain ⟨c', h10⟩ := closL_mem (cells := env.cells) (acc := []) (.inl (mem_of_lookup h5))
          obtain ⟨c2, h11⟩ := cellsFrom_has scope.names (s.heap.objs.size + 1) (closL env.cells scope.names []) x (.inl ⟨c', h10⟩)
          obtain ⟨c3, h12⟩ := lookup_of_mem h11
          rcases hcase x c3 h12 with ⟨h13, _, _⟩ | ⟨_, h13, _⟩
          · rw [h7] at h13; cases h13
            refine ⟨c, vo, h12, h8.keeps hk, fun av h14 => ?_⟩
            obtain ⟨_, j', h15, h16⟩ := hloc i av h14
            rw [h3] at h15; cases h15
            obtain ⟨v, e, rv⟩ := h9 av h16
            exact ⟨v, e, up rv⟩
          · exact absurd (mem_key N.keys h13 (mem_of_lookup h5)) (by decide)
        · have hx : x ∈ S'.vars.take nt := List.mem_of_getElem? (i := i) (by rw [List.getElem?_take_of_lt (Nat.not_le.mp hi)]; exact h1)
          have h3 : scope.names.lookup x = some .cell := by
            rcases h2 with h2 | h2 <;> rcases relabel_lookup h2 with h4 | ⟨h4, _⟩
            · exact h4
            · exact absurd h4 (N.own x hx)
            · exact absurd h4 (N.own x hx)
            · exact absurd h4 (N.own x hx)
          obtain ⟨c2, h11⟩ := cellsFrom_has scope.names (s.heap.objs.size + 1) (closL env.cells scope.names []) x (.inr (mem_of_lookup h3))
          obtain ⟨c3, h12⟩ := lookup_of_mem h11
          rcases hcase x c3 h12 with ⟨_, h13, _⟩ | ⟨_, _, h13⟩
          · exact absurd (mem_key N.keys h13 (mem_of_lookup h3)) (by decide)
          · exact ⟨c3, none, h12, h13, fun av h14 => absurd (hloc i av h14).1 hi⟩
      cells := (r.cells.grow hD).mono (fun b o _ e => hk b o e) fun _ _ o e => hk _ o e }
end
end Mine

end
section

namespace Mine
noncomputable abbrev CStep := ASt → ACell → Option (ACell × ASt)

noncomputable def compF (tg : AVal → ASt → Option ASt) (ci : ASt → Option Bool) (body : CStep) : List AVal → CStep
  | [], st, σ => some (σ, st)
  | x :: xs, st, σ => (tg x st).bind fun st1 => match ci st1 with
    | some true => (body st1 σ).bind fun p => compF tg ci body xs p.2 p.1
    | some false => compF tg ci body xs st1 σ
    | none => none

/-- the tests of a clause -/
noncomputable def RIfs (Z : Amb) (S : Sx) (k : Nat) (ifs : List Expr) (ci : ASt → Option Bool) : Prop :=
  ∀ {A : Around} {env : Env} {own D γ : List Addr} {st : ASt} {s : Shared} {b : Bool} {E : Value → Shared → Prop}, ci st = some b → Rel Z S env own D γ st s.heap → Room A k →
    wpAny Z.M A (forIn ifs true fun c r => if r = true then do let ok ← isTrue c env (eval c env); pure (ForInStep.yield ok) else pure (ForInStep.yield r)) (fun ok s' => Kp s s' ∧ ok = b) E s

/-- what a turn does to what is gathered -/
noncomputable def RBody (Z : Amb) (S : Sx) (k : Nat) (code : Value → Env → Sem Unit) (body : CStep) : Prop :=
  ∀ {A : Around} {env : Env} {own D γ : List Addr} {st st' : ASt} {σ σ' : ACell} {s : Shared} {a : Addr} {E : Value → Shared → Prop}, body st σ = some (σ', st') → Rel Z S env own D γ st s.heap → CellR Z s.heap D γ a σ → a ∈ D → a ∉ own → a ∉ γ → (∀ (x : Str) (c : Addr), env.cells.lookup x = some c → c ≠ a) → Room A k →
    wpAny Z.M A (code (.ref a) env) (fun _ s' => Chg (own ++ [a]) s s' ∧ Rel Z S env own D γ st' s'.heap ∧ CellR Z s'.heap D γ a σ') E s

section
variable {Z : Amb} {S : Sx}

theorem rifs_nil {k : Nat} : RIfs Z S k [] (fun _ => some true) := by
  intro A env own D γ st s b E hf r hr
  cases hf
  rw [List.forIn_nil]
  exact wpAny_pure ⟨Kp.refl _, rfl⟩
theorem rifs_one {k : Nat} {c : Expr} {ci : ASt → Option Bool} (R : RT Z S k c ci) : RIfs Z S k [c] ci := by
  intro A env own D γ st s b E hf r hr
  rw [List.forIn_cons, if_pos rfl]
  refine wpAny_bind (wpAny_bind (R.use hf r hr fun s1 k1 => wpAny_pure ?_))
  dsimp only
  rw [List.forIn_nil]
  exact wpAny_pure ⟨k1, rfl⟩

/-! emissions -/
noncomputable def emitL (fe : ASt → Option AVal) : CStep := fun st σ => σ.lst?.bind fun xs => (fe st).bind fun v => if xs.length < 1000 then some (.lst (xs ++ [v]), st) else none
noncomputable def emitD (fk fv : ASt → Option AVal) : CStep := fun st σ => σ.dct?.bind fun es => (fk st).bind fun ka => (fv st).bind fun va => ka.int?.bind fun i => va.int?.bind fun j => if es.length < 1000 then some (.dct (dput es i j), st) else none

theorem Rel.accOver {env : Env} {own D γ : List Addr} {st : ASt} {h h' : Heap} {a : Addr} {σ : ACell} (r : Rel Z S env own D γ st h) (hk : ∀ b o, b ≠ a → h.get? b = some o → h'.get? b = some o) (ha : a ∈ D) (hao : a ∉ own) (haγ : a ∉ γ) (hac : ∀ (x : Str) (c : Addr), env.cells.lookup x = some c → c ≠ a) (hc : CellR Z h' D γ a σ) : Rel Z S env own D γ st h' :=
  r.over hk ha hao haγ hac (fun _ h => h) r.ownD r.γD (fun x c h => (r.cap x c h).1) fun d hd => by
    by_cases q : d = a
    · rw [q]; exact hc.live
    · obtain ⟨o, e⟩ := (r.live d hd).2; exact ⟨o, hk d o q e⟩

theorem rbody_list {k : Nat} {elt : Expr} {fe : ASt → Option AVal} (R : RP Z S k elt fe) : RBody Z S k (fun acc env => do let _ ← call (.builtin "list.append") [acc, ← eval elt env]) (emitL fe) := by
  intro A env own D γ st st' σ σ' s a E hq r hc ha hao haγ hac hr
  obtain ⟨xs, q1, h1⟩ := bind_some hq
  obtain ⟨v, q2, h2⟩ := bind_some h1
  obtain ⟨hlt, h3⟩ := ite_some h2
  cases h3
  obtain rfl := clst?_some q1
  obtain ⟨vs, hp, hvs⟩ := cell_lst hc
  have l1 := hvs.length
  refine wpAny_bind (R.use q2 r hr fun u s1 k1 u1 => wpAny_bind (wpAny_list_append_plain (hp.at fun o e => k1.get e) (fun h' hp' hs' => wpAny_pure ?_) (by rw [List.size_toArray, l1, sizeLine_eq]; omega)))
  have kD : ∀ b o, b ∉ D → s1.heap.get? b = some o → h'.get? b = some o := fun b o hb e => hs'.extBut b o (fun q => hb (q ▸ ha)) e
  rw [List.push_toArray] at hp'
  have hc' : CellR Z h' D γ a (.lst (xs ++ [v])) := .lst hp' (((hvs.keeps fun _ _ e => k1.get e).append (.cons u1 .nil)).mono kD)
  refine ⟨(k1.chg _).trans (L' := [a]) ⟨h', _, rfl, fun b o hb e => hs'.extBut b o (fun q => hb (List.mem_singleton.mpr q)) e⟩ fun b hb => .inl (List.mem_append_right _ hb), ?_, hc'⟩
  exact (r.keeps' k1).accOver (fun b o hb e => hs'.extBut b o hb e) ha hao haγ hac hc'

theorem rbody_dict {k : Nat} {kx vx : Expr} {fk fv : ASt → Option AVal} (Rk : RP Z S k kx fk) (Rv : RP Z S k vx fv) : RBody Z S k (fun acc env => do
      let kv ← eval kx env
      let vv ← holding [kv] (eval vx env)
      match acc with
      | .ref d => do
        standAt { kx.pos with endLine := vx.pos.endLine, endCol := vx.pos.endCol }
        holding [kv, vv] (dictSet d kv vv)
      | _ => unsupported "internal:dictcomp") (emitD fk fv) := by
  intro A env own D γ st st' σ σ' s a E hq r hc ha hao haγ hac hr
  obtain ⟨es, q1, h1⟩ := bind_some hq
  obtain ⟨ka, q2, h2⟩ := bind_some h1
  obtain ⟨va, q3, h3⟩ := bind_some h2
  obtain ⟨i, q4, h4⟩ := bind_some h3
  obtain ⟨j, q5, h5⟩ := bind_some h4
  obtain ⟨hlt, h6⟩ := ite_some h5
  cases h6
  obtain rfl := cdct?_some q1
  obtain rfl := int?_some q4
  obtain rfl := int?_some q5
  obtain ⟨kvs, hn, hd, hvs⟩ := cell_dct hc
  refine wpAny_bind (Rk.use q2 r hr fun u s1 k1 u1 => wpAny_bind (wpAny_holding (Rv.use q3 (r.keeps' k1) hr fun u' s2 k2 u2 => wpAny_bind (wpAny_standAt (wpAny_holding ?_)))))
  obtain ⟨t1, rfl⟩ := vrel_int u1
  obtain ⟨t2, rfl⟩ := vrel_int u2
  refine wpAny_dictSet_pairs (intKind_is _ _ i t1) (hd.at fun o e => k2.get (k1.get e)) (fun h' hd' hs' => ?_) (by rw [dvals_length hvs, sizeLine_eq]; omega)
  have hc' : CellR Z h' D γ a (.dct (dput es i j)) := .dct hn hd' (dvals_put hvs i j t2)
  refine ⟨((k1.trans k2).chg _).trans (L' := [a]) ⟨h', _, rfl, fun b o hb e => hs'.extBut b o (fun q => hb (List.mem_singleton.mpr q)) e⟩ fun b hb => .inl (List.mem_append_right _ hb), ?_, hc'⟩
  exact ((r.keeps' k1).keeps' k2).accOver (fun b o hb e => hs'.extBut b o hb e) ha hao haγ hac hc'

inductive CompInv (Z : Amb) (S : Sx) (env : Env) (own D γ : List Addr) (s : Shared) (I a : Addr) (len : Nat) (St : Nat → Heap → Prop) (C : Nat → ASt → ACell → Prop) (n : Nat) (s' : Shared) : Prop
  | mk (i : Nat) (st1 : ASt) (σ1 : ACell) (e : n = len + 1 - i) (hi : i ≤ len) (hq : C i st1 σ1) (hc : Chg (I :: (own ++ [a])) s s') (r : Rel Z S env own D γ st1 s'.heap) (g : CellR Z s'.heap D γ a σ1) (hst : St i s'.heap)
inductive CompStep (tg : AVal → ASt → Option ASt) (ci : ASt → Option Bool) (body : CStep) (C : ASt → ACell → Prop) (x : AVal) (st : ASt) (σ : ACell) : Prop
  | mk (st1 : ASt) (ok : Bool) (h1 : tg x st = some st1) (h2 : ci st1 = some ok) (hf : ok = false → C st1 σ) (ht : ok = true → ∃ p : ACell × ASt, body st1 σ = some p ∧ C p.2 p.1)
theorem compF_step {tg : AVal → ASt → Option ASt} {ci : ASt → Option Bool} {body : CStep} {x : AVal} {xs : List AVal} {st : ASt} {σ : ACell} {r : ACell × ASt} (h : compF tg ci body (x :: xs) st σ = some r) : CompStep tg ci body (fun st σ => compF tg ci body xs st σ = some r) x st σ := by
  unfold compF at h
  obtain ⟨st1, h1, h2⟩ := bind_some h
  cases q : ci st1 with
  | none => rw [q] at h2; cases h2
  | some ok =>
    rw [q] at h2
    cases ok with
    | false => exact ⟨st1, false, h1, q, fun _ => h2, fun e => nomatch e⟩
    | true => obtain ⟨p, h3, h4⟩ := bind_some h2; exact ⟨st1, true, h1, q, (fun e => nomatch e), fun _ => ⟨p, h3, h4⟩⟩

/-- the loop of a clause -/
theorem compLoop_wp {k : Nat} {tup : Bool} {e : Expr} {d : Nat} {target : Expr} {p : Pos} {ifs : List Expr} {code : Value → Env → Sem Unit} {tg : AVal → ASt → Option ASt} {ci : ASt → Option Bool} {body : CStep}
    (hturn : ∀ it acc env, compTurn e d it acc env = (do
      standAt p
      match ← pyNext it with
      | none => pure (.done .next)
      | some v =>
        letOwnedTupleGo target it v
        assign target env v
        let mut ok := true
        for c in ifs do
          if ok then ok ← isTrue c env (eval c env)
        if ok then code acc env
        again (.compLoop e d it acc env)))
    (hden : ∀ it acc env, Z.M.den (.compLoop e d it acc env) = (compTurn e d it acc env).onRaise (fun x => do noteFrame x env; theTreesLotGoes x)) (hqt : ∀ it acc env, (Code.compLoop e d it acc env).quiet = true) (hun : ∀ (A : Around) it acc env, A.under (.compLoop e d it acc env) = A)
    (Rt : RTgt Z S tup target tg) (Ri : RIfs Z S k ifs ci) (Rb : RBody Z S k code body)
    {A : Around} {env : Env} {own D Dn Db γ : List Addr} {st st' : ASt} {σ σ' : ACell} {s : Shared} {a I : Addr} {xs : List AVal} {R : Result → Shared → Prop} {hb : Heap} {fp : List Addr} {P : Nat → Value → Prop} {St : Nat → Heap → Prop}
    (hq : compF tg ci body xs st σ = some (σ', st')) (r : Rel Z S env own D γ st s.heap) (hc : CellR Z s.heap D γ a σ) (ha : a ∈ D) (hao : a ∉ own) (haγ : a ∉ γ) (hac : ∀ (x : Str) (c : Addr), env.cells.lookup x = some c → c ≠ a) (hr : Room A k)
    (W : Walks Z.prog Z.w A I fp [I] xs.length P St) (hst : St 0 s.heap) (hlv : ∀ i h, St i h → ∃ o, h.get? I = some o) (hval : ∀ i v, P i v → ∃ x, xs[i]? = some x ∧ VRel Z hb Db γ v x)
    (hgo : tup = true → ∀ (elts : List Expr) (k : Nat) (pos : Pos) (T : Addr) (i : Nat) (s : Shared) (E : Value → Shared → Prop) (Q : Unit → Shared → Prop), St i s.heap → Q () s → wpAny Z.M A (letOwnedTupleGo (.Tuple elts k pos) (.ref I) (.ref T)) Q E s)
    (hDb : ∀ b, b ∈ D → b ∈ Db ∨ hb.get? b = none) (hbk : ∀ b o, hb.get? b = some o → s.heap.get? b = some o) (hfp : ∀ b ∈ fp, b ∉ own ∧ b ≠ a)
    (hI : I ∈ D) (hIo : I ∉ own) (hIγ : I ∉ γ) (hIc : ∀ (x : Str) (c : Addr), env.cells.lookup x = some c → c ≠ I) (hIa : I ≠ a) (hDn : ∀ d ∈ Dn, d ∈ D ∧ d ≠ I) (ho : ∀ b ∈ own, b ∈ Dn) (hγ : ∀ b ∈ γ, b ∈ Dn) (hcap : ∀ (x : Str) (c : Addr), env.cells.lookup x = some c → c ∈ Dn)
    (hR : ∀ s', Chg (I :: (own ++ [a])) s s' → Rel Z S env own Dn γ st' s'.heap → CellR Z s'.heap Dn γ a σ' → R (.ok .next) s') : codeAny Z.M A (.compLoop e d (.ref I) (.ref a) env) R s := by
  have turn : ∀ {n : Nat} {s' : Shared} {Q : Fin → Shared → Prop} {E : Value → Shared → Prop}, CompInv Z S env own D γ s I a xs.length St (fun i st1 σ1 => compF tg ci body (xs.drop i) st1 σ1 = some (σ', st')) n s' →
      (∀ s' m, m < n → CompInv Z S env own D γ s I a xs.length St (fun i st1 σ1 => compF tg ci body (xs.drop i) st1 σ1 = some (σ', st')) m s' → Q (.again (.compLoop e d (.ref I) (.ref a) env)) s') → (∀ s', Chg (I :: (own ++ [a])) s s' → Rel Z S env own Dn γ st' s'.heap → CellR Z s'.heap Dn γ a σ' → Q (.done .next) s') →
      wpAny Z.M A (compTurn e d (.ref I) (.ref a) env) Q E s' := by
    intro n s' Q E hI' ka kd
    rw [hturn]
    obtain ⟨i, st1, σ1, rfl, hi, hq1, hc1, r1, g1, hst1⟩ := hI'
    by_cases hlt : i < xs.length
    · refine wpAny_bind (wpAny_standAt (wpAny_bind (W.item i s' _ _ hlt hst1 fun v h2 tk2 hP hst2 hk2 => ?_)))
      obtain ⟨x, hx, hv0⟩ := hval i v hP
      rw [List.drop_eq_getElem_cons hlt, (List.getElem?_eq_some_iff.mp hx).2] at hq1
      obtain ⟨st2, ok0, q2, q4, hf, ht⟩ := compF_step hq1
      have hk2' : ∀ b o, b ≠ I → s'.heap.get? b = some o → h2.get? b = some o := fun b o hb e => hk2 b o (not_one hb) e
      have c2 : Chg (I :: (own ++ [a])) s { s' with heap := h2, toks := tk2 } := hc1.over1 hk2
      have r2 : Rel Z S env own D γ st1 h2 := r1.over hk2' hI hIo hIγ hIc (fun _ h => h) r1.ownD r1.γD (fun x c h => (r1.cap x c h).1) fun d hd => by
        by_cases q : d = I
        · rw [q]; exact hlv _ _ hst2
        · obtain ⟨o, e⟩ := (r1.live d hd).2; exact ⟨o, hk2' d o q e⟩
      have g2 : CellR Z h2 D γ a σ1 := g1.mono (fun b o hb e => hk2' b o (fun q => hb (q ▸ hI)) e) fun o e => hk2' a o hIa.symm e
      have v2 : VRel Z h2 D γ v x := by
        have := VRel.grow (ex := []) (D' := D) hDb hv0
        rw [List.append_nil] at this
        exact (this.keeps hbk).mono fun b o hb e => c2.get (fun hm => hb (r.inD1 hI ha b hm)) e
      refine wpAny_bind (wpAny_mono (Rt (E := E) q2 r2 v2 hr (fun ht elts kk pos T E' Q hQ => hgo ht elts kk pos T (i + 1) _ E' Q hst2 hQ)) (fun _ s3 h3 => wpAny_bind (wpAny_mono h3 (fun _ s4 h4 => ?_) fun _ _ x => x)) fun _ _ x => x)
      obtain ⟨c4, r4⟩ := h4
      have g4 : CellR Z s4.heap D γ a σ1 := g2.mono (fun b o hb e => c4.get (fun h => hb (r.ownD b h)) e) fun o e => c4.get hao e
      have again : ∀ {s6 : Shared} {st6 : ASt} {σ6 : ACell}, Chg (own ++ [a]) { s' with heap := h2, toks := tk2 } s6 → Rel Z S env own D γ st6 s6.heap → CellR Z s6.heap D γ a σ6 → compF tg ci body (xs.drop (i + 1)) st6 σ6 = some (σ', st') → Q (.again (.compLoop e d (.ref I) (.ref a) env)) s6 :=
        fun c6 r6 g6 q6 => ka _ (xs.length + 1 - (i + 1)) (Nat.sub_lt_sub_left (Nat.lt_succ_of_lt hlt) (Nat.lt_succ_self i)) ⟨i + 1, _, _, rfl, hlt, q6, c2.trans c6 fun b hb => .inl (List.mem_cons_of_mem _ hb), r6, g6, W.frame _ _ _ hst2 fun b hb o e => c6.get (fun hm => by
          rcases List.mem_append.mp hm with hm | hm
          · exact (hfp b hb).1 hm
          · exact (hfp b hb).2 (List.mem_singleton.mp hm)) e⟩
      refine wpAny_bind (wpAny_mono (Ri q4 r4 hr) (fun ok s5 h5 => ?_) fun _ _ x => x)
      obtain ⟨k5, rfl⟩ := h5
      have r5 := r4.keeps' k5
      have g5 : CellR Z s5.heap D γ a σ1 := g4.mono (fun b o _ e => k5.get e) fun o e => k5.get e
      have c25 : Chg (own ++ [a]) { s' with heap := h2, toks := tk2 } s5 := (c4.mono fun b h => List.mem_append_left _ h).trans (k5.chg _) fun b hb => .inl hb
      cases ok with
      | false => exact wpAny_pure (again c25 r5 g5 (hf rfl))
      | true =>
        obtain ⟨pr, q6, hq6⟩ := ht rfl
        refine wpAny_bind (wpAny_mono (Rb (σ' := pr.1) (st' := pr.2) q6 r5 g5 ha hao haγ hac hr) (fun _ s6 h6 => ?_) fun _ _ x => x)
        exact wpAny_pure (again (c25.trans h6.1 fun b hb => .inl hb) h6.2.1 h6.2.2 hq6)
    · rw [List.drop_eq_nil_of_le (Nat.not_lt.mp hlt)] at hq1
      cases hq1
      obtain rfl := Nat.le_antisymm hi (Nat.not_lt.mp hlt)
      refine wpAny_bind (wpAny_standAt (wpAny_bind (W.done s' _ _ hst1 fun h4 tk4 hk4 => wpAny_pure ?_)))
      have hk4' : ∀ b o, b ≠ I → s'.heap.get? b = some o → h4.get? b = some o := fun b o hb e => hk4 b o (not_one hb) e
      refine kd _ (hc1.over1 hk4) ?_ ?_
      · exact r1.over hk4' hI hIo hIγ hIc (fun d h => (hDn d h).1) ho hγ hcap fun d hd => by
          obtain ⟨o, e⟩ := (r1.live d (hDn d hd).1).2
          exact ⟨o, hk4' d o (hDn d hd).2 e⟩
      · have := (g1.mono (fun b o hb e => hk4' b o (fun q => hb (q ▸ hI)) e) fun o e => hk4' a o hIa.symm e).grow (ex := []) (D' := Dn) fun b hb => .inl (hDn b hb).1
        rwa [List.append_nil] at this
  refine codeAny_loop (hqt _ _ _) (fun n s' => CompInv Z S env own D γ s I a xs.length St (fun i st1 σ1 => compF tg ci body (xs.drop i) st1 σ1 = some (σ', st')) n s') (fun n s' hI' => ?_) (xs.length + 1)
    ⟨0, st, σ, rfl, Nat.zero_le _, hq, (Kp.refl s).chg _, r, hc, hst⟩
  rw [hun, hden]
  exact wpAny_noted (turn hI' (fun s' m hm i => ⟨rfl, m, hm, i⟩) hR)
end
end Mine

end
section

namespace Mine
/-- what stands at a new address -/
noncomputable def NewAcc (Z : Amb) (m : Sem Value) (σ : ACell) : Prop :=
  ∀ {A : Around} {s : Shared} {E : Value → Shared → Prop} {Q : Value → Shared → Prop}, (∀ b o, Z.H0.get? b = some o → s.heap.get? b = some o) → (∀ h', (∀ b o, s.heap.get? b = some o → h'.get? b = some o) → (∀ D γ : List Addr, CellR Z h' D γ s.heap.objs.size σ) → Q (.ref s.heap.objs.size) { s with heap := h' }) → wpAny Z.M A m Q E s

noncomputable def thaw : ACell → Option AVal
  | .lst xs => some (.lst xs)
  | .dct es => some (.dct es)
  | _ => none

section
variable {Z : Amb} {S S' : Sx}

theorem Amb.size (Z : Amb) {h : Heap} (hb : ∀ b o, Z.H0.get? b = some o → h.get? b = some o) : h.objs.size ≠ sysModules := by
  obtain ⟨o, _, _, e, _⟩ := Z.g
  have h1 := Heap.lt_size (hb _ _ e)
  intro h2
  have h3 : ¬ mainGlobals < sysModules := by decide
  exact h3 (h2 ▸ h1)
theorem newAcc_list : NewAcc Z (newList []) (.lst []) := by
  intro A s E Q _ h
  refine wpAny_newObj_type (h _ (fun b o e => Heap.get?_push_of_some _ e) fun D γ => .lst ⟨0, Heap.get?_push_size _ rfl⟩ .nil)
theorem newAcc_dict : NewAcc Z newDict (.dct []) := by
  intro A s E Q hb h
  refine wpAny_newObj_type (h _ (fun b o e => Heap.get?_push_of_some _ e) fun D γ => .dct (Z.size hb) (Heap.DictOf.new _) .nil)

theorem thaw_some {h : Heap} {D Dn γ : List Addr} {a : Addr} {σ : ACell} {r : AVal} (hr : thaw σ = some r) (hc : CellR Z h Dn γ a σ) (hD : ∀ d ∈ D, d ∈ Dn) (ha : a ∉ D) : VRel Z h D γ (.ref a) r := by
  have up : ∀ {vs : List Value} {xs : List AVal}, VRels Z h Dn γ vs xs → VRels Z h D γ vs xs := fun x => by
    have := VRels.grow (ex := []) (D' := D) (fun a ha => .inl (hD a ha)) x
    rwa [List.append_nil] at this
  cases hc with
  | lst h1 h2 => cases hr; exact .lst ha h1 (up h2)
  | dct h1 h2 h3 => cases hr; exact .dct ha h1 h2 h3
  | itL => cases hr
  | itB => cases hr
  | dead => cases hr

theorem free_of {h h' : Heap} (hk : ∀ b o, h.get? b = some o → h'.get? b = some o) {a : Addr} (ha : h'.get? a = none) : h.get? a = none := by
  cases e : h.get? a with
  | none => rfl
  | some o => have := hk a o e; rw [ha] at this; cases this
theorem CompNames.bnd {scope : Scope} {nt : Nat} {caps : List Nat} (N : CompNames scope S S' nt caps) {env : Env} {own D γ : List Addr} {st : ASt} {h : Heap} (rl : Rel Z S env own D γ st h) : ∀ y ∈ scope.names, y.2 = .free → (env.cells.lookup y.1).isSome = true := fun y hy hk => by
  obtain ⟨j, j1, j2⟩ := N.bound y hy hk
  obtain ⟨c, vo, j3, _⟩ := rl.cl j y.1 j1 j2
  rw [j3]; rfl
theorem CompNames.closure {scope : Scope} {nt : Nat} {caps : List Nat} (N : CompNames scope S S' nt caps) {env : Env} {own D γ : List Addr} {st : ASt} {h : Heap} (rl : Rel Z S env own D γ st h) : closureFor scope env = pure (closL env.cells scope.names []) := closureFor_eq (N.bnd rl)
theorem CompNames.capD {scope : Scope} {nt : Nat} {caps : List Nat} (N : CompNames scope S S' nt caps) {env : Env} {own D γ : List Addr} {st : ASt} {h : Heap} (rl : Rel Z S env own D γ st h) {X own' : List Addr} {h3 : Heap} (hX : ∀ d ∈ X, ∃ o, h3.get? d = some o) {y : Str} {c : Addr}
    (hy : (cEnv scope h3.objs.size env).cells.lookup y = some c) (h1 : c ∈ X ++ own') : c ∈ D ∨ c ∈ own' := by
  rcases List.mem_append.mp h1 with h1 | h1
  · rcases cellsFrom_mem _ _ _ y c (mem_of_lookup hy) with h3' | ⟨h3', _⟩
    · exact .inl (rl.cap y c (closL_sound (acc := []) (N.bnd rl) (fun _ _ h => nomatch h) y c h3')).1
    · obtain ⟨o, e⟩ := hX c h1
      exact absurd (Heap.lt_size e) (Nat.not_lt.mpr (Nat.le_of_succ_le h3'))
  · exact .inr h1
theorem Chg.kp {s s' : Shared} (c : Chg [] s s') : Kp s s' := let ⟨h', tk, e, k⟩ := c; ⟨h', tk, e, fun b o q => k b o (fun h => nomatch h) q⟩
theorem Kp.through {s s2 s5 : Shared} {h4 : Heap} {L : List Addr} (k2 : Kp s s2) (k24 : ∀ b o, s2.heap.get? b = some o → h4.get? b = some o) (c5 : Chg L { s2 with heap := h4 } s5) (hL : ∀ b ∈ L, s.heap.get? b = none) : Kp s s5 :=
  (((k2.trans ⟨h4, s2.toks, rfl, k24⟩).chg []).trans c5 fun b hb => .inr (hL b hb)).kp
theorem mem3 {p : Addr → Prop} {I a : Addr} {own : List Addr} (h1 : p I) (h2 : ∀ b ∈ own, p b) (h3 : p a) : ∀ b ∈ I :: (own ++ [a]), p b := fun b hm => by
  rcases List.mem_cons.mp hm with rfl | hm
  · exact h1
  · rcases List.mem_append.mp hm with hm | hm
    · exact h2 b hm
    · rw [List.mem_singleton.mp hm]; exact h3

/-- from the source of the first clause to the end of its loop -/
theorem compCore {k : Nat} {tup : Bool} {e : Expr} {target iter : Expr} {p : Pos} {ifs : List Expr} {scope : Scope} {newAcc : Sem Value} {code : Value → Env → Sem Unit} {nt : Nat} {caps : List Nat} {fi : ASt → Option (List AVal)} {tg : AVal → ASt → Option ASt} {ci : ASt → Option Bool} {body : CStep} {σ₀ : ACell}
    (N : CompNames scope S S' nt caps) (Rf : RI Z S k tup iter fi) (Ha : NewAcc Z newAcc σ₀)
    (hturn : ∀ it acc env, compTurn e 0 it acc env = (do
      standAt p
      match ← pyNext it with
      | none => pure (.done .next)
      | some v =>
        letOwnedTupleGo target it v
        assign target env v
        let mut ok := true
        for c in ifs do
          if ok then ok ← isTrue c env (eval c env)
        if ok then code acc env
        again (.compLoop e 0 it acc env)))
    (hden : ∀ it acc env, Z.M.den (.compLoop e 0 it acc env) = (compTurn e 0 it acc env).onRaise (fun x => do noteFrame x env; theTreesLotGoes x)) (hqt : ∀ it acc env, (Code.compLoop e 0 it acc env).quiet = true) (hun : ∀ (A : Around) it acc env, A.under (.compLoop e 0 it acc env) = A)
    (hstart : ∀ {A : Around} {R : Result → Shared → Prop} {s : Shared} {it acc : Value} {env : Env}, codeAny Z.M A (.compLoop e 0 it acc env) R s → wpAny Z.M A (pyIter it) (fun it' s' => codeAny Z.M A (.compLoop e 0 it' acc env) R s') (notedBy Z.M A env fun x s' => R (.error x) s') s → codeAny Z.M A (.compStart e 0 it acc env) R s)
    (Rt : RTgt Z S' tup target tg) (Ri : RIfs Z S' k ifs ci) (Rb : RBody Z S' k code body)
    {A : Around} {env : Env} {own D γ : List Addr} {st st' : ASt} {σ : ACell} {r : AVal} {s : Shared} {xs : List AVal} {E : Value → Shared → Prop} {RR : Value → Addr → Result → Shared → Prop}
    (hf : fi st = some xs) (hq : compF tg ci body xs (capSt nt caps st) σ₀ = some (σ, st')) (hth : thaw σ = some r) (rl : Rel Z S env own D γ st s.heap) (hr : Room A k)
    (hend : ∀ s5 acc own' C, C ∈ own' → (∀ a ∈ own', s.heap.get? a = none) → Kp s s5 → Rel Z S env own (D ++ own') γ st s5.heap → VRel Z s5.heap (D ++ own') γ acc r → (∃ m, s5.heap.Ns C m) → RR acc C (.ok .next) s5) :
    wpAny Z.M A (eval iter env) (fun x s₁ => wpAny Z.M A (pyIter x) (fun it s₂ => wpAny Z.M A newAcc (fun acc s₃ => wpAny Z.M A (newFunctionEnv scope env.globals (closL env.cells scope.names []) [] env.qual none .none (some env)) (fun cenv s₄ =>
      codeAny Z.M A (.compStart e 0 it acc { cenv with scope := relabel scope env }) (RR acc cenv.locals) s₄) E s₃) E s₂) E s₁) E s := by
  refine wpAny_mono (Rf hf rl hr) (fun x s1 h1 => wpAny_mono h1 (fun it s2 h2 => ?_) fun _ _ x => x) fun _ _ x => x
  obtain ⟨k2, I, rfl, hI, hb, fp, P, St, ⟨hbI, hbk⟩, W, hsz, hst, hlv, hID, hfp, hval, hgo⟩ := h2
  have hIfp : I ∈ fp := W.sub I (List.mem_singleton.mpr rfl)
  have r2 : Rel Z S env own (D ++ [I]) γ st s2.heap := rl.growD (fun _ _ e => k2.get e) (fun a ha => by rw [List.mem_singleton.mp ha]; exact hI) (fun a ha => by rw [List.mem_singleton.mp ha]; exact (hfp I hIfp).2)
  refine Ha r2.base fun h3 hk3 hc3 => ?_
  let a := s2.heap.objs.size
  have ha2 : s2.heap.get? a = none := none_of_size (Nat.le_refl _)
  let s3 : Shared := { s2 with heap := h3 }
  have r3 : Rel Z S env own (D ++ [I] ++ [a]) γ st s3.heap := r2.growD hk3 (fun b hb => by rw [List.mem_singleton.mp hb]; exact ha2) (fun b hb => by rw [List.mem_singleton.mp hb]; exact (hc3 [] []).live)
  obtain ⟨_, own', hC, hfr, r4⟩ := compRel N (s := s3) r3
  refine newCompEnv fun h4 hh4 => ?_
  rw [← hh4] at r4
  have hk4 : ∀ b o, h3.get? b = some o → h4.get? b = some o := fun b o e => by rw [hh4]; exact pushCells_keeps _ _ b o (Heap.get?_push_of_some _ e)
  have henv : ({ scope := relabel scope env, locals := h3.objs.size, globals := env.globals, cells := cellsFrom (h3.objs.size + 1) scope.names (closL env.cells scope.names []), qual := env.qual, func := none, code := env.code, frame := env.frame, builtins := env.builtins } : Env) = cEnv scope h3.objs.size env := rfl
  show codeAny _ _ (.compStart e 0 (.ref I) (.ref a) { scope := relabel scope env, locals := h3.objs.size, globals := env.globals, cells := cellsFrom (h3.objs.size + 1) scope.names (closL env.cells scope.names []), qual := env.qual, func := none, code := env.code, frame := env.frame, builtins := env.builtins }) (RR (.ref a) h3.objs.size) { s2 with heap := h4 }
  rw [henv]
  let s4 : Shared := { s2 with heap := h4 }
  have k24 : ∀ b o, s2.heap.get? b = some o → h4.get? b = some o := fun b o e => hk4 b o (hk3 b o e)
  have hfr2 : ∀ b ∈ own', s2.heap.get? b = none := fun b hb => free_of hk3 (hfr b hb)
  have hfrs : ∀ b ∈ own', s.heap.get? b = none := fun b hb => k2.free' (hfr2 b hb)
  have has : s.heap.get? a = none := k2.free' ha2
  have hIo : ∃ o, s2.heap.get? I = some o := (hfp I hIfp).2
  have hIa : I ≠ a := fun q => by obtain ⟨o, e⟩ := hIo; rw [q, ha2] at e; cases e
  have hIown : I ∉ own' := fun h => by obtain ⟨o, e⟩ := hIo; rw [hfr2 I h] at e; cases e
  have hao : a ∉ own' := fun h => by obtain ⟨o, e⟩ := (hc3 [] []).live; have := hfr a h; rw [e] at this; cases this
  have hDlive : ∀ d ∈ D, ∃ o, s.heap.get? d = some o := fun d hd => (rl.live d hd).2
  have haD : a ∉ D := fun h => by obtain ⟨o, e⟩ := hDlive a h; rw [has] at e; cases e
  have hcapD : ∀ (x : Str) (c : Addr), (cEnv scope h3.objs.size env).cells.lookup x = some c → c ∈ D ∨ c ∈ own' := fun x c h => N.capD rl (fun d hd => (r3.live d hd).2) h (r4.cap x c h).1
  have hac : ∀ (x : Str) (c : Addr), (cEnv scope h3.objs.size env).cells.lookup x = some c → c ≠ a := fun x c h q => (hcapD x c h).elim (fun h => haD (q ▸ h)) fun h => hao (q ▸ h)
  have hIc : ∀ (x : Str) (c : Addr), (cEnv scope h3.objs.size env).cells.lookup x = some c → c ≠ I := fun x c h q => (hcapD x c h).elim (fun h => hID (q ▸ h)) fun h => hIown (q ▸ h)
  have hst4 : St 0 s4.heap := W.frame _ _ _ hst fun b _ o e => k24 b o e
  have main : codeAny Z.M A (.compLoop e 0 (.ref I) (.ref a) (cEnv scope h3.objs.size env)) (RR (.ref a) h3.objs.size) s4 := by
    refine compLoop_wp hturn hden hqt hun Rt Ri Rb (Dn := D ++ own' ++ [a]) hq r4 ?_ ?_ hao ?_ hac hr W hst4 hlv hval hgo ?_ ?_ ?_ ?_ hIown ?_ hIc hIa ?_ ?_ ?_ ?_ ?_
    · exact (hc3 _ _).mono (fun b o _ e => hk4 b o e) fun o e => hk4 a o e
    · exact List.mem_append_left _ (List.mem_append_right _ (List.mem_singleton.mpr rfl))
    · exact fun h => haD (rl.γD a h)
    · intro b hb'
      rcases List.mem_append.mp hb' with h | h
      · rcases List.mem_append.mp h with h | h
        · rcases List.mem_append.mp h with h | h
          · exact .inl h
          · rw [List.mem_singleton.mp h]; exact .inr hbI
        · rw [List.mem_singleton.mp h]
          exact .inr (free_of hbk ha2)
      · exact .inr (free_of hbk (hfr2 b h))
    · exact fun b o e => k24 b o (hbk b o e)
    · intro b hb'
      obtain ⟨_, o, e⟩ := hfp b hb'
      exact ⟨(fun h => by rw [hfr2 b h] at e; cases e), (fun q => by rw [q, ha2] at e; cases e)⟩
    · exact List.mem_append_left _ (List.mem_append_left _ (List.mem_append_right _ (List.mem_singleton.mpr rfl)))
    · exact fun h => hID (rl.γD I h)
    · intro d hd
      rcases List.mem_append.mp hd with h | h
      · rcases List.mem_append.mp h with h | h
        · exact ⟨List.mem_append_left _ (List.mem_append_left _ (List.mem_append_left _ h)), fun q => hID (q ▸ h)⟩
        · exact ⟨List.mem_append_right _ h, fun q => hIown (q ▸ h)⟩
      · rw [List.mem_singleton.mp h]
        exact ⟨List.mem_append_left _ (List.mem_append_right _ (List.mem_singleton.mpr rfl)), hIa.symm⟩
    · exact fun b hb => List.mem_append_left _ (List.mem_append_right _ hb)
    · exact fun b hb => List.mem_append_left _ (List.mem_append_left _ (rl.γD b hb))
    · exact fun x c h => (hcapD x c h).elim (fun h => List.mem_append_left _ (List.mem_append_left _ h)) fun h => List.mem_append_left _ (List.mem_append_right _ h)
    · intro s5 c5 r5 g5
      have k5 : Kp s s5 := k2.through k24 c5 (mem3 hI hfrs has)
      refine hend s5 _ own' h3.objs.size hC hfrs k5 (rl.growD (fun _ _ e => k5.get e) hfrs fun b hb => (r5.live b (List.mem_append_left _ (List.mem_append_right _ hb))).2) ?_ ?_
      · exact thaw_some hth g5 (fun d hd => List.mem_append_left _ hd) fun h => (List.mem_append.mp h).elim haD hao
      · obtain ⟨m, hn, _⟩ := r5.ns; exact ⟨m, hn⟩
  exact hstart main (W.self 0 _ _ _ hst4 main)
end
end Mine

end
section

namespace Mine
section
variable {Z : Amb} {S S' : Sx}

/-- the shape of a clause's loop, closed by rfl -/
structure TurnSh (Z : Amb) (e : Expr) (d : Nat) (p : Pos) (target : Expr) (ifs : List Expr) (code : Value → Env → Sem Unit) : Prop where
  turn : ∀ it acc env, compTurn e d it acc env = (do
      standAt p
      match ← pyNext it with
      | none => pure (.done .next)
      | some v =>
        letOwnedTupleGo target it v
        assign target env v
        let mut ok := true
        for c in ifs do
          if ok then ok ← isTrue c env (eval c env)
        if ok then code acc env
        again (.compLoop e d it acc env))
  den : ∀ it acc env, Z.M.den (.compLoop e d it acc env) = (compTurn e d it acc env).onRaise (fun x => do noteFrame x env; theTreesLotGoes x)
  quiet : ∀ it acc env, (Code.compLoop e d it acc env).quiet = true
  under : ∀ (A : Around) it acc env, A.under (.compLoop e d it acc env) = A
/-- the start of a clause -/
noncomputable def StartSh (Z : Amb) (e : Expr) (d : Nat) : Prop := ∀ {A : Around} {R : Result → Shared → Prop} {s : Shared} {it acc : Value} {env : Env}, codeAny Z.M A (.compLoop e d it acc env) R s → wpAny Z.M A (pyIter it) (fun it' s' => codeAny Z.M A (.compLoop e d it' acc env) R s') (notedBy Z.M A env fun x s' => R (.error x) s') s → codeAny Z.M A (.compStart e d it acc env) R s

theorem start_list {elt : Expr} {gs : List Comprehension} {scope : Scope} {pos : Pos} {d : Nat} {target iter : Expr} {ifs : List Expr} (hd : gs[d]? = some ⟨target, iter, ifs, 0⟩) : StartSh Z (.ListComp elt gs scope pos) d := by
  intro A R s it acc env h0 h
  refine codeAny_of_tree ?_
  show wpAny _ _ ((compStart (.ListComp elt gs scope pos) d it acc env).onRaise (fun x => do noteFrame x env; standAt theWindowsPlace)) _ _ s
  refine wpAny_notedAt ?_
  unfold compStart
  rw [show clausesOf (.ListComp elt gs scope pos) = gs from rfl, hd]
  show wpAny _ _ (ask >>= _) _ _ s
  refine wpAny_bind (wpAny_askSetting (wpAny_ite ?_))
  split
  · first
      | exact wpAny_bind (wpAny_pure (wpAny_pure (And.intro rfl h0)))
      | exact wpAny_pure (And.intro rfl h0)
  · first
      | exact wpAny_bind (wpAny_rule (wpAny_bind (wpAny_standAt (wpAny_bind (wpAny_mono h (fun it' s' h' => wpAny_pure (And.intro rfl h')) fun _ _ x => x)))))
      | (refine wpAny_bind (wpAny_rule ?_); show wpAny _ _ (standAt iter.pos >>= _) _ _ s; exact wpAny_bind (wpAny_standAt (wpAny_bind (wpAny_mono h (fun it' s' h' => wpAny_pure (And.intro rfl h')) fun _ _ x => x))))
theorem start_dict {kx vx : Expr} {rest : List Comprehension} {scope : Scope} {pos : Pos} {target iter : Expr} {ifs : List Expr} : StartSh Z (.DictComp kx vx (⟨target, iter, ifs, 0⟩ :: rest) scope pos) 0 := fun h0 h => codeAny_compStart_dict h0 h

theorem names_local {scope : Scope} (hn : (scope.names.map (·.1)).Nodup) : ∀ x ∈ scope.names, x.2 = .local → scope.names.lookup x.1 = some .local := by
  rintro ⟨n, k⟩ hx rfl
  obtain ⟨d, hd⟩ := lookup_of_mem hx
  rw [hd, mem_key hn (mem_of_lookup hd) hx]

noncomputable def pComp (fi : ASt → Option (List AVal)) (nt : Nat) (caps : List Nat) (σ₀ : ACell) (tg : AVal → ASt → Option ASt) (ci : ASt → Option Bool) (body : CStep) (st : ASt) : Option AVal :=
  (fi st).bind fun xs => (compF tg ci body xs (capSt nt caps st) σ₀).bind fun p => thaw p.1

/-- a comprehension as an expression -/
theorem rp_comp {k : Nat} {tup : Bool} {e : Expr} {target iter : Expr} {p pos : Pos} {ifs : List Expr} {gs : List Comprehension} {scope : Scope} {newAcc : Sem Value} {code : Value → Env → Sem Unit} {nt : Nat} {caps : List Nat} {fi : ASt → Option (List AVal)} {tg : AVal → ASt → Option ASt} {ci : ASt → Option Bool} {body : CStep} {σ₀ : ACell}
    (N : CompNames scope S S' nt caps) (Rf : RI Z S k tup iter fi) (Ha : NewAcc Z newAcc σ₀) (T : TurnSh Z e 0 p target ifs code) (hst : StartSh Z e 0) (Rt : RTgt Z S' tup target tg) (Ri : RIfs Z S' k ifs ci) (Rb : RBody Z S' k code body)
    (hcl : clausesOf e = ⟨target, iter, ifs, 0⟩ :: gs) (hs : ∀ env x, foldedSetIterable iter env x = pure x) (hev : ∀ env, eval e env = comprehension e scope env pos newAcc false (eval iter env)) : RP Z S k e (pComp fi nt caps σ₀ tg ci body) := by
  intro A env own D γ st s r E hf rl hr
  obtain ⟨xs, q1, f1⟩ := bind_some hf
  obtain ⟨q, q2, f2⟩ := bind_some f1
  obtain ⟨σ, st'⟩ := q
  rw [hev]
  refine wpAny_comprehension_free (use := none) hcl (hs env) (N.closure rl) N.kind (names_local N.keys) (compCore (RR := fun acc C => compPost Z.M A E none _ acc C) N Rf Ha T.turn T.den T.quiet T.under hst Rt Ri Rb q1 q2 f2 rl hr fun s5 acc own' C hC hfr k5 r5 v5 hn => ?_)
  obtain ⟨m, hn⟩ := hn
  refine ⟨m, hn, fun h' hs' => ?_⟩
  have hCs : s.heap.get? C = none := hfr C hC
  refine ⟨((k5.chg []).trans (L' := [C]) ⟨h', s5.toks, rfl, fun b o hb e => hs'.extBut b o (fun q => hb (List.mem_singleton.mpr q)) e⟩ fun b hb => .inr (by rw [List.mem_singleton.mp hb]; exact hCs)).kp, ?_⟩
  · have := v5.mono (h' := h') fun b o hb e => hs'.extBut b o (fun q => hb (q ▸ List.mem_append_right _ hC)) e
    have := VRel.grow (ex := []) (D' := D) (fun a ha => .inl (List.mem_append_left _ ha)) this
    rwa [List.append_nil] at this

/-- a comprehension that goes to a name of the frame at once -/
theorem rs_comp {k : Nat} {tup : Bool} {e : Expr} {target iter : Expr} {p pos py spos : Pos} {ifs : List Expr} {gs : List Comprehension} {scope : Scope} {newAcc : Sem Value} {code : Value → Env → Sem Unit} {nt i : Nat} {x : Str} {caps : List Nat} {fi : ASt → Option (List AVal)} {tg : AVal → ASt → Option ASt} {ci : ASt → Option Bool} {body : CStep} {σ₀ : ACell}
    (N : CompNames scope S S' nt caps) (Rf : RI Z S k tup iter fi) (Ha : NewAcc Z newAcc σ₀) (T : TurnSh Z e 0 p target ifs code) (hst : StartSh Z e 0) (Rt : RTgt Z S' tup target tg) (Ri : RIfs Z S' k ifs ci) (Rb : RBody Z S' k code body)
    (hcl : clausesOf e = ⟨target, iter, ifs, 0⟩ :: gs) (hs : ∀ env x, foldedSetIterable iter env x = pure x) (hsw : ∀ env, env.scope = S.sc → swapsWith e (some (.Name x py)) spos.line env = pure true)
    (hev : ∀ env, evalThenUse e env (assign (.Name x py) env) = (do let _ ← comprehension e scope env pos newAcc false (eval iter env) (some (assign (.Name x py) env)))) (hi : S.vars[i]? = some x) (hk : S.sc.names.lookup x = some .local) :
    RSt Z S k (.Assign [.Name x py] e spos) (sAssign i (pComp fi nt caps σ₀ tg ci body)) := by
  intro A env own D γ st s fl st2 E hf rl hr
  unfold sAssign at hf
  obtain ⟨r, hp, hfe⟩ := Option.map_eq_some_iff.mp hf
  cases hfe
  obtain ⟨xs, q1, f1⟩ := bind_some hp
  obtain ⟨q, q2, f2⟩ := bind_some f1
  obtain ⟨σ, st'⟩ := q
  rw [exec_Assign_Name_used _ _ _ _ (hsw env rl.esc), hev]
  refine wpAny_bind (wpAny_standAt (wpAny_bind ?_))
  refine wpAny_bind (wpAny_mono (wpAny_comprehension_free (use := some (assign (.Name x py) env)) (Q := fun _ s' => After Z S env own D γ s .next (stv i r st) .next s') hcl (hs env) (N.closure rl) N.kind (names_local N.keys)
    (compCore (RR := fun acc C => compPost Z.M A E (some (assign (.Name x py) env)) _ acc C) N Rf Ha T.turn T.den T.quiet T.under hst Rt Ri Rb q1 q2 f2 rl hr fun s5 acc own' C hC hfr k5 r5 v5 hn => ?_)) (fun _ s' hq => wpAny_pure (wpAny_pure hq)) fun _ _ e => e)
  obtain ⟨m, hn⟩ := hn
  have hCs : s.heap.get? C = none := hfr C hC
  have hCo : C ∉ own := fun h => by obtain ⟨o, e⟩ := (rl.live C (rl.ownD C h)).2; rw [hCs] at e; cases e
  show wpAny _ _ (assign (.Name x py) env acc) _ _ _
  refine wpAny_assign_Name (storeVar hi hk (.inl rfl) r5 v5 fun s6 c6 r6 => ?_)
  refine ⟨m, hn.at' fun o e => c6.get hCo e, fun h' hs' => ?_⟩
  have c56 : Chg own s s6 := (k5.chg own).trans c6 fun b hb => .inl hb
  have hCD : C ∉ D := fun h => by obtain ⟨o, e⟩ := (rl.live C h).2; rw [hCs] at e; cases e
  refine .of_keep ((c56.mono fun b h => List.mem_append_left _ h).trans (L' := [C]) ⟨h', s6.toks, rfl, fun b o hb e => hs'.extBut b o (fun q => hb (List.mem_singleton.mpr q)) e⟩ fun b hb => .inr (by rw [List.mem_singleton.mp hb]; exact hCs)) ?_ .next
  · exact r6.over (I := C) (fun b o hb e => hs'.extBut b o hb e) (List.mem_append_right _ hC) hCo (fun h => hCD (rl.γD C h)) (fun y c h q => hCD (q ▸ (rl.cap y c h).1)) (fun d h => List.mem_append_left _ h) rl.ownD rl.γD (fun y c h => (rl.cap y c h).1) fun d hd => by
      obtain ⟨o, e⟩ := (r6.live d (List.mem_append_left _ hd)).2
      exact ⟨o, hs'.extBut d o (fun q => hCD (q ▸ hd)) e⟩

/-- a clause within a clause -/
noncomputable def nestBody (fi : ASt → Option (List AVal)) (tg : AVal → ASt → Option ASt) (ci : ASt → Option Bool) (body : CStep) : CStep := fun st σ => (fi st).bind fun xs => compF tg ci body xs st σ
theorem rbody_nest {k : Nat} {tup : Bool} {e : Expr} {d : Nat} {target iter : Expr} {p q : Pos} {ifs : List Expr} {code : Value → Env → Sem Unit} {fi : ASt → Option (List AVal)} {tg : AVal → ASt → Option ASt} {ci : ASt → Option Bool} {body : CStep} (Rf : RI Z S k tup iter fi) (T : TurnSh Z e d p target ifs code) (hst : StartSh Z e d) (Rt : RTgt Z S tup target tg) (Ri : RIfs Z S k ifs ci) (Rb : RBody Z S k code body)
    (hs : ∀ env x, foldedSetIterable iter env x = pure x) : RBody Z S k (fun acc env => do
        let x ← eval iter env
        standAt q
        let x ← foldedSetIterable iter env x
        let _ ← runOwn (.compStart e d (← holding [x] (pyIter x)) acc env) env) (nestBody fi tg ci body) := by
  intro A env own D γ st st' σ σ' s a E hq rl hc ha hao haγ hac hr
  obtain ⟨xs, q1, f1⟩ := bind_some hq
  refine wpAny_bind (wpAny_mono (Rf q1 rl hr) (fun x s1 h1 => wpAny_bind (wpAny_standAt (wpAny_bind (wpAny_of_eq (hs env x) (wpAny_bind (wpAny_holding (wpAny_mono h1 (fun it s2 h2 => ?_) fun _ _ x => x))))))) fun _ _ x => x)
  obtain ⟨k2, I, rfl, hI, hb, fp, P, St, ⟨hbI, hbk⟩, W, hsz, hst0, hlv, hID, hfp, hval, hgo⟩ := h2
  have hIfp : I ∈ fp := W.sub I (List.mem_singleton.mpr rfl)
  have r2 : Rel Z S env own (D ++ [I]) γ st s2.heap := rl.growD (fun _ _ e => k2.get e) (fun a ha => by rw [List.mem_singleton.mp ha]; exact hI) (fun a ha => by rw [List.mem_singleton.mp ha]; exact (hfp I hIfp).2)
  have g2 : CellR Z s2.heap (D ++ [I]) γ a σ := by
    have := hc.grow (ex := []) (D' := D ++ [I]) fun b hb => (List.mem_append.mp hb).imp id fun h => by rw [List.mem_singleton.mp h]; exact hI
    rw [List.append_nil] at this
    exact this.mono (fun b o _ e => k2.get e) fun o e => k2.get e
  refine wpAny_bind (wpAny_runOwn (Q := fun _ s' => wpAny Z.M A (pure PUnit.unit) (fun _ s' => Chg (own ++ [a]) s s' ∧ Rel Z S env own D γ st' s'.heap ∧ CellR Z s'.heap D γ a σ') E s') ?_)
  have main : ∀ R : Result → Shared → Prop, (∀ s', Chg (I :: (own ++ [a])) s2 s' → Rel Z S env own D γ st' s'.heap → CellR Z s'.heap D γ a σ' → R (.ok .next) s') → codeAny Z.M A (.compLoop e d (.ref I) (.ref a) env) R s2 := fun R hR =>
    compLoop_wp T.turn T.den T.quiet T.under Rt Ri Rb (Dn := D) f1 r2 g2 (List.mem_append_left _ ha) hao haγ hac hr W hst0 hlv hval hgo
      (fun b hb' => (List.mem_append.mp hb').imp id fun h => by rw [List.mem_singleton.mp h]; exact hbI) hbk (fun b hb => ⟨fun h => (hfp b hb).1.elim (fun q => q (rl.ownD b h)) fun q => rl.ownγ b h q.2, fun q => (hfp b hb).1.elim (fun h => h (q ▸ ha)) fun h => haγ (q ▸ h.2)⟩)
      (List.mem_append_right _ (List.mem_singleton.mpr rfl)) (fun h => hID (rl.ownD I h)) (fun h => hID (rl.γD I h)) (fun y c h q => hID (q ▸ (rl.cap y c h).1)) (fun q => hID (q ▸ ha)) (fun d hd => ⟨List.mem_append_left _ hd, fun q => hID (q ▸ hd)⟩) rl.ownD rl.γD (fun y c h => (rl.cap y c h).1) hR
  have fin : ∀ s', Chg (I :: (own ++ [a])) s2 s' → Rel Z S env own D γ st' s'.heap → CellR Z s'.heap D γ a σ' → wpAny Z.M A (pure PUnit.unit) (fun _ s' => Chg (own ++ [a]) s s' ∧ Rel Z S env own D γ st' s'.heap ∧ CellR Z s'.heap D γ a σ') E s' := fun s' c5 r5 g5 => by
    exact wpAny_pure ⟨(k2.chg _).trans c5 fun b hb => (List.mem_cons.mp hb).elim (fun q => .inr (q ▸ hI)) .inl, r5, g5⟩
  exact hst (main _ fin) (W.self 0 _ _ _ hst0 (main _ fin))
end
end Mine

end
section

namespace Mine
/-- an expression that makes something new, to be changed in place -/
noncomputable def RN (Z : Amb) (S : Sx) (k : Nat) (e : Expr) (f : ASt → Option ACell) : Prop :=
  ∀ {A : Around} {env : Env} {own D γ : List Addr} {st : ASt} {s : Shared} {c : ACell} {E : Value → Shared → Prop}, f st = some c → Rel Z S env own D γ st s.heap → Room A k →
    wpAny Z.M A (eval e env) (fun v s' => ∃ a, v = .ref a ∧ Kp s s' ∧ s.heap.get? a = none ∧ CellR Z s'.heap (D ++ [a]) (γ ++ [a]) a c) E s

section
variable {Z : Amb} {S : Sx}

theorem snocD {D : List Addr} {a : Addr} {h : Heap} (ha : h.get? a = none) : ∀ b, b ∈ D ++ [a] → b ∈ D ∨ h.get? b = none := fun b hb => (List.mem_append.mp hb).imp id fun h => by rw [List.mem_singleton.mp h]; exact ha

theorem Rel.newCell {env : Env} {own D γ : List Addr} {st : ASt} {s s' : Shared} {a : Addr} {c : ACell} (r : Rel Z S env own D γ st s.heap) (hk : Kp s s') (ha : s.heap.get? a = none) (hc : CellR Z s'.heap (D ++ [a]) (γ ++ [a]) a c) :
    Rel Z S env own (D ++ [a]) (γ ++ [a]) { st with cells := st.cells ++ [c] } s'.heap := by
  have haD : a ∉ D := fun h => by obtain ⟨o, e⟩ := (r.live a h).2; rw [ha] at e; cases e
  have hγ := r.cells.1
  have up : ∀ {v : Value} {x : AVal}, VRel Z s.heap D γ v x → VRel Z s'.heap (D ++ [a]) (γ ++ [a]) v x := fun x => (x.grow (snocD ha)).keeps fun _ _ e => hk.get e
  exact { r with
    ownD := fun b hb => List.mem_append_left _ (r.ownD b hb)
    γD := fun b hb => by
      rcases List.mem_append.mp hb with h | h
      · exact List.mem_append_left _ (r.γD b h)
      · exact List.mem_append_right _ h
    γnd := List.nodup_append.mpr ⟨r.γnd, by simp, fun x hx y hy q => by
      rw [List.mem_singleton.mp hy] at q
      exact haD (q ▸ r.γD x hx)⟩
    ownγ := fun b hb h => by
      rcases List.mem_append.mp h with h | h
      · exact r.ownγ b hb h
      · rw [List.mem_singleton.mp h] at hb; exact haD (r.ownD a hb)
    cap := fun x c h => ⟨List.mem_append_left _ (r.cap x c h).1, (r.cap x c h).2.1, fun hm => by
      rcases List.mem_append.mp hm with hm | hm
      · exact (r.cap x c h).2.2 hm
      · rw [List.mem_singleton.mp hm] at h; exact haD (r.cap x a h).1⟩
    base := fun b o e => hk.get (r.base b o e)
    live := fun d hd => by
      rcases List.mem_append.mp hd with hd | hd
      · obtain ⟨h1, o, e⟩ := r.live d hd; exact ⟨h1, o, hk.get e⟩
      · rw [List.mem_singleton.mp hd]
        refine ⟨?_, hc.live⟩
        cases e : Z.H0.get? a with
        | none => rfl
        | some o => have := r.base a o e; rw [ha] at this; cases this
    ns := by
      obtain ⟨m, hn, hm⟩ := r.ns
      refine ⟨m, hn.keeps fun _ _ e => hk.get e, fun i x h1 h2 av h3 => ?_⟩
      obtain ⟨v, e, rv⟩ := hm i x h1 h2 av h3
      exact ⟨v, e, up rv⟩
    cl := fun i x h1 h2 => by
      obtain ⟨c', vo, e1, e2, e3⟩ := r.cl i x h1 h2
      refine ⟨c', vo, e1, e2.keeps fun _ _ e => hk.get e, fun av h3 => ?_⟩
      obtain ⟨v, e, rv⟩ := e3 av h3
      exact ⟨v, e, up rv⟩
    cells := by
      refine ⟨by rw [List.length_append, List.length_append, hγ]; rfl, fun i b d h1 h2 => ?_⟩
      by_cases hi : i < γ.length
      · rw [List.getElem?_append_left hi] at h1
        rw [List.getElem?_append_left (by rw [← hγ]; exact hi)] at h2
        exact ((r.cells.2 i b d h1 h2).grow (snocD ha)).mono (fun b o _ e => hk.get e) fun o e => hk.get e
      · have hi' := Nat.not_lt.mp hi
        rw [List.getElem?_append_right hi'] at h1
        rw [List.getElem?_append_right (by rw [← hγ]; exact hi')] at h2
        obtain ⟨j, hj⟩ : ∃ j, i - γ.length = j := ⟨_, rfl⟩
        rw [← hγ, hj] at h2
        rw [hj] at h1
        match j, h1, h2 with
        | 0, h1, h2 => cases h1; cases h2; exact hc }

noncomputable def sNew (i : Nat) (f : ASt → Option ACell) : AS := fun st => (f st).bind fun c => some (.next, stv i (.cell st.cells.length) { st with cells := st.cells ++ [c] })
theorem rs_new {k i : Nat} {x : Str} {kd : NameKind} {p pos : Pos} {e : Expr} {f : ASt → Option ACell} (R : RN Z S k e f) (hi : S.vars[i]? = some x) (hk : S.sc.names.lookup x = some kd) (hkd : kd = .local ∨ (kd = .cell ∧ x ∈ S.wv))
    (hs : ∀ env, swapsWith e (some (.Name x p)) pos.line env = pure false) : RSt Z S k (.Assign [.Name x p] e pos) (sNew i f) := by
  intro A env own D γ st s fl st' E hf r hr
  obtain ⟨c, q, f1⟩ := bind_some hf
  cases f1
  refine wpAny_Assign_Name (wpAny_mono (R q r hr) (fun v s1 h1 => ?_) fun _ _ x => x) (hs env)
  obtain ⟨a, rfl, k1, ha, hc⟩ := h1
  have r1 := r.newCell k1 ha hc
  have hγ := r.cells.1
  refine storeVar hi hk hkd r1 (.cell (i := st.cells.length) (by rw [List.getElem?_append_right (by rw [hγ]; exact Nat.le_refl _), hγ, Nat.sub_self]; rfl)) fun s2 c2 r2 => ?_
  exact ⟨[a], (k1.chg _).trans c2 fun b hb => .inl (List.mem_append_left _ hb), fun b hb => by rw [List.mem_singleton.mp hb]; exact ha, r2, .next⟩

noncomputable def nList (f : ASt → Option (List AVal)) (st : ASt) : Option ACell := (f st).bind fun xs => if xs.length < 1000 then some (.lst xs) else none
theorem Kp.free {s s' : Shared} (h : Kp s s') {a : Addr} (ha : s'.heap.get? a = none) : s.heap.get? a = none := by
  cases e : s.heap.get? a with
  | none => rfl
  | some o => have := h.get e; rw [ha] at this; cases this
theorem rn_list {k : Nat} {es : List Expr} {pos : Pos} {f : ASt → Option (List AVal)} (R : RPs Z S k es f) : RN Z S k (.List es pos) (nList f) := by
  intro A env own D γ st s c E hf r hr
  obtain ⟨xs, q, f1⟩ := bind_some hf
  obtain ⟨hlt, f2⟩ := ite_some f1
  cases f2
  refine List_ (wpAny_mono (R q r hr) (fun vs s1 h => ?_) fun _ _ x => x)
  have hl := h.2.length
  refine wpAny_newObj_type ?_ (by show vs.toArray.size ≤ sizeLine; rw [List.size_toArray, sizeLine_eq]; omega)
  have k1 : Kp s1 { s1 with heap := s1.heap.push { cls := .type "list", data := .seq vs.toArray } } := ⟨_, _, rfl, fun b o e => Heap.get?_push_of_some _ e⟩
  have hf : s1.heap.get? s1.heap.objs.size = none := none_of_size (Nat.le_refl _)
  exact ⟨_, rfl, h.1.trans k1, h.1.free hf, .lst ⟨0, Heap.get?_push_size _ rfl⟩ ((h.2.grow (snocD hf)).keeps fun _ _ e => k1.get e)⟩
theorem rn_dict {k : Nat} {pos : Pos} : RN Z S k (.Dict [] [] pos) (fun _ => some (.dct [])) := by
  intro A env own D γ st s c E hf r hr
  cases hf
  rw [eval_Dict_empty]
  refine wpAny_bind (wpAny_standAt (newAcc_dict r.base fun h' hk hc => ?_))
  exact ⟨_, rfl, ⟨h', _, rfl, hk⟩, none_of_size (Nat.le_refl _), hc _ _⟩

/-! more statements -/
noncomputable def sAug (i : Nat) (g : Op2) (f : ASt → Option AVal) : AS := fun st => (ldv i st).bind fun a => (f st).bind fun b => (g st.cells a b).bind fun c => some (.next, stv i c st)
theorem rs_aug {k i : Nat} {x : Str} {kd : NameKind} {p pos : Pos} {op : Operator} {e : Expr} {g : Op2} {f : ASt → Option AVal} (R : RP Z S k e f) (hg : ROp Z k (inplaceOp op) g) (hi : S.vars[i]? = some x) (hk : S.sc.names.lookup x = some kd) (hkd : kd = .local ∨ (kd = .cell ∧ x ∈ S.wv))
    (hc : (x == ("__classdict__" : Str)) = false) : RSt Z S k (.AugAssign (.Name x p) op e pos) (sAug i g f) := by
  intro A env own D γ st s fl st' E hf r hr
  obtain ⟨a, q1, f1⟩ := bind_some hf
  obtain ⟨b, q2, f2⟩ := bind_some f1
  obtain ⟨c, q3, f3⟩ := bind_some f2
  cases f3
  refine wpAny_AugAssign_Name (loadVar hi hk (hkd.elim .inl fun h => .inr (.inl h.1)) hc q1 r fun v1 rv1 => R.use q2 r hr fun v2 s2 k2 rv2 => ?_)
  refine wpAny_mono (hg q3 (rv1.keeps fun _ _ e => k2.get e) rv2 (r.keeps' k2).wd hr) (fun v3 s3 h3 => ?_) fun _ _ x => x
  refine storeVar hi hk hkd ((r.keeps' k2).keeps' h3.1) h3.2 fun s4 c4 r4 => ?_
  exact .of_keep (((k2.trans h3.1).chg _).trans c4 fun b hb => .inl (List.mem_append_left _ hb)) r4 .next

noncomputable def sUnp (i j : Nat) (f : ASt → Option AVal) : AS := fun st => (f st).bind fun a => (tgPair i j a st).bind fun st' => some (.next, st')
theorem rs_unp {k i j n : Nat} {x y : Str} {kd ke : NameKind} {p q tp pos : Pos} {e : Expr} {f : ASt → Option AVal} (R : RP Z S k e f) (hi : S.vars[i]? = some x) (hk : S.sc.names.lookup x = some kd) (hkd : kd = .local ∨ (kd = .cell ∧ x ∈ S.wv))
    (hj : S.vars[j]? = some y) (hl : S.sc.names.lookup y = some ke) (hke : ke = .local ∨ (ke = .cell ∧ y ∈ S.wv)) (hs : ∀ env, swapsWithSole [.Tuple [.Name x p, .Name y q] n tp] e pos.line env = pure false)
    (hw : ∀ env, env.scope = S.sc → swappedStores [.Tuple [.Name x p, .Name y q] n tp] e env = pure none) : RSt Z S k (.Assign [.Tuple [.Name x p, .Name y q] n tp] e pos) (sUnp i j f) := by
  intro A env own D γ st s fl st' E hf r hr
  obtain ⟨a, q1, f1⟩ := bind_some hf
  obtain ⟨st2, q2, f2⟩ := bind_some f1
  cases f2
  obtain ⟨l, q3, g1⟩ := bind_some q2
  obtain rfl := tup?_some q3
  clear hf f1 q2 q3
  split at g1
  · cases g1
    refine Assign_Tuple (R.use q1 r hr fun v s1 k1 v1 => unpack2 hi hk hkd hj hl hke (r.keeps' k1) v1 hr fun s2 c2 r2 => ?_) (hs env) (hw env r.esc)
    exact .of_keep ((k1.chg _).trans c2 fun b hb => .inl (List.mem_append_left _ hb)) r2 .next
  · cases g1

/-! a constant that is bytes -/
theorem rp_globB {k : Nat} {x : Str} {pos : Pos} {b : Array UInt8} {t : Tok} (hx : S.sc.names.lookup x = some .globalImplicit) (hv : Z.mg x = some (.bytes b t)) (hd : (x == ("__debug__" : Str)) = false) : RP Z S k (.Name x pos) (fun _ => some (.bytes (toNats b))) := by
  intro A env own D γ st s a E hf r _
  cases hf
  refine Name_function_global (by rw [r.esc]; exact r.kind) (by unfold Env.kindOf; rw [r.esc]; exact hx) (loadGlobal_global (mg := Z.mg) ?_ hv ⟨Kp.refl _, .bytes b t⟩) hd
  rw [r.eg]; exact Z.g.keeps r.base

/-! slices up to -/
theorem slicePick_take (items : Array Value) (b : Nat) : slicePick items none (some b) none = (items.toList.take b).toArray := by
  by_cases h : b ≤ items.size
  · exact slicePick_upto items b h
  · have h' : items.size ≤ b := Nat.le_of_lt (Nat.not_le.mp h)
    have e : slicePick items none (some (b : Int)) none = slicePick items none (some (items.size : Int)) none := by
      unfold slicePick
      have e1 : sliceBounds none (some (b : Int)) none items.size = sliceBounds none (some (items.size : Int)) none items.size := by
        unfold sliceBounds
        simp
        try omega
      rw [e1]
    rw [e, slicePick_upto items items.size (Nat.le_refl _), List.take_of_length_le (by rw [Array.length_toList]; exact Nat.le_refl _), List.take_of_length_le (by rw [Array.length_toList]; exact h')]

noncomputable def pSlice (f g : ASt → Option AVal) (st : ASt) : Option AVal := (f st).bind fun a => (g st).bind fun b => a.lst?.bind fun xs => b.int?.bind fun n => if xs.length < 1000 ∧ 0 ≤ n then some (.lst (xs.take n.toNat)) else none
theorem rp_slice {k : Nat} {value upper : Expr} {p pos : Pos} {f g : ASt → Option AVal} (R₁ : RP Z S k value f) (R₂ : RP Z S k upper g) (ht : ∀ o r, letTemporaryGo value o r = pure ()) : RP Z S k (.Subscript value (.Slice none (some upper) none p) pos) (pSlice f g) := by
  intro A env own D γ st s c E hf r hr
  obtain ⟨a, q1, f1⟩ := bind_some hf
  obtain ⟨b, q2, f2⟩ := bind_some f1
  obtain ⟨xs, q3, f3⟩ := bind_some f2
  obtain ⟨n, q4, f4⟩ := bind_some f3
  obtain ⟨hn, f5⟩ := ite_some f4
  cases f5
  obtain rfl := lst?_some q3
  obtain rfl := int?_some q4
  refine wpAny_Subscript_list_slice (R₁.use q1 r hr fun v s1 k1 v1 => ?_) ht
  rw [evalPart_none]
  refine wpAny_pure ?_
  show wpAny _ _ (eval upper env) _ _ _
  refine R₂.use q2 (r.keeps' k1) hr fun u s2 k2 v2 => ?_
  obtain ⟨l, vs, rfl, hl, hp, hvs⟩ := vrel_lst v1
  obtain ⟨t, rfl⟩ := vrel_int v2
  have l1 := hvs.length
  obtain ⟨m, hm⟩ := Int.eq_ofNat_of_zero_le hn.2
  subst hm
  refine ⟨l, vs.toArray, none, some (m : Int), rfl, hp.isList.at fun o e => k2.get e, by rw [List.size_toArray, l1, sizeLine_eq]; omega, .none, .int _ _, ?_⟩
  have k3 : Kp s2 { s2 with heap := (s2.heap.push { cls := .type "slice", data := .fields #[.none, .int (m : Int) t, .none] }).push { cls := .type "list", data := .seq (slicePick vs.toArray none (some (m : Int)) none) } } := ⟨_, _, rfl, fun b o e => Heap.get?_push_of_some _ (Heap.get?_push_of_some _ e)⟩
  have w2 := ((r.keeps' k1).keeps' k2).wd
  refine ⟨(k1.trans k2).trans k3, .lst (vs := vs.take m) (w2.fresh (none_of_size (Nat.le_succ _))) ⟨0, ?_⟩ ((hvs.take _).keeps fun _ _ e => k3.get (k2.get e))⟩
  rw [slicePick_take, ← Heap.size_push]
  exact Heap.get?_push_size _ rfl
end
end Mine

end
section

namespace Mine
section
variable {Z : Amb} {S : Sx}

/-- a call of a named builtin upon one expression of any kind -/
theorem callName1 {k : Nat} {x : Str} {xp pos : Pos} {fv : Value} {e1 : Expr} (h0 : RP Z S k (.Name x xp) (fun _ => some (.cst fv))) (hk : Keep Z fv) (hst : ∀ env, starEach [e1] env = [(false, eval e1 env)])
    {A : Around} {env : Env} {own D γ : List Addr} {st : ASt} {s : Shared} {E : Value → Shared → Prop} {Q : Value → Shared → Prop} (r : Rel Z S env own D γ st s.heap) (hr : Room A k)
    (h : ∀ s1, Kp s s1 → wpAny Z.M A (eval e1 env) (fun v s2 => (∀ b o, Z.H0.get? b = some o → s2.heap.get? b = some o) ∧ wpAny Z.M A (call fv [v]) Q E s2) E s1) : wpAny Z.M A (eval (.Call (.Name x xp) [e1] [] pos) env) Q E s := by
  show wpAny _ _ (eval (.Name x xp) env >>= fun f => callWith pos f [] (backTo pos (starEach [e1] env)) (backToKw pos (keywordEach [] env))) _ _ _
  refine wpAny_bind (h0.use rfl r hr fun v s1 k1 v1 => ?_)
  obtain rfl := vrel_cst v1
  refine callWith_of (P := fun h => ∀ b o, Z.H0.get? b = some o → h.get? b = some o) (by rw [hst]; rfl) hk ?_
  rw [hst]
  refine evalArgs_plain (spliced_cons ?_)
  refine wpAny_mono (h s1 k1) (fun v s2 h2 => spliced_nil ⟨h2.1, h2.2⟩) fun _ _ x => x

theorem range_rev (r : Addr) (n : Int) (t u v : Tok) (hs : (Builtin.Range.rangeFitsLong 0 && Builtin.Range.rangeFitsLong n && Builtin.Range.rangeFitsLong 1 && Builtin.Range.rangeFitsLong (-1) && Builtin.Range.rangeFitsLong (0 - 1) && Builtin.Range.rangeFitsLong (Builtin.Range.rangeSize 0 n 1)) = true) :
    Meets (Builtin.«range.__reversed__» ⟨[.ref r], []⟩) (fun _ R s => s.heap.get? r = some { cls := .type "range", dict := none, data := .fields #[.int 0 t, .int n u, .int 1 v], slots := #[] } ∧
      R (.ok (.ret (Value.ref s.heap.objs.size))) { s with heap := s.heap.push { cls := Value.type "range_iterator", data := Data.fields #[rawInt (0 + (Builtin.Range.rangeSize 0 n 1 - 1) * 1), rawInt (Builtin.Range.rangeSize 0 n 1), rawInt (-1)] }, toks := s.toks }) :=
  .of_wp fun prog w A R s h => by
    obtain ⟨hp, g, d, tk, os⟩ := s; obtain ⟨hl, h⟩ := h
    have hs' : ¬ (!(Builtin.Range.rangeFitsLong 0 && Builtin.Range.rangeFitsLong n && Builtin.Range.rangeFitsLong 1 && Builtin.Range.rangeFitsLong (-1) && Builtin.Range.rangeFitsLong (0 - 1) && Builtin.Range.rangeFitsLong (Builtin.Range.rangeSize 0 n 1))) = true := by rw [hs]; decide
    wp_walk
    rw [if_pos hs, if_neg hs']
    wp_walk
    exact ⟨_, rfl, h⟩

theorem sub_ri_reversed : isSubtype (.type "range_iterator") (.type "reversed") = pure false := by rw [isSubtype_type]; kernel_rfl
set_option maxRecDepth 100000 in
theorem code_reversed_range {prog : Program} {w : World} {A : Around} {E : Value → Shared → Prop} {s : Shared} {r : Addr} {n : Int} {t u v : Tok} {Q₁ : Value → Shared → Prop} (hl : IsRange s.heap r 0 n 1 t u v)
    (hs : (Builtin.Range.rangeFitsLong 0 && Builtin.Range.rangeFitsLong n && Builtin.Range.rangeFitsLong 1 && Builtin.Range.rangeFitsLong (-1) && Builtin.Range.rangeFitsLong (0 - 1) && Builtin.Range.rangeFitsLong (Builtin.Range.rangeSize 0 n 1)) = true)
    (h : Q₁ (.ref s.heap.objs.size) { s with heap := s.heap.push { cls := Value.type "range_iterator", data := Data.fields #[rawInt (0 + (Builtin.Range.rangeSize 0 n 1 - 1) * 1), rawInt (Builtin.Range.rangeSize 0 n 1), rawInt (-1)] } }) :
    codeAny (model prog w) A (.call (.builtin "reversed.__new__") ⟨[.type "reversed", .ref r], []⟩) (wants Q₁ E) s := by
  have hT : s.TypeIs (.ref r) "range" := ⟨_, hl, rfl⟩
  refine codeAny_of_tree ?_
  show wpAny _ A.in1 (do checkBuiltinCall "reversed.__new__" ⟨[.type "reversed", .ref r], []⟩; again (.builtin "reversed.__new__" ⟨[.type "reversed", .ref r], []⟩)) _ _ s
  refine wpAny_bind (wpAny_of_eq (F.newCall_reversed_1 _) (wpAny_pure ⟨plainId_quiet F.plain_reversed_new _, codeAny_builtin F.entry_reversed_new ?_⟩))
  rw [Around.under_plainId F.plain_reversed_new _]
  unfold Builtin.«reversed.__new__»
  refine wpAny_bind (wpAny_of_eq (newClass_reversed _) ?_)
  try dsimp only
  refine wpAny_bind (wpAny_of_eq (a := ()) (by first | rfl | kernel_rfl) ?_)
  refine wpAny_bind (wpAny_of_eq (a := ()) (by first | rfl | kernel_rfl) ?_)
  try dsimp only
  refine wpAny_bind (wpAny_specialOf hT F.slot_range_reversed.lookup ?_)
  try dsimp only
  refine wpAny_bind (wpAny_of_eq (F.slot_range_reversed.bind _) ?_)
  try dsimp only
  first
  | rw [if_neg (show ¬ ((Value.builtin "range.__reversed__" == Value.none) = true) from Bool.false_ne_true)]
  | (show wpAny _ _ (if (Value.builtin "range.__reversed__" == Value.none) = true then _ else _) _ _ _; rw [if_neg (show ¬ ((Value.builtin "range.__reversed__" == Value.none) = true) from Bool.false_ne_true)])
  refine wpAny_bind (wpAny_rule ?_)
  refine wpAny_bind (m := runValue (.call (.builtin "range.__reversed__") ⟨[.ref r], []⟩)) (show wpAny _ _ (call (.builtin "range.__reversed__") [.ref r]) _ _ _ from
    call_meets F.slot_range_reversed hT F.entry_range_reversed (F.args_range_reversed_1 _) (range_rev r n t u v hs) ⟨hl, ?_⟩)
  first
  | exact wpAny_pure h
  | exact wpAny_bind (wpAny_pure (wpAny_pure h))

theorem range_fits {n : Int} (h0 : 0 ≤ n) (h1 : n < 1000) : (Builtin.Range.rangeFitsLong 0 && Builtin.Range.rangeFitsLong n && Builtin.Range.rangeFitsLong 1 && Builtin.Range.rangeFitsLong (-1) && Builtin.Range.rangeFitsLong (0 - 1) && Builtin.Range.rangeFitsLong (Builtin.Range.rangeSize 0 n 1)) = true ∧ Builtin.Range.rangeSize 0 n 1 = n := by
  have e : Builtin.Range.rangeSize 0 n 1 = n := by rw [rangeSize_one]; split <;> omega
  refine ⟨?_, e⟩
  rw [e]
  simp only [Builtin.Range.rangeFitsLong, Bool.and_eq_true, decide_eq_true_eq]
  omega

/-- range(n) -/
noncomputable def iRange (f : ASt → Option AVal) (st : ASt) : Option (List AVal) := (f st).bind fun a => a.int?.bind fun n => if 0 ≤ n ∧ n < 1000 then some ((List.range n.toNat).map fun (i : Nat) => .int (i : Int)) else none
theorem ri_range {k : Nat} {x : Str} {xp pos : Pos} {e : Expr} {f : ASt → Option AVal} (h0 : RP Z S k (.Name x xp) (fun _ => some (.cst (.type "range")))) (R : RP Z S k e f) (hst : ∀ env, starEach [e] env = [(false, eval e env)]) : RI Z S k false (.Call (.Name x xp) [e] [] pos) (iRange f) := by
  intro A env own D γ st s xs E hf r hr
  obtain ⟨a, q1, f1⟩ := bind_some hf
  obtain ⟨n, q2, f2⟩ := bind_some f1
  obtain ⟨hn, f3⟩ := ite_some f2
  cases f3
  obtain rfl := int?_some q2
  refine callName1 h0 (keep_type _) hst r hr fun s1 k1 => R.use q1 (r.keeps' k1) hr fun v s2 k2 v2 => ⟨((r.keeps' k1).keeps' k2).base, ?_⟩
  obtain ⟨t, rfl⟩ := vrel_int v2
  refine call_range_1 ?_
  obtain ⟨m, rfl⟩ := Int.eq_ofNat_of_zero_le hn.1
  have w2 := ((r.keeps' k1).keeps' k2).wd
  have hsz : (s2.heap.push { cls := .type "range", data := .fields #[.int 0 s2.toks, .int (m : Int) t, .int 1 (s2.toks + 1)] }).objs.size = s2.heap.objs.size + 1 := Heap.size_push ..
  refine wpAny_pyIter_range (IsRange.new ..) (small_one (by decide) (by decide) (by omega) (by omega)) ?_
  have e1 : Builtin.Range.rangeSize 0 (m : Int) 1 = m := (range_fits hn.1 hn.2).2
  rw [e1]
  show ItAt Z A D γ s _ false (.ref (s2.heap.push _).objs.size) _
  rw [hsz]
  have hI : s2.heap.get? (s2.heap.objs.size + 1) = none := none_of_size (Nat.le_succ _)
  have k3 : ∀ b o, s2.heap.get? b = some o → ((s2.heap.push { cls := .type "range", data := .fields #[.int 0 s2.toks, .int (m : Int) t, .int 1 (s2.toks + 1)] }).push { cls := .type "range_iterator", data := .fields #[rawInt 0, rawInt (m : Int), rawInt 1] }).get? b = some o := fun b o e => Heap.get?_push_of_some _ (Heap.get?_push_of_some _ e)
  have hIt : ((s2.heap.push { cls := .type "range", data := .fields #[.int 0 s2.toks, .int (m : Int) t, .int 1 (s2.toks + 1)] }).push { cls := .type "range_iterator", data := .fields #[rawInt 0, rawInt (m : Int), rawInt 1] }).get? (s2.heap.objs.size + 1) = some { cls := .type "range_iterator", data := .fields #[rawInt 0, rawInt (m : Int), rawInt 1] } := by
    rw [← hsz]; exact Heap.get?_push_size _ rfl
  have W := (Walks.range (prog := Z.prog) (w := Z.w) hr.handled (s2.heap.objs.size + 1) 0 1 m).bound
  have e2 : m = ((List.range ((m : Int)).toNat).map fun (i : Nat) => AVal.int (i : Int)).length := by simp
  refine ⟨(k1.trans k2).trans ⟨_, _, rfl, k3⟩, _, rfl, (k1.trans k2).free hI, s2.heap, [s2.heap.objs.size + 1], _, _, ⟨hI, k3⟩, (by rw [← e2]; exact W), by rw [← e2]; omega, ?_, (fun i h hst => ⟨_, hst⟩), w2.fresh hI, ?_, ?_, (fun h => nomatch h)⟩
  · show _ = _
    rw [hIt]; simp
  · intro b hb
    rw [List.mem_singleton.mp hb]
    exact ⟨.inl (w2.fresh hI), _, hIt⟩
  · rintro i v ⟨hi, t, rfl⟩
    refine ⟨.int (i : Int), ?_, ?_⟩
    · rw [List.getElem?_map, List.getElem?_range (by simpa using hi)]; rfl
    · rw [show (0 : Int) + (i : Int) * 1 = i by omega]; exact .int _ _

/-- reversed(range(n)) -/
noncomputable def iRev (f : ASt → Option AVal) (st : ASt) : Option (List AVal) := (f st).bind fun a => a.int?.bind fun n => if 0 ≤ n ∧ n < 1000 then some ((List.range n.toNat).map fun (i : Nat) => .int (n - 1 - (i : Int))) else none
theorem ri_rev {k : Nat} {x y : Str} {xp yp pos pos' : Pos} {e : Expr} {f : ASt → Option AVal} (hx : RP Z S k (.Name x xp) (fun _ => some (.cst (.type "reversed")))) (h0 : RP Z S k (.Name y yp) (fun _ => some (.cst (.type "range")))) (R : RP Z S k e f) (hst : ∀ env, starEach [e] env = [(false, eval e env)]) :
    RI Z S k false (.Call (.Name x xp) [.Call (.Name y yp) [e] [] pos'] [] pos) (iRev f) := by
  intro A env own D γ st s xs E hf r hr
  obtain ⟨a, q1, f1⟩ := bind_some hf
  obtain ⟨n, q2, f2⟩ := bind_some f1
  obtain ⟨hn, f3⟩ := ite_some f2
  cases f3
  obtain rfl := int?_some q2
  refine callName1 hx (keep_type _) (fun _ => rfl) r hr fun s0 k0 => callName1 h0 (keep_type _) hst (r.keeps' k0) hr fun s1 k1 => R.use q1 ((r.keeps' k0).keeps' k1) hr fun v s2 k2 v2 => ⟨(((r.keeps' k0).keeps' k1).keeps' k2).base, ?_⟩
  obtain ⟨t, rfl⟩ := vrel_int v2
  have w2 := (((r.keeps' k0).keeps' k1).keeps' k2).wd
  refine call_range_1 ?_
  obtain ⟨m, rfl⟩ := Int.eq_ofNat_of_zero_le hn.1
  have hsz : (s2.heap.push { cls := .type "range", data := .fields #[.int 0 s2.toks, .int (m : Int) t, .int 1 (s2.toks + 1)] }).objs.size = s2.heap.objs.size + 1 := Heap.size_push ..
  refine ⟨fun b o e => Heap.get?_push_of_some _ (w2.base b o e), ?_⟩
  obtain ⟨fit, e1⟩ := range_fits hn.1 hn.2
  refine callType_other (U := "range_iterator") (Q₁ := fun obj s₁ => obj = .ref (s2.heap.objs.size + 1) ∧ s₁ = { s2 with heap := (s2.heap.push { cls := .type "range", data := .fields #[.int 0 s2.toks, .int (m : Int) t, .int 1 (s2.toks + 1)] }).push { cls := .type "range_iterator", data := .fields #[rawInt (0 + ((m : Int) - 1) * 1), rawInt (m : Int), rawInt (-1)] }, toks := s2.toks + 1 + 1 })
    (by decide +kernel) F.create_reversed ⟨_, _, F.mro_reversed⟩ F.made_reversed sub_ri_reversed (F.typeCall_reversed_1 _) (code_reversed_range (IsRange.new ..) fit ⟨by rw [hsz], by rw [e1]⟩) ?_
  rintro obj s₁ ⟨rfl, rfl⟩
  have hIt : ((s2.heap.push { cls := .type "range", data := .fields #[.int 0 s2.toks, .int (m : Int) t, .int 1 (s2.toks + 1)] }).push { cls := .type "range_iterator", data := .fields #[rawInt (0 + ((m : Int) - 1) * 1), rawInt (m : Int), rawInt (-1)] }).get? (s2.heap.objs.size + 1) = some { cls := .type "range_iterator", data := .fields #[rawInt (0 + ((m : Int) - 1) * 1), rawInt (m : Int), rawInt (-1)] } := by
    rw [← hsz]; exact Heap.get?_push_size _ rfl
  have k3 : ∀ b o, s2.heap.get? b = some o → ((s2.heap.push { cls := .type "range", data := .fields #[.int 0 s2.toks, .int (m : Int) t, .int 1 (s2.toks + 1)] }).push { cls := .type "range_iterator", data := .fields #[rawInt (0 + ((m : Int) - 1) * 1), rawInt (m : Int), rawInt (-1)] }).get? b = some o := fun b o e => Heap.get?_push_of_some _ (Heap.get?_push_of_some _ e)
  refine ⟨⟨_, hIt, rfl⟩, ?_⟩
  have hI : s2.heap.get? (s2.heap.objs.size + 1) = none := none_of_size (Nat.le_succ _)
  have W := (Walks.range (prog := Z.prog) (w := Z.w) hr.handled (s2.heap.objs.size + 1) (0 + ((m : Int) - 1) * 1) (-1) m).bound
  have e2 : m = ((List.range ((m : Int)).toNat).map fun (i : Nat) => AVal.int ((m : Int) - 1 - (i : Int))).length := by simp
  have hst0 : IsRangeIter ((s2.heap.push { cls := .type "range", data := .fields #[.int 0 s2.toks, .int (m : Int) t, .int 1 (s2.toks + 1)] }).push { cls := .type "range_iterator", data := .fields #[rawInt (0 + ((m : Int) - 1) * 1), rawInt (m : Int), rawInt (-1)] }) (s2.heap.objs.size + 1) (0 + ((m : Int) - 1) * 1 + ((0 : Nat) : Int) * (-1)) ((m : Int) - ((0 : Nat) : Int)) (-1) := by
    show _ = _
    rw [hIt]; simp
  refine W.self 0 _ _ _ hst0 ?_
  refine ⟨((k0.trans k1).trans k2).trans ⟨_, _, rfl, k3⟩, _, rfl, ((k0.trans k1).trans k2).free hI, s2.heap, [s2.heap.objs.size + 1], _, (fun i h => IsRangeIter h (s2.heap.objs.size + 1) (0 + ((m : Int) - 1) * 1 + ((i : Nat) : Int) * (-1)) ((m : Int) - ((i : Nat) : Int)) (-1)), ⟨hI, k3⟩, (by rw [← e2]; exact W), by rw [← e2]; omega, hst0, (fun i h hst => ⟨_, hst⟩), w2.fresh hI, ?_, ?_, (fun h => nomatch h)⟩
  · intro b hb
    rw [List.mem_singleton.mp hb]
    exact ⟨.inl (w2.fresh hI), _, hIt⟩
  · rintro i v ⟨hi, t, rfl⟩
    refine ⟨.int ((m : Int) - 1 - (i : Int)), ?_, ?_⟩
    · rw [List.getElem?_map, List.getElem?_range (by simpa using hi)]; rfl
    · rw [show 0 + ((m : Int) - 1) * 1 + (i : Int) * (-1) = (m : Int) - 1 - i by omega]; exact .int _ _
end
end Mine

end
section

namespace Mine
section
variable {Z : Amb} {S : Sx}

/-! a call that looks at cells and changes none -/
noncomputable def thawV (cs : List ACell) (a : AVal) : Option AVal := match a.cell? with
  | some i => cs[i]?.bind fun c => c.lst?.bind fun xs => if underAllB 0 xs = true then some (.lst xs) else none
  | none => if a.underB 0 = true then some a else none
noncomputable def thawAll (cs : List ACell) : List AVal → Option (List AVal)
  | [] => some []
  | a :: as => (thawV cs a).bind fun b => (thawAll cs as).bind fun bs => some (b :: bs)

/-- a cell that is no dict, and stands -/
noncomputable def ACell.noD : ACell → Bool
  | .lst _ => true
  | .itL _ _ => true
  | .itB _ _ => true
  | _ => false
noncomputable def pCallV (fa : Addr) (F : DefF) (ff : ASt → Option AVal) (f g : ASt → Option (List AVal)) (st : ASt) : Option AVal :=
  (ff st).bind fun fv => (f st).bind fun as => (g st).bind fun bs => (thawAll st.cells (as ++ bs)).bind fun cs => match fv with
    | .cst (.ref b) => if b = fa ∧ (st.cells.all ACell.noD) = true then (F [] cs).bind fun p => p.1.dct?.bind fun es => some (.dct es) else none
    | _ => none

theorem offγ {D γ : List Addr} {d : Addr} (h : d ∈ D.filter fun x => decide (x ∉ γ)) : d ∈ D ∧ d ∉ γ := ⟨(List.mem_filter.mp h).1, of_decide_eq_true (List.mem_filter.mp h).2⟩
theorem thawV_wp {h : Heap} {D γ : List Addr} {cs : List ACell} {v : Value} {a b : AVal} (w : Wd Z D γ cs h) (hv : VRel Z h D γ v a) (ht : thawV cs a = some b) : VRel Z h (D.filter fun x => decide (x ∉ γ)) [] v b := by
  unfold thawV at ht
  split at ht
  · rename_i i q
    obtain rfl := cell?_some q
    obtain ⟨c, q2, t1⟩ := bind_some ht
    obtain ⟨xs, q3, t2⟩ := bind_some t1
    obtain ⟨hu, t3⟩ := ite_some t2
    cases t3
    obtain rfl := clst?_some q3
    obtain ⟨l, rfl, hi⟩ := vrel_cell hv
    obtain ⟨vs, hp, hvs⟩ := cell_lst (w.cells.2 i l _ hi q2)
    exact .lst (fun hm => (offγ hm).2 (List.mem_of_getElem? hi)) hp (VRels.shrink (γ := []) (ex := γ) (fun d hd => (offγ hd).1) hvs (underAll_of hu))
  · obtain ⟨hu, t3⟩ := ite_some ht
    cases t3
    exact VRel.shrink (γ := []) (ex := γ) (fun d hd => (offγ hd).1) hv (under_of hu)
theorem thawAll_wp {h : Heap} {D γ : List Addr} {cs : List ACell} (w : Wd Z D γ cs h) : ∀ {vs : List Value} {as bs : List AVal}, VRels Z h D γ vs as → thawAll cs as = some bs → VRels Z h (D.filter fun x => decide (x ∉ γ)) [] vs bs
  | _, [], _, hv, ht => by cases ht; obtain rfl := vrels_nil hv; exact .nil
  | _, a :: as, _, hv, ht => by
    obtain ⟨b, q1, t1⟩ := bind_some ht
    obtain ⟨bs, q2, t2⟩ := bind_some t1
    cases t2
    obtain ⟨v, vs', rfl, h1, h2⟩ := vrels_cons hv
    exact .cons (thawV_wp w h1 q1) (thawAll_wp w h2 q2)

theorem rp_callv {k k' fa : Nat} {x : Str} {xp pos : Pos} {es : List Expr} {ks : List Keyword} {kws : List Str} {ff : ASt → Option AVal} {f g : ASt → Option (List AVal)} {F : DefF} (H : RC Z k' fa kws F) (hkk : k' ≤ k) (hkp : keepIn Z.K (.ref fa) = true)
    (h0 : RP Z S k (.Name x xp) ff) (h1 : RPs Z S k es f) (h2 : RKs Z S k ks g) (hall : ks.all (·.arg.isSome) = true) (hkw : ks.filterMap (·.arg) = kws) (sh : ArgSh es f) (hgl : ∀ st bs, g st = some bs → bs.length = kws.length) :
    RP Z S k (.Call (.Name x xp) es ks pos) (pCallV fa F ff f g) := by
  intro A env own D γ st s a E hf r hr
  obtain ⟨fv, q0, f1⟩ := bind_some hf
  obtain ⟨as, q1, f2⟩ := bind_some f1
  obtain ⟨bs, q2, f3⟩ := bind_some f2
  obtain ⟨ts, q3, f4⟩ := bind_some f3
  clear hf f1 f2 f3
  split at f4
  case h_2 => cases f4
  rename_i b
  obtain ⟨hc, f5⟩ := ite_some f4
  obtain ⟨rfl, hcd⟩ := hc
  obtain ⟨p, q4, f6⟩ := bind_some f5
  obtain ⟨ees, q5, f7⟩ := bind_some f6
  cases f7
  obtain ⟨rr, cs'⟩ := p
  obtain rfl := dct?_some q5
  refine callName h0 h1 h2 hall sh.sh sh.ns q0 q1 q2 r hr (keep_fn hkp) fun vs kvs s' k1 v1 v2 => ?_
  rw [hkw]
  have w1 := (r.keeps' k1).wd
  have w0 : Wd Z (D.filter fun x => decide (x ∉ γ)) [] [] s'.heap := ⟨w1.base, fun d hd => w1.live d (offγ hd).1, (fun a h => nomatch h), .nil, rfl, fun i a c h1 _ => by simp at h1⟩
  refine wpAny_mono (H q4 (thawAll_wp w1 (v1.append v2) q3) (by rw [v2.length]; exact hgl _ _ q2) w0 (hr.mono hkk)) (fun v s2 h => ?_) fun _ _ x => x
  obtain ⟨⟨h', tk, rfl, k2⟩, _, h3⟩ := h
  have kk : Kp s' { s' with heap := h', toks := tk } := ⟨h', tk, rfl, (fun b o e => k2 b o (fun h => nomatch h) e)⟩
  refine ⟨k1.trans kk, ?_⟩
  obtain ⟨c, kvs', rfl, hcD, hn, hd, hvs⟩ := vrel_dct h3
  refine .dct (fun hm => ?_) hn hd hvs
  by_cases hγ : c ∈ γ
  · obtain ⟨i, hi⟩ := List.mem_iff_getElem?.mp hγ
    obtain ⟨cc, hcc, hcr⟩ := w1.cells.at hi
    have hnd := List.all_eq_true.mp hcd cc (List.mem_of_getElem? hcc)
    obtain ⟨o, ho, hcls⟩ := hd.typeIs (s := { s' with heap := h', toks := tk })
    cases hcr with
    | lst hp _ =>
      obtain ⟨n, e⟩ := hp
      have := kk.get e
      rw [ho] at this; cases this
      exact absurd (Value.type.inj hcls) (by decide)
    | dct => cases hnd
    | dead => cases hnd
    | itL hi _ _ _ =>
      obtain ⟨o', e, hc', _⟩ := hi
      have := kk.get e
      rw [ho] at this; cases this
      rw [hcls] at hc'
      exact absurd (Value.type.inj hc') (by decide)
    | itB hi =>
      obtain ⟨o', e, hc', _⟩ := hi
      have := kk.get e
      rw [ho] at this; cases this
      rw [hcls] at hc'
      exact absurd (Value.type.inj hc') (by decide)
  · exact hcD (List.mem_filter.mpr ⟨hm, decide_eq_true hγ⟩)

/-! try, when nothing is raised -/
theorem rs_try {k : Nat} {b o : List Stmt} {h₀ : ExceptHandler} {hs : List ExceptHandler} {pos : Pos} {f g : AS} (h1 : RSs Z S k b f) (h2 : RSs Z S k o g) : RSt Z S k (.Try b (h₀ :: hs) o [] pos) (sSeq f g) := by
  intro A env own D γ st s fl st' E hf r hr
  unfold sSeq at hf
  refine wpAny_Try_except ?_
  cases q : f st with
  | none => rw [q] at hf; cases hf
  | some p =>
    obtain ⟨fl1, st1⟩ := p
    refine wpAny_mono (h1 q r hr) (fun x s1 ha => ?_) fun _ _ x => x
    obtain ⟨ex, hc, hex, r1, hfl⟩ := ha
    rw [q] at hf
    cases hfl with
    | next =>
      dsimp only at hf ⊢
      exact wpAny_mono (h2 hf r1 hr) (fun y s2 hb => After.trans hc hex r1 hb) fun _ _ x => x
    | brk => cases hf; exact ⟨ex, hc, hex, r1, .brk⟩
    | cont => cases hf; exact ⟨ex, hc, hex, r1, .cont⟩
    | ret hv => cases hf; exact ⟨ex, hc, hex, r1, .ret hv⟩

/-! iter(x) -/
theorem call_iter1 {A : Around} {s : Shared} {E : Value → Shared → Prop} {Q : Value → Shared → Prop} {v : Value} (h : wpAny Z.M A.in1 (pyIter v) Q E s) : wpAny Z.M A (call (.builtin "iter") [v]) Q E s := by
  refine call_function_entry (by decide +kernel) (by decide +kernel) kdk_entry_iter (kdk_args_iter _) ?_
  unfold Builtin.«iter»
  refine wpAny_bind (m := someArgs "iter" 1 2 _) (wpAny_of_eq (a := [v]) (by first | rfl | kernel_rfl!) ?_)
  show wpAny _ _ (pyIter v >>= _) _ _ _
  exact wpAny_bind (wpAny_mono h (fun u s' h' => wpAny_pure ⟨_, rfl, h'⟩) fun _ _ e => e)

noncomputable def nIter (f : ASt → Option AVal) (st : ASt) : Option ACell := (f st).bind fun a => match a.lst? with
  | some xs => if xs.length < 1000 then some (.itL xs 0) else none
  | none => a.bytes?.bind fun b => if b.length < 1000 then some (.itB b 0) else none
theorem rn_iter {k : Nat} {x : Str} {xp pos : Pos} {e : Expr} {f : ASt → Option AVal} (h0 : RP Z S k (.Name x xp) (fun _ => some (.cst (.builtin "iter")))) (R : RP Z S k e f) (hst : ∀ env, starEach [e] env = [(false, eval e env)]) : RN Z S k (.Call (.Name x xp) [e] [] pos) (nIter f) := by
  intro A env own D γ st s c E hf r hr
  obtain ⟨a, q1, f1⟩ := bind_some hf
  refine callName1 h0 (keep_builtin _) hst r hr fun s1 k1 => R.use q1 (r.keeps' k1) hr fun v s2 k2 v2 => ⟨((r.keeps' k1).keeps' k2).base, call_iter1 ?_⟩
  have w2 := ((r.keeps' k1).keeps' k2).wd
  have hfr : s2.heap.get? s2.heap.objs.size = none := none_of_size (Nat.le_refl _)
  split at f1
  · rename_i xs q2
    obtain ⟨hlt, f2⟩ := ite_some f1
    cases f2
    obtain rfl := lst?_some q2
    obtain ⟨l, vs, rfl, hl, hp, hvs⟩ := vrel_lst v2
    refine wpAny_pyIter_list hp.isList ?_
    have k3 : Kp s2 { s2 with heap := s2.heap.push { cls := .type "list_iterator", data := .fields #[.ref l, .int 0 0] } } := ⟨_, _, rfl, fun b o e => Heap.get?_push_of_some _ e⟩
    refine ⟨_, rfl, (k1.trans k2).trans k3, (k1.trans k2).free hfr, .itL ⟨_, Heap.get?_push_size _ rfl, rfl, rfl⟩ (fun hm => ?_) (hp.at fun o e => k3.get e) ((hvs.grow (snocD hfr)).keeps fun _ _ e => k3.get e)⟩
    rcases List.mem_append.mp hm with hm | hm
    · exact hl hm
    · obtain ⟨n, e⟩ := hp
      rw [List.mem_singleton.mp hm, hfr] at e; cases e
  · obtain ⟨b, q2, f2⟩ := bind_some f1
    obtain ⟨hlt, f3⟩ := ite_some f2
    cases f3
    obtain rfl := bytes?_some q2
    obtain ⟨b, t, rfl, rfl⟩ := vrel_bytes v2
    refine KBw.pyIter_bytes ?_
    exact ⟨_, rfl, (k1.trans k2).trans ⟨_, _, rfl, fun b o e => Heap.get?_push_of_some _ e⟩, (k1.trans k2).free hfr, .itB ⟨_, Heap.get?_push_size _ rfl, rfl, rfl⟩⟩
end
end Mine

end
section

namespace Mine
section
variable {Z : Amb} {S : Sx}

/-! names, by checks -/
noncomputable def chkLoc (S : Sx) (i : Nat) (x : Str) : Bool := S.vars[i]? == some x && (S.sc.names.lookup x == some .local || S.sc.names.lookup x == some .cell || S.sc.names.lookup x == some .free) && !(x == ("__debug__" : Str)) && !(x == ("__classdict__" : Str))
theorem use_loc {i : Nat} {x : Str} {pos : Pos} (h : chkLoc S i x = true) {A : Around} {env : Env} {own D γ : List Addr} {st : ASt} {s : Shared} {a : AVal} {E : Value → Shared → Prop} {Q : Value → Shared → Prop} (hf : ldv i st = some a) (r : Rel Z S env own D γ st s.heap) (k : ∀ v, VRel Z s.heap D γ v a → Q v s) : wpAny Z.M A (eval (.Name x pos) env) Q E s := by
  unfold chkLoc at h
  simp only [Bool.and_eq_true, Bool.not_eq_true', Bool.or_eq_true, beq_iff_eq] at h
  obtain ⟨⟨⟨h1, h2⟩, h3⟩, h4⟩ := h
  have hk : ∃ kd, S.sc.names.lookup x = some kd ∧ (kd = .local ∨ kd = .cell ∨ kd = .free) := by
    rcases h2 with (h2 | h2) | h2
    · exact ⟨_, h2, .inl rfl⟩
    · exact ⟨_, h2, .inr (.inl rfl)⟩
    · exact ⟨_, h2, .inr (.inr rfl)⟩
  obtain ⟨kd, hk, hkd⟩ := hk
  exact wpAny_Name (loadVar h1 hk hkd h4 hf r k) h3
theorem rp_loc' {k i : Nat} {x : Str} {pos : Pos} (h : chkLoc S i x = true) : RP Z S k (.Name x pos) (ldv i) := fun hf r _ => use_loc h hf r fun _ rv => ⟨Kp.refl _, rv⟩
noncomputable def chkSt (S : Sx) (i : Nat) (x : Str) : Bool := S.vars[i]? == some x && (S.sc.names.lookup x == some .local || (S.sc.names.lookup x == some .cell && S.wv.contains x)) && !(x == ("__classdict__" : Str))
inductive ChkSt (S : Sx) (i : Nat) (x : Str) : Prop
  | mk (kd : NameKind) (h1 : S.vars[i]? = some x) (h2 : S.sc.names.lookup x = some kd) (h3 : kd = .local ∨ (kd = .cell ∧ x ∈ S.wv)) (h4 : (x == ("__classdict__" : Str)) = false)
theorem chkSt_ok {i : Nat} {x : Str} (h : chkSt S i x = true) : ChkSt S i x := by
  unfold chkSt at h
  simp only [Bool.and_eq_true, Bool.or_eq_true, Bool.not_eq_true', beq_iff_eq] at h
  obtain ⟨⟨h1, h2⟩, h3⟩ := h
  rcases h2 with h2 | ⟨h2, h4⟩
  · exact ⟨_, h1, h2, .inl rfl, h3⟩
  · exact ⟨_, h1, h2, .inr ⟨rfl, List.contains_iff_mem.mp h4⟩, h3⟩
noncomputable def chkGl (S : Sx) (x : Str) : Bool := S.sc.names.lookup x == some .globalImplicit && !(x == ("__debug__" : Str)) && !(x == ("__name__" : Str))
theorem chkGl_ok {x : Str} (h : chkGl S x = true) : S.sc.names.lookup x = some .globalImplicit ∧ (x == ("__debug__" : Str)) = false ∧ x ≠ "__name__" := by
  unfold chkGl at h
  simp only [Bool.and_eq_true, Bool.not_eq_true', beq_iff_eq, beq_eq_false_iff_ne] at h
  exact ⟨h.1.1, by rw [beq_eq_false_iff_ne]; exact h.1.2, h.2⟩
theorem rp_globK {k : Nat} {x : Str} {pos : Pos} {v : Value} (h : chkGl S x = true) (e : nsIn Z.K mainGlobals x = some (some v)) : RP Z S k (.Name x pos) (fun _ => some (.cst v)) :=
  let ⟨h1, h2, _⟩ := chkGl_ok h; rp_glob h1 (mg_of Z.X Z.g e) h2
theorem rp_globBK {k : Nat} {x : Str} {pos : Pos} {b : Array UInt8} {t : Tok} {l : List Nat} (h : chkGl S x = true) (e : nsIn Z.K mainGlobals x = some (some (.bytes b t))) (hl : toNats b = l) : RP Z S k (.Name x pos) (fun _ => some (.bytes l)) :=
  let ⟨h1, h2, _⟩ := chkGl_ok h; hl ▸ rp_globB h1 (mg_of Z.X Z.g e) h2
theorem rp_bltK {k : Nat} {x : Str} {pos : Pos} {v : Value} (h : chkGl S x = true) (e : nsIn Z.K mainGlobals x = some none) (hv : bootBuiltins x = some v) : RP Z S k (.Name x pos) (fun _ => some (.cst v)) :=
  let ⟨h1, h2, h3⟩ := chkGl_ok h; rp_blt h1 (mg_none_of Z.X Z.g e) hv h3 h2

/-! statements, by checks -/
theorem rs_assign' {k i : Nat} {x : Str} {p pos : Pos} {e : Expr} {f : ASt → Option AVal} (R : RP Z S k e f) (h : chkSt S i x = true) (hs : ∀ env, env.scope = S.sc → swapsWith e (some (.Name x p)) pos.line env = pure false) : RSt Z S k (.Assign [.Name x p] e pos) (sAssign i f) := by
  obtain ⟨kd, hi, hk, hkd, _⟩ := chkSt_ok h
  intro A env own D γ st s fl st' E hf r hr
  unfold sAssign at hf
  cases q : f st with
  | none => rw [q] at hf; cases hf
  | some a =>
    rw [q] at hf; cases hf
    refine wpAny_Assign_Name (R.use q r hr fun v s1 k1 v1 => storeVar hi hk hkd (r.keeps' k1) v1 fun s2 c2 r2 => ?_) (hs env r.esc)
    exact .of_keep ((k1.chg _).trans c2 fun b hb => .inl (List.mem_append_left _ hb)) r2 .next
theorem rs_new' {k i : Nat} {x : Str} {p pos : Pos} {e : Expr} {f : ASt → Option ACell} (R : RN Z S k e f) (h : chkSt S i x = true) (hs : ∀ env, swapsWith e (some (.Name x p)) pos.line env = pure false) : RSt Z S k (.Assign [.Name x p] e pos) (sNew i f) :=
  let ⟨_, hi, hk, hkd, _⟩ := chkSt_ok h; rs_new R hi hk hkd hs
theorem rs_aug' {k i : Nat} {x : Str} {p pos : Pos} {op : Operator} {e : Expr} {g : Op2} {f : ASt → Option AVal} (R : RP Z S k e f) (hg : ROp Z k (inplaceOp op) g) (h : chkSt S i x = true) : RSt Z S k (.AugAssign (.Name x p) op e pos) (sAug i g f) :=
  let ⟨_, hi, hk, hkd, hc⟩ := chkSt_ok h; rs_aug R hg hi hk hkd hc
theorem rs_unp' {k i j n : Nat} {x y : Str} {p q tp pos : Pos} {e : Expr} {f : ASt → Option AVal} (R : RP Z S k e f) (hx : chkSt S i x = true) (hy : chkSt S j y = true) (hs : ∀ env, swapsWithSole [.Tuple [.Name x p, .Name y q] n tp] e pos.line env = pure false)
    (hw : ∀ env, env.scope = S.sc → swappedStores [.Tuple [.Name x p, .Name y q] n tp] e env = pure none) : RSt Z S k (.Assign [.Tuple [.Name x p, .Name y q] n tp] e pos) (sUnp i j f) :=
  let ⟨_, hi, hk, hkd, _⟩ := chkSt_ok hx; let ⟨_, hj, hl, hke, _⟩ := chkSt_ok hy; rs_unp R hi hk hkd hj hl hke hs hw
theorem tgt_name' {tup : Bool} {i : Nat} {x : Str} {p : Pos} (h : chkSt S i x = true) : RTgt Z S tup (.Name x p) (tgName i) := let ⟨_, hi, hk, hkd, _⟩ := chkSt_ok h; tgt_name hi hk hkd
theorem tgt_pair' {i j : Nat} {x y : Str} {p q pos : Pos} {n : Nat} (hx : chkSt S i x = true) (hy : chkSt S j y = true) : RTgt Z S true (.Tuple [.Name x p, .Name y q] n pos) (tgPair i j) :=
  let ⟨_, hi, hk, hkd, _⟩ := chkSt_ok hx; let ⟨_, hj, hl, hke, _⟩ := chkSt_ok hy; tgt_pair hi hk hkd hj hl hke

/-! comprehensions, by checks -/
noncomputable def compS (scope : Scope) (S : Sx) (vars wv : List Str) : Sx := ⟨relabelS scope S.sc, vars, wv⟩
noncomputable def isCap (sc : Scope) (x : Str) : Bool := sc.names.lookup x == some .cell || sc.names.lookup x == some .free
noncomputable def chkComp (scope : Scope) (S : Sx) (vars wv : List Str) (nt : Nat) (caps : List Nat) : Bool :=
  scope.kind == .function && decide vars.Nodup && decide (scope.names.map (·.1)).Nodup && (vars.take nt).all (fun x => !(scope.names.lookup x == some .free)) &&
  ((vars.drop nt) == caps.map fun j => S.vars[j]?.getD Str.empty) && caps.all (fun j => decide (j < S.vars.length)) && (vars.drop nt).all (fun x => scope.names.lookup x == some .free && isCap S.sc x) &&
  vars.length == nt + caps.length && wv.all (fun x => scope.names.lookup x == some .cell) && scope.names.all (fun x => !(x.2 == .free) || (S.vars.contains x.1 && isCap S.sc x.1))
theorem isCap_ok {sc : Scope} {x : Str} (h : isCap sc x = true) : sc.names.lookup x = some .cell ∨ sc.names.lookup x = some .free := by
  unfold isCap at h
  simpa only [Bool.or_eq_true, beq_iff_eq] using h
theorem chkComp_ok {scope : Scope} {vars wv : List Str} {nt : Nat} {caps : List Nat} (h : chkComp scope S vars wv nt caps = true) : CompNames scope S (compS scope S vars wv) nt caps := by
  unfold chkComp at h
  simp only [Bool.and_eq_true, beq_iff_eq, decide_eq_true_eq] at h
  obtain ⟨⟨⟨⟨⟨⟨⟨⟨⟨h1, h2⟩, h3⟩, h4⟩, h5⟩, h6⟩, h7⟩, h8⟩, h9⟩, h10⟩ := h
  refine ⟨h1, rfl, h2, h3, fun x hx e => ?_, fun i x hi => ?_, h8, fun x hx => ?_, fun x hx hk => ?_⟩
  · have := List.all_eq_true.mp h4 x hx
    rw [e] at this
    exact absurd this (by decide)
  · have hi' : (vars.drop nt)[i]? = some x := hi
    have h7' := List.all_eq_true.mp h7 x (List.mem_of_getElem? hi')
    rw [Bool.and_eq_true, beq_iff_eq] at h7'
    rw [h5, List.getElem?_map] at hi'
    obtain ⟨j, hj, e⟩ := Option.map_eq_some_iff.mp hi'
    have hlt := of_decide_eq_true (List.all_eq_true.mp h6 j (List.mem_of_getElem? hj))
    rw [List.getElem?_eq_getElem hlt, Option.getD_some] at e
    exact ⟨j, hj, by rw [List.getElem?_eq_getElem hlt, e], h7'.1, isCap_ok h7'.2⟩
  · exact beq_iff_eq.mp (List.all_eq_true.mp h9 x hx)
  · have := List.all_eq_true.mp h10 x hx
    rw [hk] at this
    simp only [beq_self_eq_true, Bool.not_true, Bool.false_or, Bool.and_eq_true] at this
    obtain ⟨j, hj⟩ := List.mem_iff_getElem?.mp (List.contains_iff_mem.mp this.1)
    exact ⟨j, hj, isCap_ok this.2⟩

/-- the names of a comprehension go with its code -/
noncomputable def pCompN (_ _ : List Str) (fi : ASt → Option (List AVal)) (nt : Nat) (caps : List Nat) (σ₀ : ACell) (tg : AVal → ASt → Option ASt) (ci : ASt → Option Bool) (body : CStep) (st : ASt) : Option AVal := pComp fi nt caps σ₀ tg ci body st

theorem turn_list {elt target iter : Expr} {ifs : List Expr} {scope : Scope} {pos : Pos} : TurnSh Z (.ListComp elt [⟨target, iter, ifs, 0⟩] scope pos) 0 iter.pos target ifs (fun acc env => do let _ ← call (.builtin "list.append") [acc, ← eval elt env]) :=
  ⟨fun _ _ _ => rfl, fun _ _ _ => rfl, fun _ _ _ => rfl, fun _ _ _ _ => rfl⟩
theorem turn_dict {kx vx target iter : Expr} {ifs : List Expr} {scope : Scope} {pos : Pos} : TurnSh Z (.DictComp kx vx [⟨target, iter, ifs, 0⟩] scope pos) 0 iter.pos target ifs (fun acc env => do
      let kv ← eval kx env
      let vv ← holding [kv] (eval vx env)
      match acc with
      | .ref d => do
        standAt { kx.pos with endLine := vx.pos.endLine, endCol := vx.pos.endCol }
        holding [kv, vv] (dictSet d kv vv)
      | _ => unsupported "internal:dictcomp") :=
  ⟨fun _ _ _ => rfl, fun _ _ _ => rfl, fun _ _ _ => rfl, fun _ _ _ _ => rfl⟩
theorem turn_list2a {elt t1 i1 t2 i2 : Expr} {c1 c2 : List Expr} {scope : Scope} {pos : Pos} : TurnSh Z (.ListComp elt [⟨t1, i1, c1, 0⟩, ⟨t2, i2, c2, 0⟩] scope pos) 0 i1.pos t1 c1 (fun acc env => do
        let x ← eval i2 env
        standAt i2.pos
        let x ← foldedSetIterable i2 env x
        let _ ← runOwn (.compStart (.ListComp elt [⟨t1, i1, c1, 0⟩, ⟨t2, i2, c2, 0⟩] scope pos) 1 (← holding [x] (pyIter x)) acc env) env) :=
  ⟨fun it acc env => by
    conv => rhs; simp only [bind_assoc, pure_bind]
    rfl, fun _ _ _ => rfl, fun _ _ _ => rfl, fun _ _ _ _ => rfl⟩
theorem turn_list2b {elt t1 i1 t2 i2 : Expr} {c1 c2 : List Expr} {scope : Scope} {pos : Pos} : TurnSh Z (.ListComp elt [⟨t1, i1, c1, 0⟩, ⟨t2, i2, c2, 0⟩] scope pos) 1 i2.pos t2 c2 (fun acc env => do let _ ← call (.builtin "list.append") [acc, ← eval elt env]) :=
  ⟨fun _ _ _ => rfl, fun _ _ _ => rfl, fun _ _ _ => rfl, fun _ _ _ _ => rfl⟩

section
variable {k : Nat} {tup : Bool} {elt kx vx target iter : Expr} {ifs : List Expr} {scope : Scope} {pos : Pos} {vars wv : List Str} {fi : ASt → Option (List AVal)} {nt : Nat} {caps : List Nat} {tg : AVal → ASt → Option ASt} {ci : ASt → Option Bool} {fe fk fv : ASt → Option AVal}
theorem rp_lc1 (N : chkComp scope S vars wv nt caps = true) (Rf : RI Z S k tup iter fi) (Rt : RTgt Z (compS scope S vars wv) tup target tg) (Ri : RIfs Z (compS scope S vars wv) k ifs ci) (Re : RP Z (compS scope S vars wv) k elt fe)
    (hs : ∀ env x, foldedSetIterable iter env x = pure x) : RP Z S k (.ListComp elt [⟨target, iter, ifs, 0⟩] scope pos) (pCompN vars wv fi nt caps (.lst []) tg ci (emitL fe)) :=
  rp_comp (chkComp_ok N) Rf newAcc_list turn_list (start_list rfl) Rt Ri (rbody_list Re) rfl hs (fun _ => eval_ListComp _ _ _ _)
theorem rp_dc1 (N : chkComp scope S vars wv nt caps = true) (Rf : RI Z S k tup iter fi) (Rt : RTgt Z (compS scope S vars wv) tup target tg) (Ri : RIfs Z (compS scope S vars wv) k ifs ci) (Rk : RP Z (compS scope S vars wv) k kx fk) (Rv : RP Z (compS scope S vars wv) k vx fv)
    (hs : ∀ env x, foldedSetIterable iter env x = pure x) : RP Z S k (.DictComp kx vx [⟨target, iter, ifs, 0⟩] scope pos) (pCompN vars wv fi nt caps (.dct []) tg ci (emitD fk fv)) :=
  rp_comp (pos := firstIterPos [⟨target, iter, ifs, 0⟩] pos) (chkComp_ok N) Rf newAcc_dict turn_dict start_dict Rt Ri (rbody_dict Rk Rv) rfl hs (fun env => rfl)
variable {i : Nat} {x : Str} {py spos : Pos}
theorem rs_lc1 (N : chkComp scope S vars wv nt caps = true) (Rf : RI Z S k tup iter fi) (Rt : RTgt Z (compS scope S vars wv) tup target tg) (Ri : RIfs Z (compS scope S vars wv) k ifs ci) (Re : RP Z (compS scope S vars wv) k elt fe)
    (hs : ∀ env x, foldedSetIterable iter env x = pure x) (hsw : ∀ env, env.scope = S.sc → swapsWith (.ListComp elt [⟨target, iter, ifs, 0⟩] scope pos) (some (.Name x py)) spos.line env = pure true) (hi : S.vars[i]? = some x) (hk : S.sc.names.lookup x = some .local) :
    RSt Z S k (.Assign [.Name x py] (.ListComp elt [⟨target, iter, ifs, 0⟩] scope pos) spos) (sAssign i (pCompN vars wv fi nt caps (.lst []) tg ci (emitL fe))) :=
  rs_comp (pos := firstIterPos [⟨target, iter, ifs, 0⟩] pos) (chkComp_ok N) Rf newAcc_list turn_list (start_list rfl) Rt Ri (rbody_list Re) rfl hs hsw (fun env => rfl) hi hk
end
section
variable {k : Nat} {tup tup2 : Bool} {elt t1 i1 t2 i2 : Expr} {c1 c2 : List Expr} {scope : Scope} {pos : Pos} {vars wv : List Str} {f1 f2 : ASt → Option (List AVal)} {nt : Nat} {caps : List Nat} {g1 g2 : AVal → ASt → Option ASt} {ci ci2 : ASt → Option Bool} {fe : ASt → Option AVal} {i : Nat} {x : Str} {py spos : Pos}
theorem rp_lc2 (N : chkComp scope S vars wv nt caps = true) (Rf : RI Z S k tup i1 f1) (Rt : RTgt Z (compS scope S vars wv) tup t1 g1) (Ri : RIfs Z (compS scope S vars wv) k c1 ci) (Rf2 : RI Z (compS scope S vars wv) k tup2 i2 f2) (Rt2 : RTgt Z (compS scope S vars wv) tup2 t2 g2) (Ri2 : RIfs Z (compS scope S vars wv) k c2 ci2) (Re : RP Z (compS scope S vars wv) k elt fe)
    (hs : ∀ env x, foldedSetIterable i1 env x = pure x) (hs2 : ∀ env x, foldedSetIterable i2 env x = pure x) : RP Z S k (.ListComp elt [⟨t1, i1, c1, 0⟩, ⟨t2, i2, c2, 0⟩] scope pos) (pCompN vars wv f1 nt caps (.lst []) g1 ci (nestBody f2 g2 ci2 (emitL fe))) :=
  rp_comp (chkComp_ok N) Rf newAcc_list turn_list2a (start_list rfl) Rt Ri (rbody_nest Rf2 turn_list2b (start_list rfl) Rt2 Ri2 (rbody_list Re) hs2) rfl hs (fun _ => eval_ListComp _ _ _ _)
theorem rs_lc2 (N : chkComp scope S vars wv nt caps = true) (Rf : RI Z S k tup i1 f1) (Rt : RTgt Z (compS scope S vars wv) tup t1 g1) (Ri : RIfs Z (compS scope S vars wv) k c1 ci) (Rf2 : RI Z (compS scope S vars wv) k tup2 i2 f2) (Rt2 : RTgt Z (compS scope S vars wv) tup2 t2 g2) (Ri2 : RIfs Z (compS scope S vars wv) k c2 ci2) (Re : RP Z (compS scope S vars wv) k elt fe)
    (hs : ∀ env x, foldedSetIterable i1 env x = pure x) (hs2 : ∀ env x, foldedSetIterable i2 env x = pure x) (hsw : ∀ env, env.scope = S.sc → swapsWith (.ListComp elt [⟨t1, i1, c1, 0⟩, ⟨t2, i2, c2, 0⟩] scope pos) (some (.Name x py)) spos.line env = pure true) (hi : S.vars[i]? = some x) (hk : S.sc.names.lookup x = some .local) :
    RSt Z S k (.Assign [.Name x py] (.ListComp elt [⟨t1, i1, c1, 0⟩, ⟨t2, i2, c2, 0⟩] scope pos) spos) (sAssign i (pCompN vars wv f1 nt caps (.lst []) g1 ci (nestBody f2 g2 ci2 (emitL fe)))) :=
  rs_comp (pos := firstIterPos [⟨t1, i1, c1, 0⟩, ⟨t2, i2, c2, 0⟩] pos) (chkComp_ok N) Rf newAcc_list turn_list2a (start_list rfl) Rt Ri (rbody_nest Rf2 turn_list2b (start_list rfl) Rt2 Ri2 (rbody_list Re) hs2) rfl hs hsw (fun env => rfl) hi hk
end
end
end Mine

end
section
set_option maxRecDepth 100000

namespace Mine
theorem isi_bytes_str {x : Array UInt8} {u : Tok} : Meets (Builtin.«isinstance» ⟨[.bytes x u, .type "str"], []⟩) (fun _ R s => R (.ok (.ret (.bool false))) { s with toks := s.toks + 1 }) :=
  fun _ _ _ _ s hs => by
    obtain ⟨h, g, d, t, os⟩ := s
    exact isinstance_outer (isinstance_nested_false_bytes (by decide +kernel) F.isi_meta_str F.sub_bytes_str hs) (fun e => nomatch e)
theorem ans_bytes {x : Array UInt8} {u : Tok} : AnswersAll (fun s => s.TypeIs (.bytes x u) "bytes") (.bytes x u) [.type "bytes", .type "bytearray"] [true, false] := by
  refine ⟨fun dep tk => ?_, fun dep tk => ?_, trivial⟩
  · intro prog w A R s hs
    exact isinstance_nested_true rfl hs.1 F.isi_meta_bytes F.isi_self_bytes (hs.2 s.toks)
  · intro prog w A R s hs
    obtain ⟨h, g, d, t, os⟩ := s
    exact isinstance_nested_false_bytes (by decide +kernel) F.isi_meta_bytearray F.sub_bytes_bytearray (hs.2 (t + 1))

section
variable {Z : Amb} {S : Sx}
/-- isinstance(x, str) and isinstance(x, (bytes, bytearray)) of bytes -/
noncomputable def tIsi (b : Bool) (f : ASt → Option AVal) (st : ASt) : Option Bool := (f st).bind fun a => a.bytes?.bind fun _ => some b
theorem rt_isi {k : Nat} {b : Bool} {x : Str} {xp pos : Pos} {e1 e2 : Expr} {f : ASt → Option AVal} {c : Value} (h0 : RP Z S k (.Name x xp) (fun _ => some (.cst (.builtin "isinstance")))) (h1 : RP Z S k e1 f) (h2 : RP Z S k e2 (fun _ => some (.cst c)))
    (hst : ∀ env, starEach [e1, e2] env = (false, eval e1 env) :: starEach [e2] env) (hst2 : ∀ env, starEach [e2] env = [(false, eval e2 env)]) (he : ∀ env whole, isTrue (.Call (.Name x xp) [e1, e2] [] pos) env whole = (do let v ← whole; standAt pos; holding [v] (truthy v)))
    (hc : (b = false ∧ c = .type "str") ∨ (b = true ∧ ∃ tp, c = .ref tp ∧ Z.K.lookup tp = some { cls := .type "tuple", data := .seq #[.type "bytes", .type "bytearray"] })) : RT Z S k (.Call (.Name x xp) [e1, e2] [] pos) (tIsi b f) := by
  intro A env own D γ st s r E hf rl hr
  obtain ⟨a, q1, f1⟩ := bind_some hf
  obtain ⟨l, q2, f2⟩ := bind_some f1
  cases f2
  obtain rfl := bytes?_some q2
  refine isTrue_plain ?_ (he _ _)
  have R2 : RPs Z S k [e1, e2] (consF f (consF (fun _ => some (.cst c)) nilF)) := rps_cons h1 (rps_cons h2 rps_nil (fun env => by rw [hst2]; rfl)) hst
  refine callName h0 R2 rks_nil rfl (.inr ⟨_, _, rfl, hst⟩) (fun env => by rw [hst, hst2]; rfl) rfl (as := [.bytes l, .cst c]) (by unfold consF nilF; rw [q1]; rfl) rfl rl hr (keep_builtin _) fun vs kvs s1 k1 v1 v2 => ?_
  obtain rfl := vrels_nil v2
  obtain ⟨v, v', rfl, h3, h4⟩ := vrels_2 v1
  obtain ⟨bb, t, rfl, _⟩ := vrel_bytes h3
  obtain rfl := vrel_cst h4
  rcases hc with ⟨rfl, rfl⟩ | ⟨rfl, tp, rfl, ht⟩
  · exact call_isinstance isi_bytes_str (wpAny_truthy_bool ⟨k1.trans (Kp.toks _ _), rfl⟩)
  · exact IsiPair.tupleOf (Tx := "bytes") ans_bytes (typeIs_bytes _ _ _) ((rl.keeps' k1).base _ _ (Z.X _ _ ht)) fun tk => wpAny_truthy_bool ⟨k1.trans (Kp.toks _ _), rfl⟩
end
end Mine

end
section

namespace Mine
section
variable {Z : Amb} {S : Sx}
/-- x, y, z = ([], {}, True) -/
noncomputable def sInit (i j l : Nat) : AS := fun st => some (.next, stv i (.cell st.cells.length) (stv j (.dct []) (stv l (.bool true) { st with cells := st.cells ++ [.lst []] })))
set_option maxHeartbeats 400000 in
theorem rs_init {k i j l n n' : Nat} {x y z : Str} {p q o tp lp dp bp vp pos : Pos} {u : Nat} (hx : chkSt S i x = true) (hy : chkSt S j y = true) (hz : chkSt S l z = true)
    (hs : ∀ env, swapsWithSole [.Tuple [.Name x p, .Name y q, .Name z o] n tp] (.Tuple [.List [] lp, .Dict [] [] dp, .Constant (.bool true) u bp] n' vp) pos.line env = pure false)
    (hw : ∀ env, env.scope = S.sc → swappedStores [.Tuple [.Name x p, .Name y q, .Name z o] n tp] (.Tuple [.List [] lp, .Dict [] [] dp, .Constant (.bool true) u bp] n' vp) env = pure (some [x, y, z])) :
    RSt Z S k (.Assign [.Tuple [.Name x p, .Name y q, .Name z o] n tp] (.Tuple [.List [] lp, .Dict [] [] dp, .Constant (.bool true) u bp] n' vp) pos) (sInit i j l) := by
  intro A env own D γ st s fl st' E hf r hr
  cases hf
  have e0 : nList nilF st = some (.lst []) := by simp [nList, nilF]
  obtain ⟨_, hi, hk, hkd, _⟩ := chkSt_ok hx
  obtain ⟨_, hj, hk2, hkd2, _⟩ := chkSt_ok hy
  obtain ⟨_, hl, hk3, hkd3, _⟩ := chkSt_ok hz
  refine Assign_Tuple_swapped (Tuple_ (spliced_cons (wpAny_mono (rn_list rps_nil (f := nilF) (c := .lst []) e0 r hr) (fun v s1 h1 => ?_) fun _ _ x => x))) (hs env) (hw env r.esc)
  obtain ⟨a, rfl, k1, ha, hc⟩ := h1
  have r1 := r.newCell k1 ha hc
  have hγ := r.cells.1
  refine spliced_cons ?_
  rw [eval_Dict_empty]
  refine wpAny_bind (wpAny_standAt (newAcc_dict r1.base fun h2 hk2' hc2 => ?_))
  let s2 : Shared := { s1 with heap := h2 }
  have k2 : Kp s1 s2 := ⟨h2, _, rfl, hk2'⟩
  have hd : VRel Z s2.heap (D ++ [a]) (γ ++ [a]) (.ref s1.heap.objs.size) (.dct []) := thaw_some (σ := .dct []) rfl (hc2 (D ++ [a]) (γ ++ [a])) (fun _ h => h) r1.wd.new
  refine spliced_cons ?_
  show wpAny _ _ (pure (Value.bool true)) _ _ _
  refine wpAny_pure (spliced_nil ?_)
  have r2 := r1.keeps' k2
  have hv : VRels Z s2.heap (D ++ [a]) (γ ++ [a]) [.ref a, .ref s1.heap.objs.size, .bool true] [.cell st.cells.length, .dct [], .bool true] :=
    .cons (.cell (by rw [List.getElem?_append_right (by rw [hγ]; exact Nat.le_refl _), hγ, Nat.sub_self]; rfl)) (.cons hd (.cons (.bool _) .nil))
  refine wpAny_mono (newTuple_wp (xs := [.cell st.cells.length, .dct [], .bool true]) (show 3 < 1000 by decide) hv r2.wd) (fun v s3 h3 => ?_) fun _ _ x => x
  obtain ⟨k3, v3⟩ := h3
  obtain ⟨T, vs, rfl, _, hp, hvs⟩ := vrel_tup v3
  obtain ⟨u1, u2, u3, rfl, h4, h5, h6⟩ := vrels_3 hvs
  rw [show [x, y, z].length = [u1, u2, u3].toArray.size by simp]
  refine unpackItems_tuple hr.handled hp.isTup fun h' he => ?_
  let s4 : Shared := { s3 with heap := h' }
  have k4 : Kp s3 s4 := ⟨h', _, rfl, fun b o e => he b o (Nat.ne_of_lt (Heap.lt_size e)) e⟩
  have r4 := (r2.keeps' k3).keeps' k4
  have e4 := h4.keeps fun _ _ e => k4.get e
  have e5 := h5.keeps fun _ _ e => k4.get e
  have e6 := h6.keeps fun _ _ e => k4.get e
  show wpAny _ _ (do holding [u2, u1] (bindName env z u3); assignInOrder [bindName env y, bindName env x] [u2, u1]) _ _ _
  refine wpAny_bind (wpAny_holding (wpAny_bindName (storeVar hl hk3 hkd3 r4 e6 fun s5 c5 r5 => ?_)))
  have up : ∀ {s s' : Shared} {v : Value} {av : AVal}, Chg own s s' → VRel Z s.heap (D ++ [a]) (γ ++ [a]) v av → VRel Z s'.heap (D ++ [a]) (γ ++ [a]) v av := fun c h => h.mono fun b o hb e => c.get (fun h => hb (List.mem_append_left _ (r.ownD b h))) e
  show wpAny _ _ (do holding [u1] (bindName env y u2); assignInOrder [bindName env x] [u1]) _ _ _
  refine wpAny_bind (wpAny_holding (wpAny_bindName (storeVar hj hk2 hkd2 r5 (up c5 e5) fun s6 c6 r6 => ?_)))
  show wpAny _ _ (do holding [] (bindName env x u1); assignInOrder [] []) _ _ _
  refine wpAny_bind (wpAny_holding (wpAny_bindName (storeVar hi hk hkd r6 (up c6 (up c5 e4)) fun s7 c7 r7 => wpAny_pure ?_)))
  refine ⟨[a], ?_, fun b hb => by rw [List.mem_singleton.mp hb]; exact ha, r7, .next⟩
  have k14 : Kp s s4 := ((k1.trans k2).trans k3).trans k4
  exact (((k14.chg _).trans c5 fun b hb => .inl (List.mem_append_left _ hb)).trans c6 fun b hb => .inl (List.mem_append_left _ hb)).trans c7 fun b hb => .inl (List.mem_append_left _ hb)
end
end Mine

end
section
set_option maxRecDepth 100000

namespace Mine

structure ZApart (z TI TO i1 i2 l2 : Addr) : Prop where
  TIz : TI ≠ z
  TOz : TO ≠ z
  i1z : i1 ≠ z
  i2z : i2 ≠ z
  TITO : TI ≠ TO
  TIi1 : TI ≠ i1
  TIi2 : TI ≠ i2
  TOi1 : TO ≠ i1
  TOi2 : TO ≠ i2
  i12 : i1 ≠ i2
  l2z : l2 ≠ z
  l2TO : l2 ≠ TO
  l2i1 : l2 ≠ i1
  l2i2 : l2 ≠ i2

theorem ri_ext {h h' : Heap} {a b : Addr} {x y c : Int} (hi : IsRangeIter h a x y c) (hs : Heap.ExtBut b h h') (hab : a ≠ b) : IsRangeIter h' a x y c := hs a _ hab hi

section
variable {prog : Program} {w : World} {A : Around} {E : Value → Shared → Prop} {s : Shared}
theorem nextOf_range_item {it : Addr} {x left step : Int} {Q : Value → Shared → Prop} (hit : IsRangeIter s.heap it x left step) (hleft : 0 < left)
    (hQ : ∀ h', IsRangeIter h' it (x + step) (left - 1) step → Heap.SameBut it s.heap h' → Q (.int x s.toks) { s with heap := h', toks := s.toks + 1 }) :
    wpAny (model prog w) A (Builtin.SmallTypes.nextOf (.ref it)) Q E s := by
  have hT : s.TypeIs (.ref it) "range_iterator" := ⟨_, hit, rfl⟩
  unfold Builtin.SmallTypes.nextOf
  refine wpAny_bind (wpAny_callSpecial?_slot (name := Str.ofString "__next__") hT F.slot_range_iterator_next
    (call_meets F.slot_range_iterator_next hT F.entry_range_iterator_next (F.args_range_iterator_next_1 _) (AutoRange.range_iterator___next___range_iterator_1 it x left step (by omega)) ⟨hit, ?_⟩))
  exact wpAny_pure (hQ _ (Heap.get?_update_self _ (Heap.get?_update_self _ hit rfl) rfl) ((Heap.SameBut.update ..).trans (Heap.SameBut.update ..)))
theorem nextOf_range_end {it : Addr} {x left step : Int} {Q : Value → Shared → Prop} (hh : A.handled = none) (hit : IsRangeIter s.heap it x left step) (hleft : left ≤ 0)
    (hE : ∀ h' e, Heap.ExtBut it s.heap h' → (∃ o, h'.get? e = some o ∧ o.cls = .type "StopIteration") → E (.ref e) { s with heap := h' }) :
    wpAny (model prog w) A (Builtin.SmallTypes.nextOf (.ref it)) Q E s := by
  have hT : s.TypeIs (.ref it) "range_iterator" := ⟨_, hit, rfl⟩
  unfold Builtin.SmallTypes.nextOf
  refine wpAny_bind (wpAny_callSpecial?_slot (name := Str.ofString "__next__") hT F.slot_range_iterator_next
    (wpAny_call_entry F.slot_range_iterator_next hT F.entry_range_iterator_next ?_ (F.args_range_iterator_next_1 _)))
  show wpAny _ _ (field (.ref it) 0 >>= _) _ _ s
  refine wpAny_bind (wpAny_field hit rfl (x := rawInt x) rfl ?_)
  show wpAny _ _ (field (.ref it) 1 >>= _) _ _ s
  refine wpAny_bind (wpAny_field hit rfl (x := rawInt left) rfl ?_)
  show wpAny _ _ (field (.ref it) 2 >>= _) _ _ s
  refine wpAny_bind (wpAny_field hit rfl (x := rawInt step) rfl ?_)
  show wpAny _ _ (if left ≤ 0 then _ else _) _ _ s
  rw [if_pos hleft]
  refine wpAny_bind (wpAny_rule ?_)
  refine wpAny_bind ?_
  show wpAny _ _ (newExc (.type "StopIteration") [] >>= _) _ _ _
  refine wpAny_bind ?_
  simp only [newExc, newTuple]
  refine wpAny_bind (wpAny_newObj_type ?_ (by size_fits))
  refine wpAny_bind (m := firstArgMember _ _) (wpAny_of_eq (a := Value.none) (by first | rfl | (simp only [firstArgMember]; rfl)) ?_)
  refine wpAny_newObj_type ?_ (by size_fits)
  simp only [raiseNew]
  refine wpAny_bind (wpAny_handled ?_)
  first | rw [show A.in1.handled = none from hh] | rw [hh]
  refine wpAny_bind (wpAny_pure (wpAny_throw ?_))
  exact hE _ _ (fun b o _ e => Heap.get?_push_of_some _ (Heap.get?_push_of_some _ e)) ⟨_, Heap.get?_push_size _ rfl, rfl⟩

theorem zipR_item {z TI TO i1 i2 l2 : Addr} {k2 : Nat} {p left step : Int} {ys : Array Value} {y a b : Value} {Q : Value → Shared → Prop} (D : ZApart z TI TO i1 i2 l2)
    (hz : IsZip s.heap z TI TO .none) (hTI : IsPair s.heap TI (.ref i1) (.ref i2)) (hTO : IsPair s.heap TO a b)
    (h1 : IsRangeIter s.heap i1 p left step) (hleft : 0 < left) (h2 : s.heap.IsListIter i2 l2 k2) (hl2 : s.heap.IsList l2 ys) (hy : ys[k2]? = some y)
    (hQ : ∀ h' tk, IsZip h' z TI TO (rawInt s.heap.objs.size) → IsPair h' TO (.int p s.toks) y → IsRangeIter h' i1 (p + step) (left - 1) step → h'.IsListIter i2 l2 (k2 + 1) → IsPair h' s.heap.objs.size (.int p s.toks) y → h'.objs.size = s.heap.objs.size + 1 →
      (∀ c o, c ≠ z → c ≠ TO → c ≠ i1 → c ≠ i2 → s.heap.get? c = some o → h'.get? c = some o) → Q (.ref s.heap.objs.size) { s with heap := h', toks := tk }) :
    wpAny (model prog w) A (Builtin.«zip.__next__» ⟨[.ref z], []⟩) (fun fin s' => ∃ v, fin = .done (.ret v) ∧ Q v s') E s := by
  show wpAny _ _ (field (.ref z) 2 >>= _) _ _ _
  refine wpAny_bind (wpAny_field hz rfl (x := .bool false) rfl ?_)
  show wpAny _ _ (field (.ref z) 3 >>= _) _ _ _
  refine wpAny_bind (wpAny_field hz rfl (x := .ref TI) rfl ?_)
  refine wpAny_bind (wpAny_seqItems hTI rfl ?_)
  show wpAny _ _ (Builtin.SmallTypes.ownedTupleIsFree (.ref z) >>= _) _ _ _
  refine wpAny_bind ?_
  unfold Builtin.SmallTypes.ownedTupleIsFree
  refine wpAny_bind (wpAny_field hz rfl (x := .none) rfl (wpAny_pure ?_))
  simp only [if_true]
  refine wpAny_bind (wpAny_rule ?_)
  refine wpAny_bind (wpAny_field hz rfl (x := .ref TO) rfl ?_)
  refine wpAny_bind (wpAny_setField_rec hz (by simp) fun h₁ hz₁ hs₁ => ?_)
  replace hz₁ : IsZip h₁ z TI TO .ellipsis := hz₁
  refine wpAny_bind ?_
  simp only [List.zipIdx_cons, List.zipIdx_nil, List.forIn_cons, List.forIn_nil]
  refine wpAny_bind (wpAny_bind (wpAny_onRaise ?_))
  show wpAny _ _ (Builtin.SmallTypes.nextOf (.ref i1) >>= _) _ _ _
  refine wpAny_bind (nextOf_range_item (ri_ext h1 hs₁.extBut D.i1z) hleft fun h₂ h1₂ hs₂ => wpAny_pure ?_)
  have hTO₂ : IsPair h₂ TO a b := hs₂.extBut _ _ D.TOi1 (hs₁.extBut _ _ D.TOz hTO)
  refine wpAny_bind (wpAny_seqItems hTO₂ rfl ?_)
  refine wpAny_bind (wpAny_updateSeq_pair hTO₂ fun h₃ hTO₃ hs₃ => ?_)
  replace hTO₃ : IsPair h₃ TO (.int p s.toks) b := hTO₃
  refine wpAny_bind (wpAny_letGo (wpAny_pure ?_))
  refine wpAny_bind (wpAny_bind (wpAny_onRaise ?_))
  show wpAny _ _ (Builtin.SmallTypes.nextOf (.ref i2) >>= _) _ _ _
  refine wpAny_bind (wpAny_nextOf_list_item (((h2.extBut hs₁.extBut D.i2z).extBut hs₂.extBut D.i12.symm).extBut hs₃.extBut D.TOi2.symm)
    (((hl2.extBut hs₁.extBut D.l2z).extBut hs₂.extBut D.l2i1).extBut hs₃.extBut D.l2TO) hy fun h₄ h2₄ hs₄ => wpAny_pure ?_)
  have hTO₄ : IsPair h₄ TO (.int p s.toks) b := hs₄.extBut _ _ D.TOi2 hTO₃
  refine wpAny_bind (wpAny_seqItems hTO₄ rfl ?_)
  refine wpAny_bind (wpAny_updateSeq_pair hTO₄ fun h₅ hTO₅ hs₅ => ?_)
  replace hTO₅ : IsPair h₅ TO (.int p s.toks) y := hTO₅
  refine wpAny_bind (wpAny_letGo (wpAny_pure (wpAny_pure ?_)))
  refine wpAny_bind (wpAny_seqItems hTO₅ rfl ?_)
  refine wpAny_bind (wpAny_newTuple ?_)
  have hsz : h₅.objs.size = s.heap.objs.size := by rw [hs₅.1, hs₄.1, hs₃.1, hs₂.1, hs₁.1]
  have hz₅ : IsZip h₅ z TI TO .ellipsis := hs₅.extBut _ _ D.TOz.symm (hs₄.extBut _ _ D.i2z.symm (hs₃.extBut _ _ D.TOz.symm (hs₂.extBut _ _ D.i1z.symm hz₁)))
  have hk₅ : ∀ c o, c ≠ z → c ≠ TO → c ≠ i1 → c ≠ i2 → s.heap.get? c = some o → h₅.get? c = some o := fun c o c1 c2 c3 c4 e =>
    hs₅.extBut _ _ c2 (hs₄.extBut _ _ c4 (hs₃.extBut _ _ c2 (hs₂.extBut _ _ c3 (hs₁.extBut _ _ c1 e))))
  have h1₅ : IsRangeIter h₅ i1 (p + step) (left - 1) step := ri_ext (ri_ext (ri_ext h1₂ hs₃.extBut D.TOi1.symm) hs₄.extBut D.i12) hs₅.extBut D.TOi1.symm
  have h2₅ : h₅.IsListIter i2 l2 (k2 + 1) := h2₄.extBut hs₅.extBut D.TOi2.symm
  have hzlt : z < h₅.objs.size := Heap.lt_size hz₅
  have hTOlt : TO < h₅.objs.size := Heap.lt_size hTO₅
  show wpAny _ _ (Builtin.SmallTypes.ownedTupleHandOut (.ref z) (.ref h₅.objs.size) >>= _) _ _ _
  refine wpAny_bind ?_
  unfold Builtin.SmallTypes.ownedTupleHandOut
  have hz₆ : IsZip (h₅.push { cls := .type "tuple", data := .seq #[.int p s.toks, y] }) z TI TO .ellipsis := Heap.get?_push_of_some _ hz₅
  refine wpAny_bind (wpAny_setField_rec hz₆ (by simp) fun h₇ hz₇ hs₇ => ?_)
  replace hz₇ : IsZip h₇ z TI TO (rawInt h₅.objs.size) := hz₇
  refine wpAny_setField_rec hz₇ (by simp) fun h₈ hz₈ hs₈ => ?_
  replace hz₈ : IsZip h₈ z TI TO (rawInt h₅.objs.size) := hz₈
  have up : ∀ c o, c ≠ z → h₅.get? c = some o → h₈.get? c = some o := fun c o c1 e => hs₈.extBut _ _ c1 (hs₇.extBut _ _ c1 (Heap.get?_push_of_some _ e))
  have hT₈ : IsPair h₈ h₅.objs.size (.int p s.toks) y := hs₈.extBut _ _ (Nat.ne_of_gt hzlt) (hs₇.extBut _ _ (Nat.ne_of_gt hzlt) (Heap.get?_push_size _ rfl))
  have hz8 : h₈.objs.size = h₅.objs.size + 1 := by rw [hs₈.1, hs₇.1, Heap.size_push]
  rw [hsz] at hz₈ hT₈ hz8
  refine wpAny_pure ⟨_, rfl, ?_⟩
  show Q (.ref h₅.objs.size) _
  rw [hsz]
  exact hQ h₈ _ hz₈ (up _ _ D.TOz hTO₅) (up i1 _ D.i1z h1₅) (h2₅.at fun o e => up _ o D.i2z e) hT₈ hz8 fun c o c1 c2 c3 c4 e => up c o c1 (hk₅ c o c1 c2 c3 c4 e)

theorem zipR_end {z TI TO i1 i2 : Addr} {p left step : Int} {a b : Value} {Q : Fin → Shared → Prop} (hh : A.handled = none) (hi1z : i1 ≠ z)
    (hz : IsZip s.heap z TI TO .none) (hTI : IsPair s.heap TI (.ref i1) (.ref i2)) (_ : IsPair s.heap TO a b) (h1 : IsRangeIter s.heap i1 p left step) (hleft : left ≤ 0)
    (hE : ∀ h' e, (∀ c o, c ≠ z → c ≠ i1 → s.heap.get? c = some o → h'.get? c = some o) → (∃ o, h'.get? e = some o ∧ o.cls = .type "StopIteration") → E (.ref e) { s with heap := h' }) :
    wpAny (model prog w) A (Builtin.«zip.__next__» ⟨[.ref z], []⟩) Q E s := by
  show wpAny _ _ (field (.ref z) 2 >>= _) _ _ _
  refine wpAny_bind (wpAny_field hz rfl (x := .bool false) rfl ?_)
  show wpAny _ _ (field (.ref z) 3 >>= _) _ _ _
  refine wpAny_bind (wpAny_field hz rfl (x := .ref TI) rfl ?_)
  refine wpAny_bind (wpAny_seqItems hTI rfl ?_)
  show wpAny _ _ (Builtin.SmallTypes.ownedTupleIsFree (.ref z) >>= _) _ _ _
  refine wpAny_bind ?_
  unfold Builtin.SmallTypes.ownedTupleIsFree
  refine wpAny_bind (wpAny_field hz rfl (x := .none) rfl (wpAny_pure ?_))
  simp only [if_true]
  refine wpAny_bind (wpAny_rule ?_)
  refine wpAny_bind (wpAny_field hz rfl (x := .ref TO) rfl ?_)
  refine wpAny_bind (wpAny_setField_rec hz (by simp) fun h₁ hz₁ hs₁ => ?_)
  replace hz₁ : IsZip h₁ z TI TO .ellipsis := hz₁
  refine wpAny_bind ?_
  simp only [List.zipIdx_cons, List.zipIdx_nil, List.forIn_cons, List.forIn_nil]
  refine wpAny_bind (wpAny_bind (wpAny_onRaise ?_))
  show wpAny _ _ (Builtin.SmallTypes.nextOf (.ref i1) >>= _) _ _ _
  refine wpAny_bind (nextOf_range_end hh (ri_ext h1 hs₁.extBut hi1z) hleft fun h₂ e hs₂ he => ?_)
  obtain ⟨oe, hoe, hce⟩ := he
  have hz₂ : IsZip h₂ z TI TO .ellipsis := hs₂ _ _ hi1z.symm hz₁
  have hez : e ≠ z := fun x => by subst x; rw [hz₂] at hoe; cases hoe; simp at hce
  exact wpAny_setField_rec hz₂ (by simp) fun h₃ _ hs₃ => hE h₃ e (fun c o c1 c3 x => hs₃.extBut _ _ c1 (hs₂ _ _ c3 (hs₁.extBut _ _ c1 x))) ⟨oe, hs₃.extBut _ _ hez hoe, hce⟩

theorem pyNext_zipR_item {z TI TO i1 i2 l2 : Addr} {k2 : Nat} {p left step : Int} {ys : Array Value} {y a b : Value} {Q : Option Value → Shared → Prop} (D : ZApart z TI TO i1 i2 l2)
    (hz : IsZip s.heap z TI TO .none) (hTI : IsPair s.heap TI (.ref i1) (.ref i2)) (hTO : IsPair s.heap TO a b)
    (h1 : IsRangeIter s.heap i1 p left step) (hleft : 0 < left) (h2 : s.heap.IsListIter i2 l2 k2) (hl2 : s.heap.IsList l2 ys) (hy : ys[k2]? = some y)
    (hQ : ∀ h' tk, IsZip h' z TI TO (rawInt s.heap.objs.size) → IsPair h' TO (.int p s.toks) y → IsRangeIter h' i1 (p + step) (left - 1) step → h'.IsListIter i2 l2 (k2 + 1) → IsPair h' s.heap.objs.size (.int p s.toks) y → h'.objs.size = s.heap.objs.size + 1 →
      (∀ c o, c ≠ z → c ≠ TO → c ≠ i1 → c ≠ i2 → s.heap.get? c = some o → h'.get? c = some o) → Q (some (.ref s.heap.objs.size)) { s with heap := h', toks := tk }) : wpAny (model prog w) A (pyNext (.ref z)) Q E s := by
  have hT : s.TypeIs (.ref z) "zip" := ⟨_, hz, rfl⟩
  unfold pyNext
  exact wpAny_bind (wpAny_attempt (wpAny_callSpecial?_slot (name := Str.ofString "__next__") hT F.slot_zip_next
    (wpAny_call_entry F.slot_zip_next hT F.entry_zip_next
      (zipR_item D hz hTI hTO h1 hleft h2 hl2 hy fun h' tk a1 a2 a3 a4 a5 a6 a7 => wpAny_pure (hQ h' tk a1 a2 a3 a4 a5 a6 a7)) (F.args_zip_next_1 _))))
theorem pyNext_zipR_end {z TI TO i1 i2 : Addr} {p left step : Int} {a b : Value} {Q : Option Value → Shared → Prop} (hh : A.handled = none) (hi1z : i1 ≠ z)
    (hz : IsZip s.heap z TI TO .none) (hTI : IsPair s.heap TI (.ref i1) (.ref i2)) (hTO : IsPair s.heap TO a b) (h1 : IsRangeIter s.heap i1 p left step) (hleft : left ≤ 0)
    (hQ : ∀ h', (∀ c o, c ≠ z → c ≠ i1 → s.heap.get? c = some o → h'.get? c = some o) → Q none { s with heap := h' }) : wpAny (model prog w) A (pyNext (.ref z)) Q E s := by
  have hT : s.TypeIs (.ref z) "zip" := ⟨_, hz, rfl⟩
  unfold pyNext
  refine wpAny_bind (wpAny_attempt (wpAny_callSpecial?_slot (name := Str.ofString "__next__") hT F.slot_zip_next
    (wpAny_call_entry F.slot_zip_next hT F.entry_zip_next (zipR_end hh hi1z hz hTI hTO h1 hleft fun h' e hk he => ?_) (F.args_zip_next_1 _))))
  obtain ⟨o, ho, hc⟩ := he
  refine wpAny_bind (wpAny_isInstance (T := "StopIteration") (b := true) ⟨o, ho, hc⟩ isSubtype_stop ?_)
  exact wpAny_pure (hQ _ hk)
end
end Mine

end
section

namespace Mine
section
variable {Z : Amb} {S : Sx}

/-- dirty addresses change, the cells become others -/
theorem Rel.upd {env : Env} {own D γ L : List Addr} {st : ASt} {h h' : Heap} {cs' : List ACell} (r : Rel Z S env own D γ st h) (hk : ∀ b o, b ∉ L → h.get? b = some o → h'.get? b = some o) (hL : ∀ b ∈ L, b ∈ D ∧ b ∉ own ∧ ∀ (x : Str) (c : Addr), env.cells.lookup x = some c → c ≠ b)
    (hlive : ∀ d ∈ D, ∃ o, h'.get? d = some o) (hc : CellsR Z h' D γ cs') : Rel Z S env own D γ { st with cells := cs' } h' := by
  have kD : ∀ b o, b ∉ D → h.get? b = some o → h'.get? b = some o := fun b o hb e => hk b o (fun q => hb (hL b q).1) e
  exact { r with
    base := fun b o e => hk b o (fun q => by have := (r.live b (hL b q).1).1; rw [e] at this; cases this) (r.base b o e)
    live := fun d hd => ⟨(r.live d hd).1, hlive d hd⟩
    ns := by
      obtain ⟨m, hn, hm⟩ := r.ns
      refine ⟨m, hn.at' fun o e => hk _ o (fun q => (hL _ q).2.1 r.Lown) e, fun i x h1 h2 av h3 => ?_⟩
      obtain ⟨v, e, rv⟩ := hm i x h1 h2 av h3
      exact ⟨v, e, rv.mono kD⟩
    cl := fun i x h1 h2 => by
      obtain ⟨c, vo, e1, ⟨o, ho, hd⟩, e3⟩ := r.cl i x h1 h2
      refine ⟨c, vo, e1, ⟨o, hk c o (fun q => (hL c q).2.2 x c e1 rfl) ho, hd⟩, fun av h3 => ?_⟩
      obtain ⟨v, e, rv⟩ := e3 av h3
      exact ⟨v, e, rv.mono kD⟩
    cells := hc }

/-- one cell becomes another -/
theorem Rel.cellSet {env : Env} {own D γ : List Addr} {st : ASt} {h h' : Heap} {j : Nat} {a : Addr} {c : ACell} (r : Rel Z S env own D γ st h) (hj : γ[j]? = some a) (hk : ∀ b o, b ≠ a → h.get? b = some o → h'.get? b = some o) (hc : CellR Z h' D γ a c) :
    Rel Z S env own D γ { st with cells := st.cells.set j c } h' := by
  have ha := List.mem_of_getElem? hj
  refine r.upd (L := [a]) (fun b o hb e => hk b o (fun q => hb (List.mem_singleton.mpr q)) e) (fun b hb => ?_) (fun d hd => ?_) (r.wd.set hj hk hc).cells
  · obtain rfl := List.mem_singleton.mp hb
    exact ⟨r.γD _ ha, fun h => r.ownγ _ h ha, fun x c h q => (r.cap x c h).2.2 (q ▸ ha)⟩
  · by_cases q : d = a
    · rw [q]; exact hc.live
    · obtain ⟨o, e⟩ := (r.live d hd).2; exact ⟨o, hk d o q e⟩

theorem list_end {A : Around} {E : Value → Shared → Prop} {s : Shared} {it l : Addr} {i : Nat} {items : Array Value} {Q : Option Value → Shared → Prop} (hh : A.handled = none)
    (hit : s.heap.IsListIter it l i) (hl : s.heap.IsList l items) (hx : items[i]? = none)
    (hQ : ∀ h', Heap.ExtBut it s.heap h' → (∃ o, h'.get? it = some o) → Q none { s with heap := h' }) : wpAny Z.M A (pyNext (.ref it)) Q E s := by
  obtain ⟨o, ho, hc, hd⟩ := id hit
  obtain ⟨ol, hol, _, nl, hdl⟩ := hl
  unfold pyNext
  refine wpAny_bind (wpAny_attempt (wpAny_callSpecial?_slot (name := Str.ofString "__next__") hit.typeIs slot_listiter_next
    (wpAny_call_entry slot_listiter_next hit.typeIs entry_listiter_next ?_ (args_listiter_next _))))
  show wpAny _ _ (field (.ref it) 0 >>= _) _ _ s
  refine wpAny_bind (wpAny_field ho hd (x := .ref l) rfl ?_)
  show wpAny _ _ (if (Value.ref l == Value.none) = true then _ else _) _ _ s
  rw [if_neg (show ¬ ((Value.ref l == Value.none) = true) from Bool.false_ne_true)]
  show wpAny _ _ (field (.ref it) 1 >>= _) _ _ s
  refine wpAny_bind (wpAny_field ho hd (x := .int i 0) rfl ?_)
  show wpAny _ _ (seqItems? (.ref l) >>= _) _ _ s
  refine wpAny_bind (wpAny_seqItems hol hdl ?_)
  simp only [Int.toNat_natCast, hx]
  refine wpAny_bind (wpAny_rule (wpAny_bind (wpAny_setField ho hd (by simp) ?_)))
  show wpAny _ _ (newExc (.type "StopIteration") [] >>= _) _ _ _
  refine wpAny_bind ?_
  simp only [newExc, newTuple]
  refine wpAny_bind (wpAny_newObj_type ?_ (by size_fits))
  refine wpAny_bind (m := firstArgMember _ _) (wpAny_of_eq (a := Value.none) (by first | rfl | (simp only [firstArgMember]; rfl)) ?_)
  refine wpAny_newObj_type ?_ (by size_fits)
  simp only [raiseNew]
  refine wpAny_bind (wpAny_handled ?_)
  rw [show A.in1.handled = none from hh]
  refine wpAny_bind (wpAny_pure (wpAny_throw ?_))
  refine wpAny_bind (wpAny_isInstance (T := "StopIteration") (b := true) ⟨_, Heap.get?_push_size _ rfl, rfl⟩ isSubtype_stop ?_)
  exact wpAny_pure (hQ _ (((Heap.SameBut.update ..).extBut.push _).push _) ⟨_, Heap.get?_push_of_some _ (Heap.get?_push_of_some _ (Heap.get?_update_self _ ho (Obj.isFreed_of_fields (Obj.data_mapFields hd _))))⟩)

/-! for over an iterator that is a cell -/
noncomputable def forCL (j i : Nat) (b : AS) : Nat → AS
  | 0, _ => none
  | n + 1, st => match st.cells[j]? with
    | some (.itL xs k) => (match xs[k]? with
      | none => some (.next, { st with cells := st.cells.set j .dead })
      | some x => (match b (stv i x { st with cells := st.cells.set j (.itL xs (k + 1)) }) with
        | some (.next, st2) => forCL j i b n st2
        | some (.cont, st2) => forCL j i b n st2
        | some (.brk, st2) => some (.next, st2)
        | some (.ret v, st2) => some (.ret v, st2)
        | none => none))
    | _ => none
noncomputable def sForC (f : ASt → Option AVal) (i : Nat) (b : AS) (n : Nat) : AS := fun st => (f st).bind fun a => a.cell?.bind fun j => forCL j i b n st

inductive ForCE (b : AS) (i j : Nat) (m : Nat) (fl : AFlow) (st' st1 : ASt) : Prop
  | stop (xs : List AVal) (kk : Nat) (h1 : st1.cells[j]? = some (.itL xs kk)) (h2 : xs[kk]? = none) (e : some (AFlow.next, { st1 with cells := st1.cells.set j .dead }) = some (fl, st'))
  | step (xs : List AVal) (kk : Nat) (h1 : st1.cells[j]? = some (.itL xs kk)) (y : AVal) (h2 : xs[kk]? = some y) (t : TurnE (forCL j i b m) fl st' (b (stv i y { st1 with cells := st1.cells.set j (.itL xs (kk + 1)) })))
theorem forCL_step {b : AS} {i j m : Nat} {fl : AFlow} {st' st1 : ASt} (hq : forCL j i b (m + 1) st1 = some (fl, st')) : ForCE b i j m fl st' st1 := by
  unfold forCL at hq
  split at hq
  case h_2 => cases hq
  rename_i xs kk hcell
  split at hq
  · exact .stop xs kk hcell (by assumption) hq
  · exact .step xs kk hcell _ (by assumption) (turn_of hq)

theorem forC_turn {k i m j : Nat} {x : Str} {xp : Pos} {body : List Stmt} {b : AS} (hx : chkSt S i x = true) (Rb : RSs Z S k body b) {A : Around} {env : Env} {own D γ : List Addr} {s s' : Shared} {fl : AFlow} {st' : ASt} {I : Addr} (hr : Room A k) (hI : γ[j]? = some I) {K K2 : Flow → Shared → Prop} {E : Value → Shared → Prop}
    (hinv : RelInv Z S env own D γ s (fun st1 => forCL j i b m st1 = some (fl, st')) s') (k1 : ∀ m', m' < m → ∀ s3, RelInv Z S env own D γ s (fun st1 => forCL j i b m' st1 = some (fl, st')) s3 → K .next s3 ∧ K .cont s3)
    (k2 : ∀ s3, After Z S env own D γ s fl st' .next s3 → K .brk s3 ∧ K2 .next s3) (k3 : ∀ v s3, After Z S env own D γ s fl st' (.ret v) s3 → K (.ret v) s3) :
    wpAny Z.M A (pyNext (.ref I)) (fun r s1 => match r with
        | none => wpAny Z.M A (execs [] env) K2 E s1
        | some v => wpAny Z.M A (letOwnedTupleGo (.Name x xp) (.ref I) v) (fun _ s1' => wpAny Z.M A (assign (.Name x xp) env v) (fun _ s2 => wpAny Z.M A (execs body env) K E s2) E s1') E s1) E s' := by
  obtain ⟨_, hi, hk, hkd, _⟩ := chkSt_ok hx
  obtain ⟨ex, st1, hq, hc, hex, r2⟩ := hinv
  have hIγ : I ∈ γ ++ ex := List.mem_append_left _ (List.mem_of_getElem? hI)
  have hI' : (γ ++ ex)[j]? = some I := getElem?_append_some hI
  cases m with
  | zero => cases hq
  | succ m =>
    cases forCL_step hq with
    | stop xs kk hcell hnone e =>
      cases e
      obtain ⟨l, vs, hit, hlD, hp, hvs⟩ := cell_itL (r2.cells.2 j I _ hI' hcell)
      have hnv : vs.toArray[kk]? = none := by
        rw [List.getElem?_toArray]
        rw [List.getElem?_eq_none_iff] at hnone ⊢
        rw [hvs.length]; exact hnone
      refine list_end hr.handled hit hp.isList hnv fun h' he hlive => wpAny_execs_nil (k2 _ ?_).2
      obtain ⟨o, ho⟩ := hlive
      exact After.trans hc hex r2 (.of_keep ⟨h', _, rfl, fun b o hb e => he b o (fun q => hb (List.mem_append_right _ (q ▸ hIγ))) e⟩ (r2.cellSet (c := .dead) hI' (fun b o hb e => he b o hb e) (.dead ho)) .next)
    | step xs kk hcell y hy t =>
      obtain ⟨fl3, st3, q3, T⟩ := t
      obtain ⟨l, vs, hit, hlD, hp, hvs⟩ := cell_itL (r2.cells.2 j I _ hI' hcell)
      obtain ⟨v, hv1, hv2⟩ := hvs.get hy
      refine wpAny_pyNext_list_item hit hp.isList (by rw [List.getElem?_toArray]; exact hv1) fun h' hit' hs' => ?_
      have kD : ∀ b o, b ∉ D ++ ex → s'.heap.get? b = some o → h'.get? b = some o := fun b o hb e => hs'.extBut b o (fun q => hb (q ▸ r2.γD I hIγ)) e
      have r3 : Rel Z S env own (D ++ ex) (γ ++ ex) { st1 with cells := st1.cells.set j (.itL xs (kk + 1)) } h' :=
        r2.cellSet hI' (fun b o hb e => hs'.extBut b o hb e) (.itL hit' hlD (hp.at fun o e => hs'.extBut l o (fun q => hlD (q ▸ r2.γD I hIγ)) e) (hvs.mono kD))
      have c3 : Chg (own ++ (γ ++ ex)) s' { s' with heap := h' } := ⟨h', _, rfl, fun b o hb e => hs'.extBut b o (fun q => hb (List.mem_append_right _ (q ▸ hIγ))) e⟩
      refine wpAny_of_eq (a := ()) rfl (wpAny_assign_Name (storeVar hi hk hkd r3 (hv2.mono kD) fun s3 c4 r4 => ?_))
      exact wpAny_mono (Rb q3 r4 hr) (fun z s5 h5 => After.turn (K := fun z => K z s5) (After.trans hc hex r2 (After.trans0 (c3.trans c4 fun b hb => .inl (List.mem_append_left _ hb)) r4 h5)) T (fun i => k1 m (Nat.lt_succ_self _) s5 i) (fun a => (k2 s5 a).1) fun v a => k3 v s5 a) fun _ _ x => x

theorem rs_forC {k i n : Nat} {x : Str} {xp : Pos} {iter : Expr} {body : List Stmt} {pos : Pos} {f : ASt → Option AVal} {b : AS} (R : RP Z S k iter f) (hx : chkSt S i x = true) (Rb : RSs Z S k body b)
    (hs : ∀ env x, foldedSetIterable iter env x = pure x) : RSt Z S k (.For (.Name x xp) iter body [] pos) (sForC f i b n) := by
  intro A env own D γ st s fl st' E hf r hr
  obtain ⟨a, q1, f1⟩ := bind_some hf
  obtain ⟨j, q2, f2⟩ := bind_some f1
  obtain rfl := cell?_some q2
  have start : ∃ xs k0, st.cells[j]? = some (.itL xs k0) := by
    cases n with
    | zero => cases f2
    | succ n =>
      cases forCL_step f2 with
      | stop xs kk h _ _ => exact ⟨_, _, h⟩
      | step xs kk h _ _ _ => exact ⟨_, _, h⟩
  obtain ⟨xs0, k0, hst⟩ := start
  refine wpAny_For (R.use q1 r hr fun v s1 k1 v1 => ?_) (hs env)
  obtain ⟨I, rfl, hI⟩ := vrel_cell v1
  have r1 := r.keeps' k1
  obtain ⟨l0, vs0, hit0, _⟩ := cell_itL (r1.cells.2 j I _ hI hst)
  exact wpAny_pyIter_listiter hit0 (codeAny_forLoop_any (fun m s' => RelInv Z S env own D γ s (fun st1 => forCL j i b m st1 = some (fl, st')) s') (fun m s' h => forC_turn hx Rb hr hI h (fun m' hm _ x => ⟨⟨m', hm, x⟩, ⟨m', hm, x⟩⟩) (fun _ x => ⟨x, x⟩) fun _ _ x => x) n
    (.start f2 (k1.chg _) r1))
end
end Mine

end
section
set_option maxRecDepth 100000

namespace Mine
noncomputable abbrev zr1 (h : Heap) (n : Int) : Heap := h.push { cls := .type "range_iterator", data := .fields #[rawInt 0, rawInt n, rawInt (-1)] }
noncomputable abbrev zr2 (h : Heap) (n : Int) (it : Addr) : Heap := (zr1 h n).push { cls := .type "tuple", data := .seq #[.ref h.objs.size, .ref it] }
noncomputable abbrev zr3 (h : Heap) (n : Int) (it : Addr) : Heap := (zr2 h n it).push { cls := .type "tuple", data := .seq #[.none, .none] }
noncomputable abbrev zr4 (h : Heap) (n : Int) (it : Addr) : Heap := (zr3 h n it).push { cls := .type "zip", data := .fields #[.none, .bool false, .bool false, .ref (zr1 h n).objs.size, .ref (zr2 h n it).objs.size] }

theorem rsize_neg {n : Int} (h : 0 < n) : Builtin.Range.rangeSize 0 (-n) (-1) = n := by
  unfold Builtin.Range.rangeSize
  rw [if_neg (by decide), if_pos (by omega)]
  show (0 - -n - 1) / (- -1) + 1 = n
  rw [show (0 - -n - 1) / (- -1 : Int) = n - 1 by rw [show (- -1 : Int) = 1 from rfl, Int.ediv_one]; omega]
  omega
theorem rsmall_neg {n : Int} (h : 0 < n) (h2 : n < 1000) : Builtin.Range.small 0 (-n) (-1) = true := by
  unfold Builtin.Range.small
  rw [rsize_neg h]
  simp only [Builtin.Range.rangeFitsLong, Bool.and_eq_true, Bool.or_eq_true, decide_eq_true_eq, beq_iff_eq]
  rw [if_neg (by decide)]
  simp only [decide_eq_true_eq, Bool.and_eq_true]
  omega

theorem meets_zip_newR (r it l : Addr) (k : Nat) (n : Int) (t u v : Tok) (hn : 0 < n) (hn2 : n < 1000) :
    Meets (Builtin.«zip.__new__» ⟨[.type "zip", .ref r, .ref it], []⟩) (fun _ R s => IsRange s.heap r 0 (-n) (-1) t u v ∧ s.heap.IsListIter it l k ∧
      R (.ok (.ret (.ref (zr3 s.heap n it).objs.size))) { s with heap := zr4 s.heap n it }) :=
  .of_wp fun prog w A R s h => by
    obtain ⟨hp, g, d, tk, os⟩ := s; obtain ⟨hr, hit, h⟩ := h
    have hsub := PySem.sub_zip
    have hs := rsmall_neg hn hn2
    have he := rsize_neg hn
    have hR : IsRange (Shared.heap ⟨hp, g, d, tk, os⟩) r 0 (-n) (-1) t u v := hr
    have hI : Heap.IsListIter (Shared.heap ⟨hp.push { cls := .type "range_iterator", data := .fields #[rawInt 0, rawInt (Builtin.Range.rangeSize 0 (-n) (-1)), rawInt (-1)] }, g, d, tk, os⟩) it l k := hit.at fun o e => Heap.get?_push_of_some _ e
    wp_walk using wpAny_pyIter_range hR hs, wpAny_pyIter_listiter hI
    rw [he]
    exact ⟨_, rfl, h⟩

theorem call_zipR {prog : Program} {w : World} {A : Around} {E : Value → Shared → Prop} {s : Shared} {r it l : Addr} {k : Nat} {n : Int} {t u v : Tok} {Q : Value → Shared → Prop} (hn : 0 < n) (hn2 : n < 1000) (hr : IsRange s.heap r 0 (-n) (-1) t u v) (hit : s.heap.IsListIter it l k)
    (h : ∀ h', IsZip h' (s.heap.objs.size + 3) (s.heap.objs.size + 1) (s.heap.objs.size + 2) .none → IsPair h' (s.heap.objs.size + 1) (.ref s.heap.objs.size) (.ref it) → IsPair h' (s.heap.objs.size + 2) .none .none → IsRangeIter h' s.heap.objs.size 0 n (-1) →
      (∀ c o, s.heap.get? c = some o → h'.get? c = some o) → Q (.ref (s.heap.objs.size + 3)) { s with heap := h' }) : wpAny (model prog w) A (call (.type "zip") [.ref r, .ref it]) Q E s := by
  refine callType_new PySem.F.called_zip (by decide) (PySem.F.typeCall_zip_2 _ _) (PySem.F.newCall_zip_2 _ _) (fun obj => PySem.F.args_object_init_3 obj _ _) PySem.F.entry_zip_new
    (meets_zip_newR r it l k n t u v hn hn2) ⟨hr, hit, ?_⟩
  have z1 : (zr1 s.heap n).objs.size = s.heap.objs.size + 1 := Heap.size_push ..
  have z2 : (zr2 s.heap n it).objs.size = s.heap.objs.size + 2 := by rw [Heap.size_push, z1]
  have z3 : (zr3 s.heap n it).objs.size = s.heap.objs.size + 3 := by rw [Heap.size_push, z2]
  have g4 : (zr4 s.heap n it).get? (zr3 s.heap n it).objs.size = some _ := Heap.get?_push_size _ rfl
  have g3 : (zr4 s.heap n it).get? (zr2 s.heap n it).objs.size = some _ := Heap.get?_push_of_some _ (Heap.get?_push_size _ rfl)
  have g2 : (zr4 s.heap n it).get? (zr1 s.heap n).objs.size = some _ := Heap.get?_push_of_some _ (Heap.get?_push_of_some _ (Heap.get?_push_size _ rfl))
  have g1 : (zr4 s.heap n it).get? s.heap.objs.size = some _ := Heap.get?_push_of_some _ (Heap.get?_push_of_some _ (Heap.get?_push_of_some _ (Heap.get?_push_size _ rfl)))
  show _ ∧ _
  rw [z1, z2, z3] at g4
  rw [z2] at g3
  rw [z1] at g2
  rw [z3]
  exact ⟨⟨_, g4, rfl⟩, h _ g4 g2 g3 g1 fun c o x => Heap.get?_push_of_some _ (Heap.get?_push_of_some _ (Heap.get?_push_of_some _ (Heap.get?_push_of_some _ x)))⟩

noncomputable def zipPairs (xs : List AVal) (n : Nat) : List AVal := (xs.take n).zipIdx.map fun p => .tup [p.1, .int (-(p.2 : Int))]
theorem zipPairs_succ {xs : List AVal} {n : Nat} {x : AVal} (h : xs[n]? = some x) : zipPairs xs (n + 1) = zipPairs xs n ++ [.tup [x, .int (-(n : Int))]] := by
  unfold zipPairs
  obtain ⟨hlt, rfl⟩ := List.getElem?_eq_some_iff.mp h
  rw [List.take_succ_eq_append_getElem hlt, List.zipIdx_append, List.map_append]
  congr 1
  simp [Nat.min_eq_left (Nat.le_of_lt hlt)]
theorem zipPairs_len {xs : List AVal} {n : Nat} : (zipPairs xs n).length ≤ xs.length := by
  unfold zipPairs
  rw [List.length_map, List.length_zipIdx, List.length_take]
  exact Nat.min_le_right _ _

section
variable {Z : Amb} {S : Sx}
/-- [(elem, i) for i, elem in zip(range(0, -n, -1), it)] to a name -/
noncomputable def sZip (iR : Nat) (f0 f1 f2 fi : ASt → Option AVal) : AS := fun st => (f0 st).bind fun a0 => (f1 st).bind fun a1 => (f2 st).bind fun a2 => (fi st).bind fun ai => a0.int?.bind fun z0 => a1.int?.bind fun z1 => a2.int?.bind fun z2 => ai.cell?.bind fun j => match st.cells[j]? with
  | some (.itL xs 0) => if z0 = 0 ∧ z2 = -1 ∧ z1 < 0 ∧ (-z1).toNat ≤ xs.length ∧ xs.length < 1000 then some (.next, stv iR (.cell st.cells.length) { st with cells := st.cells.set j (.itL xs (-z1).toNat) ++ [.lst (zipPairs xs (-z1).toNat)] }) else none
  | _ => none

inductive ZipAt (s : Shared) (I : Addr) (n : Int) (v : Value) (s2 : Shared) : Prop
  | mk (b : Addr) (e : v = .ref (b + 3)) (k : Kp s s2) (hf : ∀ x, b ≤ x → s.heap.get? x = none) (z : IsZip s2.heap (b + 3) (b + 1) (b + 2) .none) (ti : IsPair s2.heap (b + 1) (.ref b) (.ref I)) (to : IsPair s2.heap (b + 2) .none .none) (ri : IsRangeIter s2.heap b 0 n (-1))
/-- the source: a zip object over a range and the iterator -/
theorem zip_src {k : Nat} {zx rx : Str} {zp rp cp rcp : Pos} {e0 e1 e2 eit : Expr} {f0 f1 f2 fi : ASt → Option AVal} (hz : RP Z S k (.Name zx zp) (fun _ => some (.cst (.type "zip")))) (hr0 : RP Z S k (.Name rx rp) (fun _ => some (.cst (.type "range")))) (R0 : RP Z S k e0 f0) (R1 : RP Z S k e1 f1) (R2 : RP Z S k e2 f2) (Ri : RP Z S k eit fi)
    (hs1 : ∀ env, starEach [e0, e1, e2] env = (false, eval e0 env) :: starEach [e1, e2] env) (hs2 : ∀ env, starEach [e1, e2] env = (false, eval e1 env) :: starEach [e2] env) (hs3 : ∀ env, starEach [e2] env = [(false, eval e2 env)]) (hs4 : ∀ env, starEach [eit] env = [(false, eval eit env)])
    {A : Around} {env : Env} {own D γ : List Addr} {st : ASt} {s : Shared} {E : Value → Shared → Prop} {n : Int} {j : Nat} {xs : List AVal} {kk : Nat} {I : Addr} (q0 : f0 st = some (.int 0)) (q1 : f1 st = some (.int (-n))) (q2 : f2 st = some (.int (-1))) (qi : fi st = some (.cell j)) (hj : st.cells[j]? = some (.itL xs kk)) (hI : γ[j]? = some I) (hn : 0 < n) (hn2 : n < 1000)
    (r : Rel Z S env own D γ st s.heap) (hr : Room A k) :
    wpAny Z.M A (eval (.Call (.Name zx zp) [.Call (.Name rx rp) [e0, e1, e2] [] rcp, eit] [] cp) env) (ZipAt s I n) E s := by
  show wpAny _ _ (eval (.Name zx zp) env >>= fun f => callWith cp f [] (backTo cp (starEach [.Call (.Name rx rp) [e0, e1, e2] [] rcp, eit] env)) (backToKw cp (keywordEach [] env))) _ _ _
  refine wpAny_bind (hz.use rfl r hr fun v s1 k1 v1 => ?_)
  obtain rfl := vrel_cst v1
  have hst : starEach [.Call (.Name rx rp) [e0, e1, e2] [] rcp, eit] env = [(false, eval (.Call (.Name rx rp) [e0, e1, e2] [] rcp) env), (false, eval eit env)] := by
    show (false, eval (.Call (.Name rx rp) [e0, e1, e2] [] rcp) env) :: starEach [eit] env = _
    rw [hs4]
  refine callWith_of (P := fun h => ∀ b o, Z.H0.get? b = some o → h.get? b = some o) (by rw [hst]; rfl) (keep_type _) ?_
  rw [hst]
  have r1 := r.keeps' k1
  have R3 : RPs Z S k [e0, e1, e2] (consF f0 (consF f1 (consF f2 nilF))) := rps_cons R0 (rps_cons R1 (rps_cons R2 rps_nil fun env => by rw [hs3]; rfl) hs2) hs1
  refine evalArgs_plain (spliced_cons (callName hr0 R3 rks_nil rfl (.inr ⟨_, _, rfl, hs1⟩) (fun env => by rw [hs1, hs2, hs3]; rfl) rfl (as := [.int 0, .int (-n), .int (-1)]) (by unfold consF nilF; rw [q0, q1, q2]; rfl) rfl r1 hr (keep_type _) fun vs kvs s2 k2 v2 v3 => ?_))
  obtain rfl := vrels_nil v3
  obtain ⟨u0, u1, u2, rfl, g0, g1, g2⟩ := vrels_3 v2
  obtain ⟨t0, rfl⟩ := vrel_int g0
  obtain ⟨t1, rfl⟩ := vrel_int g1
  obtain ⟨t2, rfl⟩ := vrel_int g2
  have r2 := r1.keeps' k2
  refine call_range_3 (by decide) ?_ (.inl (PyProof.noPylong_small (by omega)))
  let s3 : Shared := { s2 with heap := s2.heap.push { cls := .type "range", data := .fields #[.int 0 t0, .int (-n) t1, .int (-1) t2] }, toks := s2.toks }
  have k3 : Kp s2 s3 := ⟨_, _, rfl, fun b o e => Heap.get?_push_of_some _ e⟩
  have r3 := r2.keeps' k3
  refine spliced_cons (Ri.use qi r3 hr fun v4 s4 k4 w4 => spliced_nil ?_)
  obtain ⟨I', rfl, hI'⟩ := vrel_cell w4
  obtain rfl : I = I' := Option.some.inj (hI.symm.trans hI')
  have r4 := r3.keeps' k4
  refine ⟨r4.base, ?_⟩
  obtain ⟨l, vs, hit, _⟩ := cell_itL (r4.cells.2 j I _ hI hj)
  have hrg : IsRange s4.heap s2.heap.objs.size 0 (-n) (-1) t0 t1 t2 := k4.get (IsRange.new ..)
  refine call_zipR hn hn2 hrg hit fun h' a1 a2 a3 a4 hk => ⟨s4.heap.objs.size, rfl, (((k1.trans k2).trans k3).trans k4).trans ⟨h', _, rfl, hk⟩, fun x hx => (((k1.trans k2).trans k3).trans k4).free (none_of_size hx), a1, a2, a3, a4⟩
end
end Mine

end
section

namespace Mine
section
variable {Z : Amb} {S : Sx}

theorem cells_set {D γ : List Addr} {cs : List ACell} {h h' : Heap} {j : Nat} {I : Addr} {c : ACell} (w : Wd Z D γ cs h) (hj : γ[j]? = some I) (hD : ∀ b o, b ∉ D → h.get? b = some o → h'.get? b = some o) (hk : ∀ b ∈ γ, b ≠ I → ∀ o, h.get? b = some o → h'.get? b = some o) (hc : CellR Z h' D γ I c) : CellsR Z h' D γ (cs.set j c) :=
  ⟨by rw [List.length_set]; exact w.cells.1, fun i b d h1 h2 => by
    rcases getElem?_set_cases h2 with ⟨rfl, q⟩ | ⟨q, h3⟩
    · cases q
      rw [hj] at h1; cases h1
      exact hc
    · have hb : b ≠ I := fun e => q (idx_nodup w.γnd hj (e ▸ h1))
      exact (w.cells.2 i b d h1 h3).mono hD fun o e => hk b (List.mem_of_getElem? h1) hb o e⟩

theorem Rel.overL {env : Env} {own D D₂ γ L : List Addr} {st : ASt} {h h' : Heap} (r : Rel Z S env own D γ st h) (hk : ∀ b o, b ∉ L → h.get? b = some o → h'.get? b = some o) (hL : ∀ b ∈ L, b ∈ D ∧ b ∉ own ∧ b ∉ γ ∧ ∀ (x : Str) (c : Addr), env.cells.lookup x = some c → c ≠ b)
    (hD : ∀ d ∈ D₂, d ∈ D) (ho : ∀ a ∈ own, a ∈ D₂) (hγ : ∀ a ∈ γ, a ∈ D₂) (hcap : ∀ (x : Str) (c : Addr), env.cells.lookup x = some c → c ∈ D₂) (hlive : ∀ d ∈ D₂, ∃ o, h'.get? d = some o) : Rel Z S env own D₂ γ st h' := by
  have kD : ∀ b o, b ∉ D → h.get? b = some o → h'.get? b = some o := fun b o hb e => hk b o (fun q => hb (hL b q).1) e
  have up : ∀ {v : Value} {a : AVal}, VRel Z h D γ v a → VRel Z h' D₂ γ v a := fun x => by
    have := VRel.grow (ex := []) (D' := D₂) (fun a ha => .inl (hD a ha)) (x.mono kD)
    rwa [List.append_nil] at this
  exact { r with
    ownD := ho
    γD := hγ
    cap := fun x c h => ⟨hcap x c h, (r.cap x c h).2⟩
    base := fun b o e => hk b o (fun q => by have := (r.live b (hL b q).1).1; rw [e] at this; cases this) (r.base b o e)
    live := fun d hd => ⟨(r.live d (hD d hd)).1, hlive d hd⟩
    ns := by
      obtain ⟨m, hn, hm⟩ := r.ns
      refine ⟨m, hn.at' fun o e => hk _ o (fun q => (hL _ q).2.1 r.Lown) e, fun i x h1 h2 av h3 => ?_⟩
      obtain ⟨v, e, rv⟩ := hm i x h1 h2 av h3
      exact ⟨v, e, up rv⟩
    cl := fun i x h1 h2 => by
      obtain ⟨c, vo, e1, ⟨o, ho, hd⟩, e3⟩ := r.cl i x h1 h2
      refine ⟨c, vo, e1, ⟨o, hk c o (fun q => (hL c q).2.2.2 x c e1 rfl) ho, hd⟩, fun av h3 => ?_⟩
      obtain ⟨v, e, rv⟩ := e3 av h3
      exact ⟨v, e, up rv⟩
    cells := (r.cells.mono kD fun a ha o e => hk a o (fun q => (hL a q).2.2.1 ha) e).grow fun a ha => .inl (hD a ha) }

theorem apart4 (b : Nat) : b + 1 ≠ b + 3 ∧ b + 2 ≠ b + 3 ∧ b ≠ b + 3 ∧ b + 1 ≠ b + 2 ∧ b + 1 ≠ b ∧ b + 2 ≠ b :=
  ⟨fun h => absurd (Nat.add_left_cancel h) (by decide), fun h => absurd (Nat.add_left_cancel h) (by decide), fun h => absurd (Nat.add_left_cancel (m := 0) h) (by decide), fun h => absurd (Nat.add_left_cancel h) (by decide), fun h => absurd (Nat.add_left_cancel (k := 0) h) (by decide), fun h => absurd (Nat.add_left_cancel (k := 0) h) (by decide)⟩
theorem mem4 {p : Addr → Prop} {a b c d : Addr} (ha : p a) (hb : p b) (hc : p c) (hd : p d) : ∀ x ∈ [a, b, c, d], p x := fun x hx => by
  simp only [List.mem_cons, List.not_mem_nil, or_false] at hx
  rcases hx with rfl | rfl | rfl | rfl
  · exact ha
  · exact hb
  · exact hc
  · exact hd
theorem nmem4 {x a b c d : Addr} (ha : x ≠ a) (hb : x ≠ b) (hc : x ≠ c) (hd : x ≠ d) : x ∉ [a, b, c, d] := fun h => mem4 (p := fun y => x ≠ y) ha hb hc hd x h rfl
structure Ne4 (x a b c d : Addr) : Prop where
  a : x ≠ a
  b : x ≠ b
  c : x ≠ c
  d : x ≠ d
theorem ne4 {x a b c d : Addr} (h : x ∉ [a, b, c, d]) : Ne4 x a b c d := by
  simp only [List.mem_cons, List.not_mem_nil, or_false, not_or] at h
  exact ⟨h.1, h.2.1, h.2.2.1, h.2.2.2⟩
theorem mem2 {p : Addr → Prop} {a b : Addr} (ha : p a) (hb : p b) : ∀ x ∈ [a, b], p x := fun x hx => by
  simp only [List.mem_cons, List.not_mem_nil, or_false] at hx
  rcases hx with rfl | rfl
  · exact ha
  · exact hb
theorem ne2 {x a b : Addr} (h : x ∉ [a, b]) : x ≠ a ∧ x ≠ b := by simpa using h
inductive ZInv (Z : Amb) (S' : Sx) (env : Env) (own D γ : List Addr) (cs : List ACell) (s : Shared) (a b I : Addr) (xs : List AVal) (N j : Nat) (n : Nat) (s' : Shared) : Prop
  | mk (m : Nat) (x0 x1 : Option AVal) (b1 b2 : Value) (e : n = N + 1 - m) (hm : m ≤ N) (c : Chg ([b, b + 2, b + 3, I] ++ (own ++ [a])) s s') (r : Rel Z S' env own D γ { loc := [x0, x1], cells := cs.set j (.itL xs m) } s'.heap) (g : CellR Z s'.heap D γ a (.lst (zipPairs xs m)))
      (z : IsZip s'.heap (b + 3) (b + 1) (b + 2) .none) (ti : IsPair s'.heap (b + 1) (.ref b) (.ref I)) (to : IsPair s'.heap (b + 2) b1 b2) (ri : IsRangeIter s'.heap b (-(m : Int)) ((N : Int) - (m : Int)) (-1))
theorem zip_emit {xs : List AVal} {m : Nat} {v0 v1 : Option AVal} {x : AVal} {cs : List ACell} (h : xs[m]? = some x) (hlen : xs.length < 1000) :
    emitL (pTup (consF (ldv 1) (consF (ldv 0) nilF))) (stv 1 x (stv 0 (.int (-(m : Int))) { loc := [v0, v1], cells := cs })) (.lst (zipPairs xs m)) = some (.lst (zipPairs xs (m + 1)), { loc := [some (.int (-(m : Int))), some x], cells := cs }) := by
  have hlz : (zipPairs xs m).length < 1000 := Nat.lt_of_le_of_lt zipPairs_len hlen
  rw [zipPairs_succ h]
  simp [emitL, ACell.lst?, pTup, consF, nilF, ldv, stv, hlz]
theorem neg_succ (N m : Nat) : -(((m + 1 : Nat)) : Int) = -(m : Int) + -1 ∧ (N : Int) - ((m + 1 : Nat) : Int) = (N : Int) - (m : Int) - 1 :=
  ⟨by rw [Int.natCast_add, Int.neg_add]; rfl, by rw [Int.natCast_add, ← Int.sub_sub]; rfl⟩
/-- the loop of the zip's comprehension -/
theorem zip_loop {k : Nat} {elt target iter : Expr} {scope : Scope} {pos p4 p5 p6 : Pos} {xi xe : Str} {n2 : Nat} (hT : target = .Tuple [.Name xi p4, .Name xe p5] n2 p6) {S' : Sx} (hxi : chkSt S' 0 xi = true) (hxe : chkSt S' 1 xe = true)
    (Rb : RBody Z S' k (fun acc env => do let _ ← call (.builtin "list.append") [acc, ← eval elt env]) (emitL (pTup (consF (ldv 1) (consF (ldv 0) nilF)))))
    {A : Around} {env : Env} {own D γ : List Addr} {cs : List ACell} {s : Shared} {a b I : Addr} {xs : List AVal} {N j : Nat} {R : Result → Shared → Prop} {x0 x1 : Option AVal}
    (r : Rel Z S' env own D γ { loc := [x0, x1], cells := cs } s.heap) (hr : Room A k) (hj : γ[j]? = some I) (hcj : cs[j]? = some (.itL xs 0)) (hN : N ≤ xs.length) (hlen : xs.length < 1000)
    (hc : CellR Z s.heap D γ a (.lst [])) (ha : a ∈ D) (hao : a ∉ own) (haγ : a ∉ γ) (hac : ∀ (x : Str) (c : Addr), env.cells.lookup x = some c → c ≠ a)
    (hz : IsZip s.heap (b + 3) (b + 1) (b + 2) .none) (hTI : IsPair s.heap (b + 1) (.ref b) (.ref I)) (hTO : IsPair s.heap (b + 2) .none .none) (h1 : IsRangeIter s.heap b 0 N (-1))
    (hzD : b ∈ D ∧ b + 1 ∈ D ∧ b + 2 ∈ D ∧ b + 3 ∈ D) (hzo : ∀ x, x = b ∨ x = b + 1 ∨ x = b + 2 ∨ x = b + 3 → x ∉ own ∧ x ∉ γ ∧ x ≠ a ∧ ∀ (y : Str) (c : Addr), env.cells.lookup y = some c → c ≠ x)
    {Dn : List Addr} (hDn : ∀ d ∈ Dn, d ∈ D ∧ d ≠ b ∧ d ≠ b + 1 ∧ d ≠ b + 2 ∧ d ≠ b + 3) (ho : ∀ d ∈ own, d ∈ Dn) (hγ : ∀ d ∈ γ, d ∈ Dn) (hcap : ∀ (x : Str) (c : Addr), env.cells.lookup x = some c → c ∈ Dn)
    (hR : ∀ s' loc', Chg ([b, b + 2, b + 3, I] ++ (own ++ [a])) s s' → Rel Z S' env own Dn γ { loc := loc', cells := cs.set j (.itL xs N) } s'.heap → CellR Z s'.heap Dn γ a (.lst (zipPairs xs N)) → R (.ok .next) s') :
    codeAny Z.M A (.compLoop (.ListComp elt [⟨target, iter, [], 0⟩] scope pos) 0 (.ref (b + 3)) (.ref a) env) R s := by
  obtain ⟨n13, n23, n03, n12, n10, n20⟩ := apart4 b
  have T := turn_list (Z := Z) (elt := elt) (target := target) (iter := iter) (ifs := []) (scope := scope) (pos := pos)
  obtain ⟨_, hi0, hk0, hkd0, _⟩ := chkSt_ok hxi
  obtain ⟨_, hi1, hk1, hkd1, _⟩ := chkSt_ok hxe
  have hIγ : I ∈ γ := List.mem_of_getElem? hj
  have hID : I ∈ D := r.γD I hIγ
  have o0 := hzo _ (.inl rfl)
  have o1 := hzo _ (.inr (.inl rfl))
  have o2 := hzo _ (.inr (.inr (.inl rfl)))
  have o3 := hzo _ (.inr (.inr (.inr rfl)))
  have hIa : I ≠ a := fun q => haγ (q ▸ hIγ)
  have I0 : I ≠ b := fun q => o0.2.1 (q ▸ hIγ)
  have I1 : I ≠ b + 1 := fun q => o1.2.1 (q ▸ hIγ)
  have I2 : I ≠ b + 2 := fun q => o2.2.1 (q ▸ hIγ)
  have I3 : I ≠ b + 3 := fun q => o3.2.1 (q ▸ hIγ)
  have hLD : ∀ x ∈ [b, b + 2, b + 3, I], x ∈ D ∧ x ∉ own ∧ ∀ (y : Str) (c : Addr), env.cells.lookup y = some c → c ≠ x :=
    mem4 ⟨hzD.1, o0.1, o0.2.2.2⟩ ⟨hzD.2.2.1, o2.1, o2.2.2.2⟩ ⟨hzD.2.2.2, o3.1, o3.2.2.2⟩ ⟨hID, fun h => r.ownγ I h hIγ, fun y c h q => (r.cap y c h).2.2 (q ▸ hIγ)⟩
  have aL : a ∉ [b, b + 2, b + 3, I] := nmem4 o0.2.2.1.symm o2.2.2.1.symm o3.2.2.1.symm hIa.symm
  have turn : ∀ {n : Nat} {s' : Shared} {Q : Fin → Shared → Prop} {E : Value → Shared → Prop}, ZInv Z S' env own D γ cs s a b I xs N j n s' →
      (∀ s' m, m < n → ZInv Z S' env own D γ cs s a b I xs N j m s' → Q (.again (.compLoop (.ListComp elt [⟨target, iter, [], 0⟩] scope pos) 0 (.ref (b + 3)) (.ref a) env)) s') →
      (∀ s' loc', Chg ([b, b + 2, b + 3, I] ++ (own ++ [a])) s s' → Rel Z S' env own Dn γ { loc := loc', cells := cs.set j (.itL xs N) } s'.heap → CellR Z s'.heap Dn γ a (.lst (zipPairs xs N)) → Q (.done .next) s') →
      wpAny Z.M A (compTurn (.ListComp elt [⟨target, iter, [], 0⟩] scope pos) 0 (.ref (b + 3)) (.ref a) env) Q E s' := by
    intro n s' Q E hI' ka kd
    rw [T.turn]
    obtain ⟨m, x0, x1, b1, b2, rfl, hm, c1, r1, g1, z1, ti1, to1, ri1⟩ := hI'
    by_cases hlt : m < N
    · have hmx : xs[m]? = some xs[m] := List.getElem?_eq_getElem (Nat.lt_of_lt_of_le hlt hN)
      have hjm : (cs.set j (.itL xs m))[j]? = some (.itL xs m) := by
        rw [List.getElem?_set, if_pos rfl, if_pos (List.getElem?_eq_some_iff.mp hcj).1]
      obtain ⟨l, vs, hit, hlD, hp, hvs⟩ := cell_itL (r1.cells.2 j I _ hj hjm)
      obtain ⟨v, hv1, hv2⟩ := hvs.get hmx
      generalize xs[m] = x at hmx hv2
      have lne : ∀ x, x ∈ D → l ≠ x := fun x hx q => hlD (q ▸ hx)
      refine wpAny_bind (wpAny_standAt (wpAny_bind (pyNext_zipR_item ⟨n13, n23, n03, I3, n12, n10, I1.symm, n20, I2.symm, I0.symm, lne _ hzD.2.2.2, lne _ hzD.2.2.1, lne _ hzD.1, lne _ hID⟩ z1 ti1 to1 ri1 (Int.sub_pos_of_lt (Int.ofNat_lt.mpr hlt)) hit hp.isList (by rw [List.getElem?_toArray]; exact hv1) fun h2 tk2 z2 to2 ri2 it2 tp2 _ hk2 => ?_)))
      have k2 : ∀ c o, c ∉ [b, b + 2, b + 3, I] → s'.heap.get? c = some o → h2.get? c = some o := fun c o hc e => hk2 c o (ne4 hc).c (ne4 hc).b (ne4 hc).a (ne4 hc).d e
      have kD2 : ∀ c o, c ∉ D → s'.heap.get? c = some o → h2.get? c = some o := fun c o hc e => k2 c o (fun h => hc (hLD c h).1) e
      have ti2 : IsPair h2 (b + 1) (.ref b) (.ref I) := k2 _ _ (nmem4 n10 n12 n13 I1.symm) ti1
      have cr2 : CellR Z h2 D γ I (.itL xs (m + 1)) := .itL it2 hlD (hp.at fun o e => kD2 l o hlD e) (hvs.mono kD2)
      have cells2 : CellsR Z h2 D γ ((cs.set j (.itL xs m)).set j (.itL xs (m + 1))) := cells_set r1.wd hj kD2 (fun c hcγ hcI o e => k2 c o (nmem4 (fun q => o0.2.1 (q ▸ hcγ)) (fun q => o2.2.1 (q ▸ hcγ)) (fun q => o3.2.1 (q ▸ hcγ)) hcI) e) cr2
      rw [List.set_set] at cells2
      have r2 : Rel Z S' env own D γ { loc := [x0, x1], cells := cs.set j (.itL xs (m + 1)) } h2 := r1.upd k2 hLD (fun d hd => by
        by_cases q : d ∈ [b, b + 2, b + 3, I]
        · exact mem4 (p := fun d => ∃ o, h2.get? d = some o) ⟨_, ri2⟩ ⟨_, to2⟩ ⟨_, z2⟩ cr2.live d q
        · obtain ⟨o, e⟩ := (r1.live d hd).2
          exact ⟨o, k2 d o q e⟩) cells2
      have g2 : CellR Z h2 D γ a (.lst (zipPairs xs m)) := g1.mono kD2 fun o e => k2 a o aL e
      have v2 : VRel Z h2 D γ (.ref s'.heap.objs.size) (.tup [.int (-(m : Int)), x]) := .tup r1.wd.new ⟨0, tp2⟩ (.cons (.int _ _) (.cons (hv2.mono kD2) .nil))
      rw [hT] at ka ⊢
      refine wpAny_bind (wpAny_letOwnedTupleGo_zip (s := { s' with heap := h2, toks := tk2 }) z2 fun h3 z3 hs3 => ?_)
      have hs3e : ∀ c o, c ≠ b + 3 → h2.get? c = some o → h3.get? c = some o := fun c o hc e => hs3.extBut c o hc e
      have r3 : Rel Z S' env own D γ { loc := [x0, x1], cells := cs.set j (.itL xs (m + 1)) } h3 := r2.over (I := b + 3) hs3e hzD.2.2.2 o3.1 o3.2.1 o3.2.2.2 (fun _ h => h) r2.ownD r2.γD (fun x c h => (r2.cap x c h).1) fun d hd => by
        by_cases q : d = b + 3
        · rw [q]; exact ⟨_, z3⟩
        · obtain ⟨o, e⟩ := (r2.live d hd).2; exact ⟨o, hs3e d o q e⟩
      have kD3 : ∀ c o, c ∉ D → h2.get? c = some o → h3.get? c = some o := fun c o hc e => hs3e c o (fun q => hc (q ▸ hzD.2.2.2)) e
      have g3 : CellR Z h3 D γ a (.lst (zipPairs xs m)) := g2.mono kD3 fun o e => hs3e a o o3.2.2.1.symm e
      refine wpAny_bind (unpack2 hi0 hk0 hkd0 hi1 hk1 hkd1 r3 (v2.mono kD3) hr fun s4 c4 r4 => ?_)
      have g4 : CellR Z s4.heap D γ a (.lst (zipPairs xs m)) := g3.mono (fun c o hc e => c4.get (fun h => hc (r.ownD c h)) e) fun o e => c4.get hao e
      refine wpAny_bind ?_
      rw [List.forIn_nil]
      refine wpAny_pure (wpAny_bind (wpAny_mono (Rb (zip_emit hmx hlen) r4 g4 ha hao haγ hac hr) (fun _ s5 h5 => wpAny_pure ?_) fun _ _ x => x))
      obtain ⟨c5, r5, g5⟩ := h5
      have c35 : Chg (own ++ [a]) { s' with heap := h3, toks := tk2 } s5 := (c4.mono fun c h => List.mem_append_left _ h).trans c5 fun c h => .inl h
      have stay : ∀ x, x ∉ own ∧ x ∉ γ ∧ x ≠ a ∧ (∀ (y : Str) (c : Addr), env.cells.lookup y = some c → c ≠ x) → ∀ o, h3.get? x = some o → s5.heap.get? x = some o := fun x hx o e => c35.get (fun h => (List.mem_append.mp h).elim hx.1 fun h => hx.2.2.1 (List.mem_singleton.mp h)) e
      have c13 : Chg ([b, b + 2, b + 3, I] ++ (own ++ [a])) s { s' with heap := h3, toks := tk2 } := c1.trans (L' := [b, b + 2, b + 3, I]) ⟨h3, tk2, rfl, fun c o hc e => hs3e c o (ne4 hc).c (k2 c o hc e)⟩ fun c h => .inl (List.mem_append_left _ h)
      refine ka _ (N + 1 - (m + 1)) (Nat.sub_lt_sub_left (Nat.lt_succ_of_lt hlt) (Nat.lt_succ_self m)) ⟨m + 1, _, _, _, _, rfl, hlt, c13.trans c35 fun c h => .inl (List.mem_append_right _ h), r5, g5, stay _ o3 _ z3, stay _ o1 _ (hs3e _ _ n13 ti2), stay _ o2 _ (hs3e _ _ n23 to2), ?_⟩
      rw [(neg_succ N m).1, (neg_succ N m).2]
      exact stay _ o0 _ (hs3e _ _ n03 ri2)
    · obtain rfl : m = N := Nat.le_antisymm hm (Nat.not_lt.mp hlt)
      refine wpAny_bind (wpAny_standAt (wpAny_bind (pyNext_zipR_end hr.handled n03 z1 ti1 to1 ri1 (Int.le_of_eq (Int.sub_self _)) fun h2 hk2 => wpAny_pure ?_)))
      have k2 : ∀ c o, c ∉ [b, b + 3] → s'.heap.get? c = some o → h2.get? c = some o := fun c o hc e => hk2 c o (ne2 hc).2 (ne2 hc).1 e
      have nz : ∀ x ∈ [b, b + 3], x ∈ D ∧ x ∉ own ∧ x ∉ γ ∧ ∀ (y : Str) (c : Addr), env.cells.lookup y = some c → c ≠ x := mem2 ⟨hzD.1, o0.1, o0.2.1, o0.2.2.2⟩ ⟨hzD.2.2.2, o3.1, o3.2.1, o3.2.2.2⟩
      have na : ∀ x ∈ [b, b + 3], a ≠ x := mem2 o0.2.2.1.symm o3.2.2.1.symm
      have r2 : Rel Z S' env own Dn γ { loc := [x0, x1], cells := cs.set j (.itL xs m) } h2 := r1.overL k2 nz (fun d h => (hDn d h).1) ho hγ hcap fun d hd => by
        obtain ⟨o, e⟩ := (r1.live d (hDn d hd).1).2
        exact ⟨o, k2 d o (fun h => mem2 (p := fun y => d ≠ y) (hDn d hd).2.1 (hDn d hd).2.2.2.2 d h rfl) e⟩
      have g2 : CellR Z h2 Dn γ a (.lst (zipPairs xs m)) := by
        have := (g1.mono (fun c o hc e => k2 c o (fun h => hc (nz c h).1) e) fun o e => k2 a o (fun h => na a h rfl) e).grow (ex := []) (D' := Dn) fun c hc => .inl (hDn c hc).1
        rwa [List.append_nil] at this
      exact kd _ _ (c1.trans (L' := [b, b + 3]) ⟨h2, _, rfl, k2⟩ fun c h => .inl (List.mem_append_left _ (mem2 (p := fun y => y ∈ [b, b + 2, b + 3, I]) (.head _) (.tail _ (.tail _ (.head _))) c h))) r2 g2
  refine codeAny_loop (T.quiet _ _ _) (fun n s' => ZInv Z S' env own D γ cs s a b I xs N j n s') (fun n s' hI' => ?_) (N + 1)
    ⟨0, x0, x1, .none, .none, rfl, Nat.zero_le _, (Kp.refl s).chg _, ?_, hc, hz, hTI, hTO, by simpa using h1⟩
  · rw [T.under, T.den]
    exact wpAny_noted (turn hI' (fun s' m hm i => ⟨rfl, m, hm, i⟩) hR)
  · have e0 : cs.set j (.itL xs 0) = cs := by
      obtain ⟨hlt, e⟩ := List.getElem?_eq_some_iff.mp hcj
      rw [← e]; exact List.set_getElem_self hlt
    rw [e0]; exact r
end
end Mine

end
section

namespace Mine
section
variable {Z : Amb} {S : Sx}

theorem Rel.big {env : Env} {own D γ L ex ex2 : List Addr} {st : ASt} {h h' : Heap} {cs' : List ACell} (r : Rel Z S env own D γ st h) (hk : ∀ b o, b ∉ L → h.get? b = some o → h'.get? b = some o) (hL : ∀ b ∈ L, b ∈ D ∧ b ∉ own ∧ ∀ (x : Str) (c : Addr), env.cells.lookup x = some c → c ≠ b)
    (hex : ∀ a ∈ ex, h.get? a = none) (h2 : ∀ a ∈ ex2, a ∈ ex) (hn : ex2.Nodup) (hlive : ∀ d ∈ D ++ ex, ∃ o, h'.get? d = some o) (hc : CellsR Z h' (D ++ ex) (γ ++ ex2) cs') : Rel Z S env own (D ++ ex) (γ ++ ex2) { st with cells := cs' } h' := by
  have hD : ∀ a, a ∈ D ++ ex → a ∈ D ∨ h.get? a = none := fun a ha => (List.mem_append.mp ha).imp id (hex a)
  have up : ∀ {v : Value} {a : AVal}, VRel Z h D γ v a → VRel Z h' (D ++ ex) (γ ++ ex2) v a := fun x => (x.grow hD).mono fun b o hb e => hk b o (fun q => hb (List.mem_append_left _ (hL b q).1)) e
  have exD : ∀ a ∈ ex, a ∉ D := fun a ha h => by obtain ⟨o, e⟩ := (r.live a h).2; rw [hex a ha] at e; cases e
  exact { r with
    ownD := fun a ha => List.mem_append_left _ (r.ownD a ha)
    γD := fun a ha => by
      rcases List.mem_append.mp ha with h | h
      · exact List.mem_append_left _ (r.γD a h)
      · exact List.mem_append_right _ (h2 a h)
    γnd := List.nodup_append.mpr ⟨r.γnd, hn, fun x hx y hy q => exD y (h2 y hy) (q ▸ r.γD x hx)⟩
    ownγ := fun a ha h => by
      rcases List.mem_append.mp h with h | h
      · exact r.ownγ a ha h
      · exact exD a (h2 a h) (r.ownD a ha)
    cap := fun x c h => ⟨List.mem_append_left _ (r.cap x c h).1, (r.cap x c h).2.1, fun hm => by
      rcases List.mem_append.mp hm with hm | hm
      · exact (r.cap x c h).2.2 hm
      · exact exD c (h2 c hm) (r.cap x c h).1⟩
    base := fun b o e => hk b o (fun q => by have := (r.live b (hL b q).1).1; rw [e] at this; cases this) (r.base b o e)
    live := fun d hd => by
      refine ⟨?_, hlive d hd⟩
      rcases List.mem_append.mp hd with hd | hd
      · exact (r.live d hd).1
      · cases e : Z.H0.get? d with
        | none => rfl
        | some o => have := r.base d o e; rw [hex d hd] at this; cases this
    ns := by
      obtain ⟨m, hn, hm⟩ := r.ns
      refine ⟨m, hn.at' fun o e => hk _ o (fun q => (hL _ q).2.1 r.Lown) e, fun i x h1 h2 av h3 => ?_⟩
      obtain ⟨v, e, rv⟩ := hm i x h1 h2 av h3
      exact ⟨v, e, up rv⟩
    cl := fun i x h1 h2 => by
      obtain ⟨c, vo, e1, ⟨o, ho, hd⟩, e3⟩ := r.cl i x h1 h2
      refine ⟨c, vo, e1, ⟨o, hk c o (fun q => (hL c q).2.2 x c e1 rfl) ho, hd⟩, fun av h3 => ?_⟩
      obtain ⟨v, e, rv⟩ := e3 av h3
      exact ⟨v, e, up rv⟩
    cells := hc }

theorem cells_snoc {D γ : List Addr} {cs : List ACell} {h : Heap} {a : Addr} {c : ACell} (x : CellsR Z h D γ cs) (hc : CellR Z h D γ a c) : CellsR Z h D (γ ++ [a]) (cs ++ [c]) := by
  have gr : ∀ {b : Addr} {d : ACell}, CellR Z h D γ b d → CellR Z h D (γ ++ [a]) b d := fun y => y.grow fun _ h => .inl h
  refine ⟨by rw [List.length_append, List.length_append, x.1]; rfl, fun i b d h1 h2 => ?_⟩
  by_cases hi : i < γ.length
  · rw [List.getElem?_append_left hi] at h1
    rw [List.getElem?_append_left (by rw [← x.1]; exact hi)] at h2
    exact gr (x.2 i b d h1 h2)
  · have hi' := Nat.not_lt.mp hi
    rw [List.getElem?_append_right hi'] at h1
    rw [List.getElem?_append_right (by rw [← x.1]; exact hi')] at h2
    obtain ⟨j, hj⟩ : ∃ j, i - γ.length = j := ⟨_, rfl⟩
    rw [← x.1, hj] at h2
    rw [hj] at h1
    match j, h1, h2 with
    | 0, h1, h2 => cases h1; cases h2; exact gr hc

inductive SZip (iR : Nat) (f0 f1 f2 fi : ASt → Option AVal) (st : ASt) (r : AFlow × ASt) : Prop
  | mk (N j : Nat) (xs : List AVal) (q0 : f0 st = some (.int 0)) (q1 : f1 st = some (.int (-(N : Int)))) (q2 : f2 st = some (.int (-1))) (q3 : fi st = some (.cell j)) (hj : st.cells[j]? = some (.itL xs 0)) (h0 : 0 < N) (hle : N ≤ xs.length) (hlen : xs.length < 1000)
      (e : r = (.next, stv iR (.cell st.cells.length) { st with cells := st.cells.set j (.itL xs N) ++ [.lst (zipPairs xs N)] }))
theorem sZip_ok {iR : Nat} {f0 f1 f2 fi : ASt → Option AVal} {st : ASt} {r : AFlow × ASt} (hf : sZip iR f0 f1 f2 fi st = some r) : SZip iR f0 f1 f2 fi st r := by
  obtain ⟨a0, q0, g1⟩ := bind_some hf
  obtain ⟨a1, q1, g2⟩ := bind_some g1
  obtain ⟨a2, q2, g3⟩ := bind_some g2
  obtain ⟨ai, q3, g4⟩ := bind_some g3
  obtain ⟨z0, u0, g5⟩ := bind_some g4
  obtain ⟨z1, u1, g6⟩ := bind_some g5
  obtain ⟨z2, u2, g7⟩ := bind_some g6
  obtain ⟨j, u3, g8⟩ := bind_some g7
  clear hf g1 g2 g3 g4 g5 g6 g7
  split at g8
  case h_2 => cases g8
  obtain ⟨hc, g9⟩ := ite_some g8
  obtain ⟨h0, h2, hneg, hle, hlen⟩ := hc
  obtain ⟨N, hN⟩ := Int.eq_ofNat_of_zero_le (Int.le_of_lt (Int.neg_pos_of_neg hneg))
  have hz : z1 = -(N : Int) := by rw [← hN, Int.neg_neg]
  rw [hN, Int.toNat_natCast] at hle g9
  refine ⟨N, j, _, by rw [q0, int?_some u0, h0], by rw [q1, int?_some u1, hz], by rw [q2, int?_some u2, h2], by rw [q3, cell?_some u3], by assumption, ?_, hle, hlen, (Option.some.inj g9).symm⟩
  exact Int.ofNat_lt.mp (hN ▸ Int.neg_pos_of_neg hneg)

theorem zip4 {s : Shared} {b : Addr} (hf : ∀ x, b ≤ x → s.heap.get? x = none) : ∀ y, y = b ∨ y = b + 1 ∨ y = b + 2 ∨ y = b + 3 → s.heap.get? y = none := fun y hy => hf y (by
  rcases hy with rfl | rfl | rfl | rfl
  · exact Nat.le_refl _
  · exact Nat.le_add_right _ _
  · exact Nat.le_add_right _ _
  · exact Nat.le_add_right _ _)
theorem mem_or4 {a b c d : Addr} : ∀ y ∈ [a, b, c, d], y = a ∨ y = b ∨ y = c ∨ y = d := mem4 (.inl rfl) (.inr (.inl rfl)) (.inr (.inr (.inl rfl))) (.inr (.inr (.inr rfl)))
theorem or4_mem {a b c d : Addr} : ∀ y, y = a ∨ y = b ∨ y = c ∨ y = d → y ∈ [a, b, c, d] := fun y h => by
  rcases h with rfl | rfl | rfl | rfl
  · exact .head _
  · exact .tail _ (.head _)
  · exact .tail _ (.tail _ (.head _))
  · exact .tail _ (.tail _ (.tail _ (.head _)))
theorem mem_last {d : Addr} {D X Y Z : List Addr} : (d ∈ D → d ∈ D ++ X ++ Y ++ Z) ∧ (d ∈ X → d ∈ D ++ X ++ Y ++ Z) ∧ (d ∈ Y → d ∈ D ++ X ++ Y ++ Z) ∧ (d ∈ Z → d ∈ D ++ X ++ Y ++ Z) :=
  ⟨fun h => List.mem_append_left _ (List.mem_append_left _ (List.mem_append_left _ h)), fun h => List.mem_append_left _ (List.mem_append_left _ (List.mem_append_right _ h)), fun h => List.mem_append_left _ (List.mem_append_right _ h), fun h => List.mem_append_right _ h⟩
/-- what stands behind the loop of the zip's comprehension -/
inductive ZipEnd (Z : Amb) (S : Sx) (env : Env) (own D γ : List Addr) (st : ASt) (s : Shared) (I : Addr) (cs' : List ACell) (a C : Addr) (s5 : Shared) : Prop
  | mk (own' : List Addr) (hC : C ∈ own') (hfr : ∀ y ∈ own', s.heap.get? y = none) (hao : a ∉ own') (has : s.heap.get? a = none) (c : Chg [I] s s5) (r : Rel Z S env own (D ++ (own' ++ [a])) (γ ++ [a]) { st with cells := cs' } s5.heap) (hn : ∃ m, s5.heap.Ns C m)

theorem zip_core {k : Nat} {e elt target iter : Expr} {scope : Scope} {pos p4 p5 p6 : Pos} {xi xe : Str} {n2 : Nat} (he : e = .ListComp elt [⟨target, iter, [], 0⟩] scope pos) (hT : target = .Tuple [.Name xi p4, .Name xe p5] n2 p6)
    (N2 : CompNames scope S (compS scope S [xi, xe] []) 2 []) (hxi : chkSt (compS scope S [xi, xe] []) 0 xi = true) (hxe : chkSt (compS scope S [xi, xe] []) 1 xe = true) (Re : RP Z (compS scope S [xi, xe] []) k elt (pTup (consF (ldv 1) (consF (ldv 0) nilF))))
    {A : Around} {env : Env} {own D γ : List Addr} {st : ASt} {s s1 : Shared} {N j : Nat} {xs : List AVal} {I : Addr} {v : Value} {E : Value → Shared → Prop} {RR : Value → Addr → Result → Shared → Prop} (rl : Rel Z S env own D γ st s.heap) (hr : Room A k) (hj : st.cells[j]? = some (.itL xs 0)) (hI : γ[j]? = some I) (hle : N ≤ xs.length) (hlen : xs.length < 1000) (hz : ZipAt s I (N : Int) v s1)
    (hend : ∀ a C s5, ZipEnd Z S env own D γ st s I (st.cells.set j (.itL xs N) ++ [.lst (zipPairs xs N)]) a C s5 → RR (.ref a) C (.ok .next) s5) :
    wpAny Z.M A (pyIter v) (fun it s₂ => wpAny Z.M A (newList []) (fun acc s₃ => wpAny Z.M A (newFunctionEnv scope env.globals (closL env.cells scope.names []) [] env.qual none .none (some env)) (fun cenv s₄ =>
      codeAny Z.M A (.compStart e 0 it acc { cenv with scope := relabel scope env }) (RR acc cenv.locals) s₄) E s₃) E s₂) E s1 := by
  obtain ⟨b, rfl, k1, hfree, z1, ti1, to1, ri1⟩ := hz
  refine wpAny_pyIter_zip z1 ?_
  have hb4 := zip4 hfree
  have lz : ∀ y ∈ [b, b + 1, b + 2, b + 3], ∃ o, s1.heap.get? y = some o := mem4 ⟨_, ri1⟩ ⟨_, ti1⟩ ⟨_, to1⟩ ⟨_, z1⟩
  have r1 : Rel Z S env own (D ++ [b, b + 1, b + 2, b + 3]) γ st s1.heap := rl.growD (fun _ _ e => k1.get e) (fun y hy => hb4 y (mem_or4 y hy)) lz
  refine newAcc_list r1.base fun h3 hk3 hc3 => ?_
  have ha1 : s1.heap.get? s1.heap.objs.size = none := none_of_size (Nat.le_refl _)
  generalize s1.heap.objs.size = a at ha1 hc3 ⊢
  have r3 : Rel Z S env own (D ++ [b, b + 1, b + 2, b + 3] ++ [a]) γ st h3 := r1.growD hk3 (fun y hy => by rw [List.mem_singleton.mp hy]; exact ha1) (fun y hy => by rw [List.mem_singleton.mp hy]; exact (hc3 [] []).live)
  obtain ⟨_, own', hC, hfr, r4⟩ := compRel N2 (s := { s1 with heap := h3 }) r3
  refine newCompEnv fun h4 hh4 => ?_
  rw [← hh4] at r4
  have k14 : ∀ c o, s1.heap.get? c = some o → h4.get? c = some o := fun c o e => by rw [hh4]; exact pushCells_keeps _ _ c o (Heap.get?_push_of_some _ (hk3 c o e))
  have g4 : CellR Z h4 (D ++ [b, b + 1, b + 2, b + 3] ++ [a] ++ own') γ a (.lst []) := (hc3 _ _).mono (fun c o _ e => by rw [hh4]; exact pushCells_keeps _ _ c o (Heap.get?_push_of_some _ e)) fun o e => by rw [hh4]; exact pushCells_keeps _ _ a o (Heap.get?_push_of_some _ e)
  have cap4 : ∀ (y : Str) (c : Addr), (cEnv scope h3.objs.size env).cells.lookup y = some c → c ∈ D ∨ c ∈ own' := fun y c h => N2.capD rl (fun d hd => (r3.live d hd).2) h (r4.cap y c h).1
  have henv : ({ scope := relabel scope env, locals := h3.objs.size, globals := env.globals, cells := cellsFrom (h3.objs.size + 1) scope.names (closL env.cells scope.names []), qual := env.qual, func := none, code := env.code, frame := env.frame, builtins := env.builtins } : Env) = cEnv scope h3.objs.size env := rfl
  show codeAny _ _ (.compStart e 0 (.ref (b + 3)) (.ref a) { scope := relabel scope env, locals := h3.objs.size, globals := env.globals, cells := cellsFrom (h3.objs.size + 1) scope.names (closL env.cells scope.names []), qual := env.qual, func := none, code := env.code, frame := env.frame, builtins := env.builtins }) (RR (.ref a) h3.objs.size) { s1 with heap := h4 }
  rw [henv]
  have hao : a ∉ own' := fun h => by obtain ⟨o, e⟩ := (hc3 [] []).live; have := hfr a h; rw [e] at this; cases this
  clear hh4 henv hc3
  generalize hce : cEnv scope h3.objs.size env = cE at r4 cap4 ⊢
  change h3.objs.size ∈ own' at hC
  generalize hC' : h3.objs.size = C at hC ⊢
  have hfr1 : ∀ y ∈ own', s1.heap.get? y = none := fun y hy => free_of hk3 (hfr y hy)
  have hfrs : ∀ y ∈ own', s.heap.get? y = none := fun y hy => k1.free (hfr1 y hy)
  have has : s.heap.get? a = none := k1.free ha1
  have nD : ∀ y, s.heap.get? y = none → y ∉ D := fun y hy h => by obtain ⟨o, e⟩ := (rl.live y h).2; rw [hy] at e; cases e
  have haD := nD a has
  have hzown : ∀ y, y = b ∨ y = b + 1 ∨ y = b + 2 ∨ y = b + 3 → y ∉ own' ∧ y ≠ a := fun y hy => by
    obtain ⟨o, e⟩ := lz y (or4_mem y hy)
    exact ⟨(fun h => by rw [hfr1 y h] at e; cases e), (fun q => by rw [q, ha1] at e; cases e)⟩
  have hz4 : IsZip h4 (b + 3) (b + 1) (b + 2) .none := k14 _ _ z1
  have hIγ : I ∈ γ := List.mem_of_getElem? hI
  have main : codeAny Z.M A (.compLoop e 0 (.ref (b + 3)) (.ref a) cE) (RR (.ref a) C) { s1 with heap := h4 } := by
    rw [he]
    refine zip_loop hT hxi hxe (rbody_list Re) (x0 := none) (x1 := none) r4 hr hI hj hle hlen g4 (mem_last.2.2.1 (List.mem_singleton.mpr rfl)) hao (fun h => haD (rl.γD a h)) (fun y c h q => (cap4 y c h).elim (fun h => haD (q ▸ h)) fun h => hao (q ▸ h)) hz4 (k14 _ _ ti1) (k14 _ _ to1) (k14 _ _ ri1)
      ⟨mem_last.2.1 (.head _), mem_last.2.1 (.tail _ (.head _)), mem_last.2.1 (.tail _ (.tail _ (.head _))), mem_last.2.1 (.tail _ (.tail _ (.tail _ (.head _))))⟩ (fun y hy => ?_) (Dn := D ++ (own' ++ [a])) (fun d hd => ?_) (fun d hd => List.mem_append_right _ (List.mem_append_left _ hd)) (fun d hd => List.mem_append_left _ (rl.γD d hd)) (fun y c h => (cap4 y c h).elim (fun h => List.mem_append_left _ h) fun h => List.mem_append_right _ (List.mem_append_left _ h)) fun s5 loc' c5 r5 g5 => ?_
    · have hyD := nD y (hb4 y hy)
      exact ⟨(hzown y hy).1, fun h => hyD (rl.γD y h), (hzown y hy).2, fun w c h q => (cap4 w c h).elim (fun h => hyD (q ▸ h)) fun h => (hzown y hy).1 (q ▸ h)⟩
    · have out : ∀ y, y = b ∨ y = b + 1 ∨ y = b + 2 ∨ y = b + 3 → d ≠ y := fun y hy q => by
        rw [q] at hd
        exact (List.mem_append.mp hd).elim (nD y (hb4 y hy)) fun h => (List.mem_append.mp h).elim (hzown y hy).1 fun h => (hzown y hy).2 (List.mem_singleton.mp h)
      exact ⟨(List.mem_append.mp hd).elim mem_last.1 fun h => (List.mem_append.mp h).elim mem_last.2.2.2 mem_last.2.2.1, out _ (.inl rfl), out _ (.inr (.inl rfl)), out _ (.inr (.inr (.inl rfl))), out _ (.inr (.inr (.inr rfl)))⟩
    · have cI : Chg [I] s s5 := ((k1.trans ⟨h4, s1.toks, rfl, k14⟩).chg [I]).trans c5 fun y hy => by
        rcases List.mem_append.mp hy with hy | hy
        · exact mem4 (p := fun y => y ∈ [I] ∨ s.heap.get? y = none) (.inr (hb4 _ (.inl rfl))) (.inr (hb4 _ (.inr (.inr (.inl rfl))))) (.inr (hb4 _ (.inr (.inr (.inr rfl))))) (.inl (.head _)) y hy
        · exact .inr ((List.mem_append.mp hy).elim (hfrs y) fun h => by rw [List.mem_singleton.mp h]; exact has)
      refine hend a C s5 ⟨own', hC, hfrs, hao, has, cI, ?_, ?_⟩
      · exact rl.big (L := [I]) (fun c o hc e => cI.get hc e) (fun c hc => by
          rw [List.mem_singleton.mp hc]
          exact ⟨rl.γD I hIγ, fun h => rl.ownγ I h hIγ, fun y c h q => (rl.cap y c h).2.2 (q ▸ hIγ)⟩) (fun y hy => (List.mem_append.mp hy).elim (hfrs y) fun h => by rw [List.mem_singleton.mp h]; exact has) (fun y hy => List.mem_append_right _ hy) (List.nodup_cons.mpr ⟨List.not_mem_nil, List.nodup_nil⟩) (fun d hd => (r5.live d hd).2) (cells_snoc r5.cells g5)
      · obtain ⟨m, hn, _⟩ := r5.ns
        rw [← hce] at hn
        exact ⟨m, hC' ▸ (show s5.heap.Ns h3.objs.size m from hn)⟩
  exact (he ▸ start_list rfl : StartSh Z e 0) main (wpAny_pyIter_zip hz4 main)

/-- behind the comprehension: the list goes to the name, the frame of the comprehension is dropped -/
theorem zip_fin {iR : Nat} {x : Str} {py : Pos} (hi : S.vars[iR]? = some x) (hk : S.sc.names.lookup x = some .local) {A : Around} {env : Env} {own D γ : List Addr} {st : ASt} {s s5 : Shared} {I a C : Addr} {cs : List ACell} {c : ACell} {E : Value → Shared → Prop} (rl : Rel Z S env own D γ st s.heap) (hIγ : I ∈ γ) (ze : ZipEnd Z S env own D γ st s I (cs ++ [c]) a C s5) :
    compPost Z.M A E (some (assign (.Name x py) env)) (fun _ s' => After Z S env own D γ s .next (stv iR (.cell st.cells.length) { st with cells := cs ++ [c] }) .next s') (.ref a) C (.ok .next) s5 := by
  obtain ⟨own', hC, hfrs, hao, has, cI, rb, m, hn⟩ := ze
  have hCs : s.heap.get? C = none := hfrs _ hC
  have hCD : C ∉ D := fun h => by obtain ⟨o, e⟩ := (rl.live C h).2; rw [hCs] at e; cases e
  have hCo : C ∉ own := fun h => hCD (rl.ownD _ h)
  show wpAny _ _ (assign (.Name x py) env (.ref a)) _ _ _
  refine wpAny_assign_Name (storeVar hi hk (.inl rfl) rb (.cell (i := st.cells.length) (by rw [← rl.cells.1, List.getElem?_append_right (Nat.le_refl _), Nat.sub_self]; rfl)) fun s6 c6 r6 => ?_)
  refine ⟨m, hn.at' fun o e => c6.get hCo e, fun h' hs' => ⟨[a], ?_, fun y hy => by rw [List.mem_singleton.mp hy]; exact has, ?_, .next⟩⟩
  · exact (((cI.mono fun y h => List.mem_append_right own (by rw [List.mem_singleton.mp h]; exact hIγ)).trans c6 fun y h => .inl (List.mem_append_left _ h))).trans (L' := [C]) ⟨h', s6.toks, rfl, fun c o hc e => hs'.extBut c o (fun q => hc (List.mem_singleton.mpr q)) e⟩ fun y h => .inr (by rw [List.mem_singleton.mp h]; exact hCs)
  · have sub : ∀ {d : Addr}, d ∈ D ++ [a] → d ∈ D ++ (own' ++ [a]) := fun h => (List.mem_append.mp h).elim (fun h => List.mem_append_left _ h) fun h => List.mem_append_right _ (List.mem_append_right _ h)
    refine r6.over (I := C) (fun c o hc e => hs'.extBut c o hc e) (List.mem_append_right _ (List.mem_append_left _ hC)) hCo (fun h => (List.mem_append.mp h).elim (fun h => hCD (rl.γD _ h)) fun h => hao ((List.mem_singleton.mp h) ▸ hC)) (fun y c h q => hCD (q ▸ (rl.cap y c h).1)) (fun d hd => sub hd) (fun d hd => List.mem_append_left _ (rl.ownD d hd)) (sub_grow rl.γD) (fun y c h => List.mem_append_left _ (rl.cap y c h).1) (fun d hd => ?_)
    obtain ⟨o, e⟩ := (r6.live d (sub hd)).2
    exact ⟨o, hs'.extBut d o (fun q => (List.mem_append.mp hd).elim (fun h => hCD (q ▸ h)) fun h => hao (by rw [List.mem_singleton.mp h] at q; rw [q]; exact hC)) e⟩

theorem rs_zip {k iR : Nat} {zx rx xi xe x : Str} {zp rp cp rcp p4 p5 p6 pos py spos : Pos} {n2 : Nat} {elt e0 e1 e2 eit : Expr} {scope : Scope} {f0 f1 f2 fi : ASt → Option AVal} (hz : RP Z S k (.Name zx zp) (fun _ => some (.cst (.type "zip")))) (hr0 : RP Z S k (.Name rx rp) (fun _ => some (.cst (.type "range")))) (R0 : RP Z S k e0 f0) (R1 : RP Z S k e1 f1) (R2 : RP Z S k e2 f2) (Ri : RP Z S k eit fi)
    (hs1 : ∀ env, starEach [e0, e1, e2] env = (false, eval e0 env) :: starEach [e1, e2] env) (hs2 : ∀ env, starEach [e1, e2] env = (false, eval e1 env) :: starEach [e2] env) (hs3 : ∀ env, starEach [e2] env = [(false, eval e2 env)]) (hs4 : ∀ env, starEach [eit] env = [(false, eval eit env)])
    (Nc : chkComp scope S [xi, xe] [] 2 [] = true) (hxi : chkSt (compS scope S [xi, xe] []) 0 xi = true) (hxe : chkSt (compS scope S [xi, xe] []) 1 xe = true) (Re : RP Z (compS scope S [xi, xe] []) k elt (pTup (consF (ldv 1) (consF (ldv 0) nilF))))
    (hs : ∀ env v, foldedSetIterable (.Call (.Name zx zp) [.Call (.Name rx rp) [e0, e1, e2] [] rcp, eit] [] cp) env v = pure v)
    (hsw : ∀ env, env.scope = S.sc → swapsWith (.ListComp elt [⟨.Tuple [.Name xi p4, .Name xe p5] n2 p6, .Call (.Name zx zp) [.Call (.Name rx rp) [e0, e1, e2] [] rcp, eit] [] cp, [], 0⟩] scope pos) (some (.Name x py)) spos.line env = pure true) (hi : S.vars[iR]? = some x) (hk : S.sc.names.lookup x = some .local) :
    RSt Z S k (.Assign [.Name x py] (.ListComp elt [⟨.Tuple [.Name xi p4, .Name xe p5] n2 p6, .Call (.Name zx zp) [.Call (.Name rx rp) [e0, e1, e2] [] rcp, eit] [] cp, [], 0⟩] scope pos) spos) (sZip iR f0 f1 f2 fi) := by
  intro A env own D γ st s fl st2 E hf rl hr
  obtain ⟨N, j, xs, q0, q1, q2, q3, hj, h0, hle, hlen, e⟩ := sZip_ok hf
  cases e
  have N2 := chkComp_ok Nc
  have hjl : j < γ.length := by rw [rl.cells.1]; exact (List.getElem?_eq_some_iff.mp hj).1
  have hI := List.getElem?_eq_getElem hjl
  rw [exec_Assign_Name_used _ _ _ _ (hsw env rl.esc)]
  refine wpAny_bind (wpAny_standAt (wpAny_bind ?_))
  show wpAny _ A (do let _ ← comprehension (.ListComp elt [⟨.Tuple [.Name xi p4, .Name xe p5] n2 p6, .Call (.Name zx zp) [.Call (.Name rx rp) [e0, e1, e2] [] rcp, eit] [] cp, [], 0⟩] scope pos) scope env _ (newList []) false (eval (.Call (.Name zx zp) [.Call (.Name rx rp) [e0, e1, e2] [] rcp, eit] [] cp) env) (some (assign (.Name x py) env))) _ _ s
  exact wpAny_bind (wpAny_mono (wpAny_comprehension_free (use := some (assign (.Name x py) env)) (Q := fun _ s' => After Z S env own D γ s .next (stv iR (.cell st.cells.length) { st with cells := st.cells.set j (.itL xs N) ++ [.lst (zipPairs xs N)] }) .next s') rfl (hs env) (N2.closure rl) N2.kind (names_local N2.keys)
    (wpAny_mono (zip_src hz hr0 R0 R1 R2 Ri hs1 hs2 hs3 hs4 q0 q1 q2 q3 hj hI (Int.ofNat_lt.mpr h0) (Int.ofNat_lt.mpr (Nat.lt_of_le_of_lt hle hlen)) rl hr) (fun v s1 h1 => zip_core rfl rfl N2 hxi hxe Re rl hr hj hI hle hlen h1 fun a C s5 ze => zip_fin hi hk rl (List.mem_of_getElem? hI) ze) fun _ _ x => x)) (fun _ s' hq => wpAny_pure (wpAny_pure hq)) fun _ _ e => e)
end
end Mine

end
section
set_option maxRecDepth 100000

namespace Mine
/-! sorted(xs, key=None, reverse=True) -/
theorem args_sorted_kr (a v u : Value) : argsOk "sorted" ⟨[a], [(Str.ofString "key", v), (Str.ofString "reverse", u)]⟩ := by unfold argsOk; kernel_rfl
theorem args_list_sort_kr (a v u : Value) : argsOk "list.sort" ⟨[a], [(Str.ofString "key", v), (Str.ofString "reverse", u)]⟩ := by unfold argsOk; kernel_rfl
theorem list_sort_kr0 (a : Addr) (b : Bool) : Builtin.«list.sort» ⟨[.ref a], [(Str.ofString "key", .none), (Str.ofString "reverse", .bool b)]⟩ = (do
    let items ← Builtin.List.listItems (.ref a)
    Builtin.List.listUpdate (.ref a) fun _ => #[]
    let before ← seqEpoch a
    let held ← newTuple items.toList
    let keyStore ← newList []
    holding [held, keyStore] do
      if b then rule "list.sort.reverse"
      let kind ← if items.size < 2 then pure general' else keyKind' items
      let ((), s) ← (if items.size < 2 then pure () else sortRuns').run (SortSt.mk' kind (if b then (items.zip items).reverse else items.zip items) #[] 7 none)
      let sorted := (arrOf s).map (·.2)
      let touched := (← seqEpoch a) != before
      Builtin.List.listUpdate (.ref a) fun _ => if b then sorted.reverse else sorted
      if let some e := failedOf s then rule "list.sort.comparison-raised"; throw e
      if touched then rule "list.sort.modified"; raiseError "ValueError" "list modified during sort"
      ret .none) := by
  first | rfl | (fail "not by rfl")
theorem list_sort_kr (a : Addr) (b : Bool) : Builtin.«list.sort» ⟨[.ref a], [(Str.ofString "key", .none), (Str.ofString "reverse", .bool b)]⟩ = Builtin.«list.sort» ⟨[.ref a], [(Str.ofString "reverse", .bool b)]⟩ :=
  (list_sort_kr0 a b).trans (list_sort_rev a b).symm

section
variable {prog : Program} {w : World} {A : Around} {E : Value → Shared → Prop} {s : Shared}
theorem sorted_ints_kr {l : Addr} {vs : List Value} {ns : List Int} {b : Bool} {Q : Value → Shared → Prop} (hl : s.heap.IsList l vs.toArray) (hI : IntsAre vs ns) (h64 : vs.length < 64)
    (h : ∀ (out : Array Value) (ns' : List Int), IntsAre out.toList ns' → ns'.Perm ns → Ordered b ns' → Q (.ref (s.heap.objs.size + 1)) { s with heap := sortedAll s.heap vs out }) :
    wpAny (model prog w) A (call (.builtin "sorted") [.ref l] [(Str.ofString "key", .none), (Str.ofString "reverse", .bool b)]) Q E s := by
  refine call_function_entry_kw kind_sorted plain_sorted entry_sorted (args_sorted_kr _ _ _) ?_
  unfold Builtin.«sorted»
  refine wpAny_bind (m := checkCount "sorted" 1 1 _) (wpAny_pure ?_)
  refine wpAny_bind (collect_list hl ?_)
  refine wpAny_bind (wpAny_newList ?_)
  have hsz : ((s.heap.push (seqObj "list" #[] 0)).update s.heap.objs.size (Obj.mapSeq (· ++ vs.toArray))).objs.size = s.heap.objs.size + 1 := by
    rw [Heap.size_update, size_push']
  have hoL : (((s.heap.push (seqObj "list" #[] 0)).update s.heap.objs.size (Obj.mapSeq (· ++ vs.toArray))).push (seqObj "list" vs.toArray 0)).get? (s.heap.objs.size + 1) = some (seqObj "list" vs.toArray 0) := by
    rw [← hsz]; exact Heap.get?_push_size _ rfl
  show wpAny _ _ _ _ _ { s with heap := ((s.heap.push (seqObj "list" #[] 0)).update s.heap.objs.size (Obj.mapSeq (· ++ vs.toArray))).push (seqObj "list" vs.toArray 0) }
  rw [hsz]
  refine wpAny_bind (wpAny_holding (wpAny_call_entry_kw slot_list_sort ⟨_, hoL, rfl⟩ entry_list_sort (by rw [list_sort_kr]; exact list_sort_tree_rev hoL hI h64 fun out ns' a1 a2 a3 => ⟨_, rfl, wpAny_pure ⟨_, rfl, h out ns' a1 a2 a3⟩⟩) (args_list_sort_kr _ _ _)))
end

section
variable {Z : Amb} {S : Sx}
noncomputable def sortedKrA : BFn := fun cs as => match as with
  | [a, .none, .bool true] => (lstOf cs a).bind fun xs => (intsOf xs).bind fun ns => if ns.length < 64 then some (.lst ((isort ns).reverse.map .int)) else none
  | _ => none
theorem bc_sorted_kr {k : Nat} : BC Z k (.builtin "sorted") [Str.ofString "key", Str.ofString "reverse"] sortedKrA := by
  intro A D γ args kvs avs cs s r E hg hv hk w hr
  unfold sortedKrA at hg
  split at hg
  · rename_i a
    obtain ⟨xs, q1, g1⟩ := bind_some hg
    obtain ⟨ns, q2, g2⟩ := bind_some g1
    obtain ⟨hlt, g3⟩ := ite_some g2
    cases g3
    have hlen := hv.length
    rw [List.length_append, hk] at hlen
    match args, kvs, hk, hlen with
    | [v], [u1, u2], _, _ =>
      obtain ⟨v, vs, e, h1, h2⟩ := vrels_cons hv
      cases e
      obtain ⟨v, vs, e, h3, h4⟩ := vrels_cons h2
      cases e
      obtain ⟨v, vs, e, h5, h6⟩ := vrels_cons h4
      cases e
      obtain rfl := vrel_none h3
      obtain rfl := vrel_bool h5
      obtain ⟨l, vs, rfl, k1, v1⟩ := lstOf_wp q1 h1 w
      obtain rfl := intsOf_eq q2
      have hi := ints_are v1
      refine sorted_ints_kr k1.isList hi (by rw [hi.length]; exact hlt) fun out ns' a1 a2 a3 => ?_
      obtain rfl := isort_unique_rev a2 (by simpa [Ordered] using a3)
      obtain ⟨e, he⟩ := sortedAll_at s.heap vs out
      exact ⟨⟨_, _, rfl, sortedAll_old'⟩, .lst (w.fresh (none_of_size (Nat.le_succ _))) ⟨e, by rw [Array.toArray_toList]; exact he⟩ (are_ints a1)⟩
  · cases hg
end
end Mine

end
section
set_option maxRecDepth 100000

namespace Mine
/-! xs.sort(reverse=True), pairs of ints -/
noncomputable def runT {α : Type} (cmp : Nat → Nat → Option Bool) : KasT α → Option α
  | .ret a => some a
  | .ask i j k => (cmp i j).bind fun b => runT cmp (k b)
noncomputable def askP (ps : List (Int × Int)) (i j : Nat) : Option Bool := (ps[i]?).bind fun p => (ps[j]?).bind fun q => some (ltPair p.1 p.2 q.1 q.2)
noncomputable def PairAt (h : Heap) (v : Value) (p : Int × Int) : Prop := ∃ l t u, v = .ref l ∧ PTup h l [Value.int p.1 t, .int p.2 u].toArray
noncomputable def PairsAt (h : Heap) (vs : List Value) (ps : List (Int × Int)) : Prop := vs.length = ps.length ∧ ∀ (i : Nat) (p : Int × Int), ps[i]? = some p → ∃ v, vs[i]? = some v ∧ PairAt h v p
theorem PairAt.mono {h h' : Heap} {v : Value} {p : Int × Int} (x : PairAt h v p) (a : Addr) (n : Nat) (xs : Array Value) (ha : h.get? a = some (seqObj "list" xs n)) (hs : ∀ b o, b ≠ a → h.get? b = some o → h'.get? b = some o) : PairAt h' v p := by
  obtain ⟨l, t, u, rfl, m, e⟩ := x
  refine ⟨l, t, u, rfl, m, hs _ _ (fun q => ?_) e⟩
  rw [q, ha] at e
  have := congrArg (fun o => o.map Obj.cls) e
  exact absurd this (by simp [seqObj])
section
variable {prog : Program} {w : World} {A : Around} {E : Value → Shared → Prop} {s : Shared}
theorem pair_ask {v v' : Value} {p q : Int × Int} {Q : Bool → Shared → Prop} (x : PairAt s.heap v p) (y : PairAt s.heap v' q) (h : Q (ltPair p.1 p.2 q.1 q.2) s) : wpAny (model prog w) A (keyLt' (tuples' true) v v') Q E s := by
  obtain ⟨l, t, u, rfl, m, e⟩ := x
  obtain ⟨l', t', u', rfl, m', e'⟩ := y
  refine kat_lt e rfl e' rfl ?_
  show KatLex prog w A true _ Q [(Value.int p.1 t, Value.int q.1 t'), (Value.int p.2 u, Value.int q.2 u')] 0 s
  refine kat_cons (wpAny_eqBool_int ?_)
  refine kat_go (fun h1 => kat_yes ?_) (fun h1 => kat_no ?_)
  · have h1 : p.1 = q.1 := by simpa using h1
    refine kat_cons (wpAny_eqBool_int ?_)
    refine kat_go (fun h2 => kat_yes ?_) (fun h2 => kat_no ?_)
    · have h2 : p.2 = q.2 := by simpa using h2
      refine kat_nil ?_
      have : ltPair p.1 p.2 q.1 q.2 = false := by unfold ltPair; simp [h1, h2]
      rw [this] at h; exact h
    · have h2 : p.2 ≠ q.2 := by simpa using h2
      show wpAny _ _ (oneLt' false _ _) _ _ _
      refine kat_one _ _ (lt_int ?_)
      have : ltPair p.1 p.2 q.1 q.2 = decide (p.2 < q.2) := by unfold ltPair; simp [h1, h2]
      rw [this] at h; exact h
  · have h1 : p.1 ≠ q.1 := by simpa using h1
    show wpAny _ _ (oneLt' true _ _) _ _ _
    refine oneLt_int ?_
    have : ltPair p.1 p.2 q.1 q.2 = decide (p.1 < q.1) := by unfold ltPair; simp [h1]
    rw [this] at h; exact h
theorem runT_wp {α : Type} {vs : List Value} {ps : List (Int × Int)} {Q : α → Shared → Prop} (x : PairsAt s.heap vs ps) : ∀ (t : KasT α) (a : α), runT (askP ps) t = some a → Q a s → t.kasWp (kas_ask prog w A (tuples' true) vs) Q s
  | .ret a, b, e, h => by cases e; exact h
  | .ask i j k, a, e, h => by
    obtain ⟨b, e1, e2⟩ := bind_some e
    obtain ⟨p, e3, e4⟩ := bind_some e1
    obtain ⟨q, e5, e6⟩ := bind_some e4
    cases e6
    obtain ⟨v, v1, v2⟩ := x.2 _ _ e3
    obtain ⟨v', v3, v4⟩ := x.2 _ _ e5
    have g1 : vs.getD i Value.none = v := by simp [v1]
    have g2 : vs.getD j Value.none = v' := by simp [v3]
    show kas_ask prog w A (tuples' true) vs i j _ s
    unfold kas_ask
    rw [g1, g2]
    exact pair_ask v2 v4 (runT_wp x (k _) a e2 h)
theorem PairsAt.tups {h : Heap} : ∀ {vs : List Value} {ps : List (Int × Int)}, PairsAt h vs ps → ∃ fs, KatTups h vs fs ∧ fs.length = vs.length ∧ ∀ v ∈ fs, ∃ i t, v = Value.int i t
  | [], [], _ => ⟨[], .nil, rfl, fun _ h => by cases h⟩
  | [], _ :: _, x => by cases x.1
  | _ :: _, [], x => by cases x.1
  | v :: vs, p :: ps, x => by
    obtain ⟨u, e, y⟩ := x.2 0 p rfl
    cases e
    obtain ⟨fs, h1, h2, h3⟩ := PairsAt.tups (vs := vs) (ps := ps) ⟨by have := x.1; simpa using this, fun i q hq => x.2 (i + 1) q hq⟩
    obtain ⟨l, t, t', rfl, m, e⟩ := y
    refine ⟨.int p.1 t :: fs, .cons e rfl rfl rfl h1, congrArg (· + 1) h2, fun v hv => ?_⟩
    rcases List.mem_cons.mp hv with rfl | hv
    · exact ⟨_, _, rfl⟩
    · exact h3 v hv
theorem PairsAt.reverse {h : Heap} {vs : List Value} {ps : List (Int × Int)} (x : PairsAt h vs ps) : PairsAt h vs.reverse ps.reverse := by
  refine ⟨by rw [List.length_reverse, List.length_reverse, x.1], fun i p hp => ?_⟩
  have hi : i < ps.length := by
    have := (List.getElem?_eq_some_iff.mp hp).1
    rwa [List.length_reverse] at this
  rw [List.getElem?_reverse hi] at hp
  obtain ⟨v, h1, h2⟩ := x.2 _ _ hp
  refine ⟨v, ?_, h2⟩
  rw [List.getElem?_reverse (by rw [x.1]; exact hi), x.1]
  exact h1

theorem sort_rev_pairs {a : Addr} {vs : List Value} {ps : List (Int × Int)} {n : Nat} {p : Array Nat} {P : PySem.Fin → Shared → Prop} (ho : s.heap.get? a = some (seqObj "list" vs.toArray n)) (x : PairsAt s.heap vs ps) (h2 : 2 ≤ vs.length) (h64 : vs.length < 64)
    (hr : runT (askP ps.reverse) (kas_sort vs.length) = some p)
    (h : ∀ e h', (∀ b o, b ≠ a → s.heap.get? b = some o → h'.get? b = some o) → h'.get? a = some (seqObj "list" (p.toList.map fun i => vs.reverse.getD i Value.none).reverse.toArray e) → P (.done (.ret .none)) { s with heap := h' }) :
    wpAny (model prog w) A (Builtin.«list.sort» ⟨[.ref a], [(Str.ofString "reverse", .bool true)]⟩) P E s := by
  rw [list_sort_rev]
  have ha : a < s.heap.objs.size := Heap.lt_size ho
  refine wpAny_bind (listItems_at ho rfl ?_)
  refine wpAny_bind (listUpdate_at ho rfl ?_ (by rw [List.size_toArray, sizeLine_eq]; omega) (Nat.zero_le _))
  obtain ⟨e1, ho1⟩ : ∃ e1, (s.heap.update a (Obj.mapSeq fun _ => #[])).get? a = some (seqObj "list" #[] e1) := ⟨_, get?_update_seq ho (fun _ => #[])⟩
  refine wpAny_bind (seqEpoch_at ho1 rfl ?_)
  refine wpAny_bind (wpAny_newTuple ?_ (by show vs.length ≤ _; rw [sizeLine_eq]; omega))
  refine wpAny_bind (wpAny_newList ?_ (Nat.zero_le _))
  refine wpAny_holding ?_
  have ho6 : (((s.heap.update a (Obj.mapSeq fun _ => #[])).push (seqObj "tuple" vs.toArray 0)).push (seqObj "list" #[] 0)).get? a = some (seqObj "list" #[] e1) :=
    Heap.get?_push_of_some _ (Heap.get?_push_of_some _ ho1)
  have keep : ∀ b o, b ≠ a → s.heap.get? b = some o → (((s.heap.update a (Obj.mapSeq fun _ => (#[] : Array Value))).push (seqObj "tuple" vs.toArray 0)).push (seqObj "list" #[] 0)).get? b = some o := fun b o hb e =>
    Heap.get?_push_of_some _ (Heap.get?_push_of_some _ ((Heap.get?_update_other _ _ (Ne.symm hb)).trans e))
  show wpAny (model prog w) A _ P E { s with heap := ((s.heap.update a (Obj.mapSeq fun _ => #[])).push (seqObj "tuple" vs.toArray 0)).push (seqObj "list" #[] 0) }
  have x6 : PairsAt (((s.heap.update a (Obj.mapSeq fun _ => (#[] : Array Value))).push (seqObj "tuple" vs.toArray 0)).push (seqObj "list" #[] 0)) vs ps :=
    ⟨x.1, fun i q hq => let ⟨v, h1, h2⟩ := x.2 i q hq; ⟨v, h1, h2.mono a n _ ho keep⟩⟩
  generalize hH : ((s.heap.update a (Obj.mapSeq fun _ => (#[] : Array Value))).push (seqObj "tuple" vs.toArray 0)).push (seqObj "list" #[] 0) = H at ho6 keep x6 ⊢
  dsimp only
  refine wpAny_bind (wpAny_rule ?_)
  have hn2 : ¬ vs.toArray.size < 2 := by rw [List.size_toArray]; omega
  rw [if_neg hn2, if_neg hn2]
  obtain ⟨fs, t1, t2, t3⟩ := x6.tups
  refine wpAny_bind (kat_kind (s := { s with heap := H }) (T := .type "int") t1 (by omega) (fun v hv => by obtain ⟨i, t, rfl⟩ := t3 v hv; exact Looks.of_pure rfl) (by simp) ?_)
  have hk : (Value.type "int" != Value.type "tuple") = true := by decide
  rw [hk]
  have hz : (if true = true then (vs.toArray.zip vs.toArray).reverse else vs.toArray.zip vs.toArray) = (vs.reverse.toArray).zip (vs.reverse.toArray) := kat_pairs true rfl
  rw [hz]
  have hlr : vs.reverse.length = vs.length := List.length_reverse
  refine wpAny_bind (wpAny_mono (kat_run (ks := vs.reverse) (vs := vs.reverse) (G := fun p' s' => p' = p ∧ s' = { s with heap := H }) (Q := fun st' s' => (∃ p' : Array Nat, p'.size = vs.reverse.length ∧ arrOf st' = p'.map (kas_item (vs.reverse.toArray.zip vs.reverse.toArray)) ∧ p' = p) ∧ failedOf st' = none ∧ s' = { s with heap := H })
    rfl (by rw [hlr]; exact h2) (by rw [hlr]; exact h64) (fun p' st' s' a1 a2 a3 a4 => ⟨⟨p', a1, a2, a4.1⟩, a3, a4.2⟩) (by rw [hlr]; exact runT_wp (s := { s with heap := H }) x6.reverse _ p hr ⟨rfl, rfl⟩)) ?_ fun _ _ e => e)
  rintro ⟨⟨⟩, st'⟩ s' ⟨⟨p', hp, har, rfl⟩, hf, rfl⟩
  dsimp only
  have hout := kat_snds rfl har
  rw [hout]
  have hsz : (p'.toList.map fun i => vs.reverse.getD i Value.none).length = vs.length := by rw [List.length_map, Array.length_toList, hp, hlr]
  refine wpAny_bind (seqEpoch_at (s := { s with heap := H }) ho6 rfl ?_)
  have ho7 : (if true = true then (List.toArray (p'.toList.map fun i => vs.reverse.getD i Value.none)).reverse else List.toArray (p'.toList.map fun i => vs.reverse.getD i Value.none)) = (p'.toList.map fun i => vs.reverse.getD i Value.none).reverse.toArray := kat_outs true _
  refine wpAny_bind (listUpdate_at (s := { s with heap := H }) ho6 rfl ?_ (Nat.zero_le _) (by rw [ho7, List.size_toArray, List.length_reverse, hsz, sizeLine_eq]; omega))
  rw [hf]
  simp only [bne_self_eq_false, Bool.false_eq_true, if_false, if_true, List.reverse_toArray]
  exact wpAny_pure (h _ _ (fun b o hb e => (Heap.get?_update_other _ _ (Ne.symm hb)).trans (keep b o hb e)) (get?_update_seq ho6 fun _ => _))
end
end Mine

end
section
set_option maxRecDepth 100000

namespace Mine
noncomputable def prs : List AVal → Option (List (Int × Int))
  | [] => some []
  | a :: as => a.pair?.bind fun p => (prs as).bind fun ps => some (p :: ps)
noncomputable def picks (xs : List AVal) : List Nat → Option (List AVal)
  | [] => some []
  | i :: l => (xs[i]?).bind fun a => (picks xs l).bind fun as => some (a :: as)
section
variable {Z : Amb} {S : Sx}
theorem picks_rel {h : Heap} {D γ : List Addr} {vs : List Value} {xs : List AVal} (x : VRels Z h D γ vs xs) : ∀ (l : List Nat) {out : List AVal}, picks xs l = some out → VRels Z h D γ (l.map fun i => vs.getD i Value.none) out
  | [], _, e => by cases e; exact .nil
  | i :: l, out, e => by
    obtain ⟨a, e1, e2⟩ := bind_some e
    obtain ⟨as, e3, e4⟩ := bind_some e2
    cases e4
    obtain ⟨v, h1, h2⟩ := x.get e1
    refine .cons ?_ (picks_rel x l e3)
    have : vs.getD i Value.none = v := by simp [h1]
    show VRel Z h D γ (vs.getD i Value.none) a
    rw [this]; exact h2
theorem vrels_reverse {h : Heap} {D γ : List Addr} : ∀ {vs : List Value} {xs : List AVal}, VRels Z h D γ vs xs → VRels Z h D γ vs.reverse xs.reverse
  | _, [], x => by obtain rfl := vrels_nil x; exact .nil
  | _, a :: as, x => by
    obtain ⟨v, vs, rfl, h1, h2⟩ := vrels_cons x
    rw [List.reverse_cons, List.reverse_cons]
    exact (vrels_reverse h2).append (.cons h1 .nil)
theorem prs_at {h : Heap} {D γ : List Addr} : ∀ {vs : List Value} {xs : List AVal} {ps : List (Int × Int)}, prs xs = some ps → VRels Z h D γ vs xs → PairsAt h vs ps
  | _, [], ps, e, x => by obtain rfl := vrels_nil x; cases e; exact ⟨rfl, fun i p q => by simp at q⟩
  | _, a :: as, ps, e, x => by
    obtain ⟨p, e1, e2⟩ := bind_some e
    obtain ⟨ps, e3, e4⟩ := bind_some e2
    cases e4
    obtain ⟨v, vs, rfl, h1, h2⟩ := vrels_cons x
    obtain rfl := pair?_some e1
    have ih := prs_at e3 h2
    refine ⟨congrArg (· + 1) ih.1, fun i q hq => ?_⟩
    cases i with
    | zero =>
      cases hq
      exact ⟨v, rfl, vrel_pair h1⟩
    | succ i => exact ih.2 i q hq
noncomputable def sortRevL (xs : List AVal) : Option (List AVal) := (prs xs).bind fun ps => if 2 ≤ xs.length ∧ xs.length < 64 then (runT (askP ps.reverse) (kas_sort xs.length)).bind fun p => (picks xs.reverse p.toList).bind fun out => some out.reverse else none
noncomputable def sortRevA : CFn := fun cs as => match as with
  | [l, .bool true] => l.cell?.bind fun i => cs[i]?.bind fun c => c.lst?.bind fun xs => (sortRevL xs).bind fun out => some (cs.set i (.lst out))
  | _ => none
theorem sc_sort_rev {k : Nat} : SC Z k (.builtin "list.sort") [Str.ofString "reverse"] sortRevA := by
  intro A D γ args kvs avs cs cs' s E hg hv hk w hr
  unfold sortRevA at hg
  split at hg
  · obtain ⟨i, q1, g1⟩ := bind_some hg
    obtain ⟨c, q2, g2⟩ := bind_some g1
    obtain ⟨xs, q3, g3⟩ := bind_some g2
    obtain ⟨out, q4, g4⟩ := bind_some g3
    cases g4
    obtain ⟨ps, q5, g5⟩ := bind_some q4
    obtain ⟨hlt, g6⟩ := ite_some g5
    obtain ⟨p, q6, g7⟩ := bind_some g6
    obtain ⟨o, q7, g8⟩ := bind_some g7
    cases g8
    obtain rfl := cell?_some q1
    obtain rfl := clst?_some q3
    have hlen := hv.length
    rw [List.length_append, hk] at hlen
    match args, kvs, hk, hlen with
    | [v], [u], _, _ =>
      obtain ⟨v, vs, e, h1, h2⟩ := vrels_cons hv
      cases e
      obtain ⟨v, vs, e, h3, h4⟩ := vrels_cons h2
      cases e
      obtain rfl := vrel_bool h3
      obtain ⟨l, rfl, hi⟩ := vrel_cell h1
      obtain ⟨vs, ⟨n, ho⟩, v1⟩ := cell_lst (w.cells.2 i l _ hi q2)
      have l1 := v1.length
      refine wpAny_call_entry_kw slot_list_sort ⟨_, ho, rfl⟩ entry_list_sort (sort_rev_pairs (p := p) ho (prs_at q5 v1) (by omega) (by omega) (by rw [l1]; exact q6) fun e h' hs ho' => ⟨_, rfl, ?_⟩) (args_list_sort_rev _ _)
      exact ⟨Chg.one (tk := s.toks) (List.mem_of_getElem? hi) hs, w.setL hi hs q2 ⟨e, ho'⟩ (vrels_reverse (picks_rel (vrels_reverse v1) _ q7))⟩
  · cases hg
end
end Mine

end
section
set_option maxRecDepth 100000

namespace Mine
section
variable {prog : Program} {w : World} {A : Around} {E : Value → Shared → Prop} {s : Shared} {env : Env}
theorem sub_slice_t {value : Expr} {lower upper : Option Expr} {p pos : Pos} {T id : String} {Q : Value → Shared → Prop}
    (hl : typeLookup (.type T) "__getitem__" = pure (some (.builtin id)))
    (h : wpAny (model prog w) A (eval value env) (fun o s₁ => wpAny (model prog w) A (eval (.Slice lower upper none p) env) (fun i s₂ => s₂.TypeIs o T ∧ wpAny (model prog w) A (getItem o i) Q E s₂) E s₁) E s) :
    wpAny (model prog w) A (eval (.Subscript value (.Slice lower upper none p) pos) env) Q E s := by
  rw [eval_Subscript]
  refine wpAny_bind (wpAny_mono h (fun o s₁ h₁ => wpAny_bind (wpAny_holding (wpAny_mono h₁ (fun i s₂ h₂ => wpAny_bind (wpAny_standAt ?_)) fun _ _ x => x)))
    fun _ _ x => x)
  have fin : wpAny (model prog w) A (operate [i, o] (getItem o i)) (fun r s₃ => wpAny (model prog w) A (letTemporaryGo value o r >>= fun _ => pure r) Q E s₃) E s₂ :=
    wpAny_operating (wpAny_mono h₂.2 (fun r s₃ h₃ => wpAny_bind (wpAny_letTemporaryGo (wpAny_pure h₃))) fun _ _ x => x)
  first
    | (refine wpAny_bind ?_
       rw [getitemInPython_of_ne h₂.1.not_modules]
       refine wpAny_bind (wpAny_specialOf h₂.1 hl ?_)
       first
         | exact wpAny_pure (wpAny_bind fin)
         | exact wpAny_bind (wpAny_pure (wpAny_bind fin))
         | exact wpAny_bind fin)
    | (refine wpAny_bind (wpAny_specialOf h₂.1 hl ?_)
       first
         | exact wpAny_bind (wpAny_pure (wpAny_bind fin))
         | exact wpAny_bind fin)
end
section
variable {Z : Amb} {S : Sx}
/-- a slice of a temporary -/
theorem rp_sliceT {k : Nat} {value upper : Expr} {p pos : Pos} {f g : ASt → Option AVal} (R₁ : RP Z S k value f) (R₂ : RP Z S k upper g) : RP Z S k (.Subscript value (.Slice none (some upper) none p) pos) (pSlice f g) := by
  intro A env own D γ st s c E hf r hr
  obtain ⟨a, q1, f1⟩ := bind_some hf
  obtain ⟨b, q2, f2⟩ := bind_some f1
  obtain ⟨xs, q3, f3⟩ := bind_some f2
  obtain ⟨n, q4, f4⟩ := bind_some f3
  obtain ⟨hn, f5⟩ := ite_some f4
  cases f5
  obtain rfl := lst?_some q3
  obtain rfl := int?_some q4
  refine sub_slice_t (T := "list") list_getitem_lookup (R₁.use q1 r hr fun v s1 k1 v1 => wpAny_Slice ?_)
  rw [evalPart_none]
  refine wpAny_pure ?_
  show wpAny _ _ (eval upper env) _ _ _
  refine R₂.use q2 (r.keeps' k1) hr fun u s2 k2 v2 => ?_
  obtain ⟨l, vs, rfl, hl, hp, hvs⟩ := vrel_lst v1
  obtain ⟨t, rfl⟩ := vrel_int v2
  have l1 := hvs.length
  obtain ⟨m, hm⟩ := Int.eq_ofNat_of_zero_le hn.2
  subst hm
  have hl2 : s2.heap.IsList l vs.toArray := hp.isList.at fun o e => k2.get e
  refine wpAny_pure ⟨(hl2.push _).typeIs, wpAny_getItem_list_slice (hl2.push _) (Heap.IsSliceOf.new ..) .none (.int _ _) .none (by simp) ?_ (by rw [List.size_toArray, l1, sizeLine_eq]; omega)⟩
  rw [Heap.size_push]
  have k3 : Kp s2 { s2 with heap := (s2.heap.push { cls := .type "slice", data := .fields #[.none, .int (m : Int) t, .none] }).push { cls := .type "list", data := .seq (slicePick vs.toArray none (some (m : Int)) none) } } := ⟨_, _, rfl, fun b o e => Heap.get?_push_of_some _ (Heap.get?_push_of_some _ e)⟩
  have w2 := ((r.keeps' k1).keeps' k2).wd
  refine ⟨(k1.trans k2).trans k3, .lst (vs := vs.take m) (w2.fresh (none_of_size (Nat.le_succ _))) ⟨0, ?_⟩ ((hvs.take _).keeps fun _ _ e => k3.get (k2.get e))⟩
  rw [slicePick_take, ← Heap.size_push]
  exact Heap.get?_push_size _ rfl
end
end Mine

end
section
set_option maxRecDepth 100000

namespace Mine
section
variable {prog : Program} {w : World} {A : Around} {E : Value → Shared → Prop} {s : Shared} {b : Array UInt8} {t : Tok}
/-! next(it), it an iterator over bytes -/
theorem call_next_item {it : Addr} {i : Nat} {c : UInt8} {Q : Value → Shared → Prop} (hit : KBw.IsBytesIter s.heap it b t i) (hx : b[i]? = some c)
    (hQ : ∀ h', KBw.IsBytesIter h' it b t (i + 1) → Heap.SameBut it s.heap h' → Q (.int (c.toNat : Int) s.toks) { s with heap := h', toks := s.toks + 1 }) : wpAny (model prog w) A (call (.builtin "next") [.ref it]) Q E s := by
  obtain ⟨o, ho, hc, hd⟩ := id hit
  refine call_function_entry (by decide +kernel) (by decide +kernel) kdk_entry_next (kdk_args_next _) ?_
  unfold Builtin.«next»
  refine wpAny_bind (m := someArgs "next" 1 2 _) (wpAny_of_eq (a := [Value.ref it]) (by first | rfl | kernel_rfl!) ?_)
  dsimp only
  refine wpAny_bind (wpAny_specialOf (name := Str.ofString "__next__") (KBw.iter_typeIs hit) KBw.slot_next.lookup ?_)
  refine wpAny_ite_split (fun hab => absurd hab (by decide)) (fun _ => ?_)
  refine wpAny_bind (wpAny_callSpecial?_slot (name := PySem.Str.ofString "__next__") (KBw.iter_typeIs hit) KBw.slot_next
    (wpAny_call_entry KBw.slot_next (KBw.iter_typeIs hit) KBw.entry_next ?_ (KBw.args_next _)))
  show wpAny _ _ (field (.ref it) 0 >>= _) _ _ s
  refine wpAny_bind (wpAny_field ho hd (x := .bytes b t) rfl ?_)
  show wpAny _ _ (if (Value.bytes b t == Value.none) = true then _ else _) _ _ s
  rw [if_neg (show ¬ ((Value.bytes b t == Value.none) = true) from Bool.false_ne_true)]
  show wpAny _ _ (field (.ref it) 1 >>= _) _ _ s
  refine wpAny_bind (wpAny_field ho hd (x := .int i 0) rfl ?_)
  refine wpAny_bind (wpAny_of_eq (a := b) rfl ?_)
  simp only [Int.toNat_natCast, hx]
  refine wpAny_bind (wpAny_setField ho hd (by simp) (wpAny_bind (wpAny_mkInt (wpAny_pure ⟨_, rfl, wpAny_pure ⟨_, rfl, hQ _ ?_ (Heap.SameBut.update ..)⟩⟩))))
  exact ⟨_, Heap.get?_update_self _ ho (Obj.isFreed_of_fields (Obj.data_mapFields hd _)), (Obj.cls_mapFields ..).trans hc, by
    rw [Obj.data_mapFields hd]; simp [rawInt]⟩
theorem call_next_end {it : Addr} {i : Nat} {Q : Value → Shared → Prop} (hh : A.handled = none) (hit : KBw.IsBytesIter s.heap it b t i) (hx : b[i]? = none)
    (hE : ∀ h1 h' x, Heap.SameBut it s.heap h1 → (∃ u, h1.get? it = some u) → Heap.MadeExcOf h1 h' x (.type "StopIteration") [] → E (.ref x) { s with heap := h' }) : wpAny (model prog w) A (call (.builtin "next") [.ref it]) Q E s := by
  obtain ⟨o, ho, hc, hd⟩ := id hit
  refine call_function_entry (by decide +kernel) (by decide +kernel) kdk_entry_next (kdk_args_next _) ?_
  unfold Builtin.«next»
  refine wpAny_bind (m := someArgs "next" 1 2 _) (wpAny_of_eq (a := [Value.ref it]) (by first | rfl | kernel_rfl!) ?_)
  dsimp only
  refine wpAny_bind (wpAny_specialOf (name := Str.ofString "__next__") (KBw.iter_typeIs hit) KBw.slot_next.lookup ?_)
  refine wpAny_ite_split (fun hab => absurd hab (by decide)) (fun _ => ?_)
  refine wpAny_bind (wpAny_callSpecial?_slot (name := PySem.Str.ofString "__next__") (KBw.iter_typeIs hit) KBw.slot_next
    (wpAny_call_entry KBw.slot_next (KBw.iter_typeIs hit) KBw.entry_next ?_ (KBw.args_next _)))
  show wpAny _ _ (field (.ref it) 0 >>= _) _ _ s
  refine wpAny_bind (wpAny_field ho hd (x := .bytes b t) rfl ?_)
  show wpAny _ _ (if (Value.bytes b t == Value.none) = true then _ else _) _ _ s
  rw [if_neg (show ¬ ((Value.bytes b t == Value.none) = true) from Bool.false_ne_true)]
  show wpAny _ _ (field (.ref it) 1 >>= _) _ _ s
  refine wpAny_bind (wpAny_field ho hd (x := .int i 0) rfl ?_)
  refine wpAny_bind (wpAny_of_eq (a := b) rfl ?_)
  simp only [Int.toNat_natCast, hx]
  refine wpAny_bind (wpAny_rule (wpAny_bind (wpAny_setField ho hd (by simp) ?_)))
  show wpAny _ _ (newExc (.type "StopIteration") [] >>= _) _ _ _
  refine wpAny_bind ?_
  simp only [newExc, newTuple]
  refine wpAny_bind (wpAny_newObj_type ?_ (by size_fits))
  refine wpAny_bind (m := firstArgMember _ _) (wpAny_of_eq (a := Value.none) (by first | rfl | (simp only [firstArgMember]; rfl)) ?_)
  refine wpAny_newObj_type ?_ (by size_fits)
  simp only [raiseNew]
  refine wpAny_bind (wpAny_handled ?_)
  rw [show A.in1.in1.handled = none from hh]
  refine wpAny_bind (wpAny_pure (wpAny_throw ?_))
  refine hE _ _ _ (Heap.SameBut.update ..) ⟨_, Heap.get?_update_self _ ho (Obj.isFreed_of_fields (Obj.data_mapFields hd _))⟩ ⟨fun b o e => Heap.get?_push_of_some _ (Heap.get?_push_of_some _ e), none_of_size ?_, _, Heap.get?_push_size _ rfl, none_of_size (Nat.le_refl _), Heap.get?_push_of_some _ (Heap.get?_push_size _ rfl)⟩
  simp only [size_push']
  omega
end
section
variable {Z : Amb} {S : Sx}
noncomputable def sNext (i : Nat) (f : ASt → Option AVal) : AS := fun st => (f st).bind fun a => a.cell?.bind fun j => (st.cells[j]?).bind fun c => match c with
  | .itB bs k => (bs[k]?).bind fun x => some (.next, stv i (.int x) { st with cells := st.cells.set j (.itB bs (k + 1)) })
  | _ => none
end
end Mine

end
section
set_option maxRecDepth 100000

namespace Mine
section
variable {Z : Amb} {S : Sx}
theorem cell_itB2 {h : Heap} {D γ : List Addr} {a : Addr} {bs : List Nat} {k : Nat} (x : CellR Z h D γ a (.itB bs k)) : ∃ b t, bs = toNats b ∧ KBw.IsBytesIter h a b t k := by
  cases x
  exact ⟨_, _, rfl, by assumption⟩
theorem toNats_at2 {b : Array UInt8} {k x : Nat} (h : (toNats b)[k]? = some x) : ∃ c : UInt8, b[k]? = some c ∧ c.toNat = x := by
  unfold toNats at h
  rw [List.getElem?_map, Option.map_eq_some_iff] at h
  obtain ⟨c, h1, h2⟩ := h
  exact ⟨c, by rw [← Array.getElem?_toList]; exact h1, h2⟩
theorem rs_next {k i : Nat} {x nx : Str} {p xp cp pos : Pos} {e : Expr} {f : ASt → Option AVal} (h0 : RP Z S k (.Name nx xp) (fun _ => some (.cst (.builtin "next")))) (R : RP Z S k e f) (hst : ∀ env, starEach [e] env = [(false, eval e env)]) (hc : chkSt S i x = true)
    (hs : ∀ env, swapsWith (.Call (.Name nx xp) [e] [] cp) (some (.Name x p)) pos.line env = pure false) : RSt Z S k (.Assign [.Name x p] (.Call (.Name nx xp) [e] [] cp) pos) (sNext i f) := by
  obtain ⟨_, hi, hk, hkd, _⟩ := chkSt_ok hc
  intro A env own D γ st s fl st' E hf r hr
  obtain ⟨a, q1, f1⟩ := bind_some hf
  obtain ⟨j, q2, f2⟩ := bind_some f1
  obtain ⟨c, q3, f3⟩ := bind_some f2
  obtain rfl := cell?_some q2
  split at f3
  case h_2 => cases f3
  obtain ⟨y, q4, f4⟩ := bind_some f3
  cases f4
  refine wpAny_Assign_Name (callName1 h0 (keep_builtin _) hst r hr fun s1 k1 => R.use q1 (r.keeps' k1) hr fun v s2 k2 v2 => ⟨((r.keeps' k1).keeps' k2).base, ?_⟩) (hs env)
  obtain ⟨I, rfl, hI⟩ := vrel_cell v2
  have r2 := (r.keeps' k1).keeps' k2
  obtain ⟨b, t, rfl, hit⟩ := cell_itB2 (r2.cells.2 j I _ hI q3)
  obtain ⟨u, hu, rfl⟩ := toNats_at2 q4
  refine call_next_item hit hu fun h' hit' hs' => ?_
  have r3 := r2.cellSet (c := .itB (toNats b) _) hI (fun b o hb e => hs'.extBut b o hb e) (.itB hit')
  have c3 : Chg (own ++ γ) s2 { s2 with heap := h', toks := s2.toks + 1 } := ⟨h', _, rfl, fun b o hb e => hs'.extBut b o (fun q => hb (List.mem_append_right _ (q ▸ List.mem_of_getElem? hI))) e⟩
  refine storeVar (s := { s2 with heap := h', toks := s2.toks + 1 }) hi hk hkd r3 (.int _ _) fun s4 c4 r4 => ?_
  exact .of_keep ((((k1.trans k2).chg _).trans c3 fun b hb => .inl hb).trans c4 fun b hb => .inl (List.mem_append_left _ hb)) r4 .next
end
end Mine

end
section
set_option maxRecDepth 100000

namespace Mine
section
variable {Z : Amb} {S : Sx}
/-- `x = f(args)`, f a def that changes its cells -/
noncomputable def sACall (i : Nat) (fa : Addr) (F : DefF) (ff : ASt → Option AVal) (f : ASt → Option (List AVal)) : AS := fun st =>
  match ff st, f st with
  | some (.cst (.ref b)), some as => if b = fa then (F st.cells as).bind fun p => some (.next, stv i p.1 { st with cells := p.2 }) else none
  | _, _ => none
theorem rs_acall {k k' fa i : Nat} {x fx : Str} {p xp cp pos : Pos} {es : List Expr} {ff : ASt → Option AVal} {f : ASt → Option (List AVal)} {F : DefF} (H : RC Z k' fa [] F) (hkk : k' ≤ k) (hkp : keepIn Z.K (.ref fa) = true)
    (h0 : RP Z S k (.Name fx xp) ff) (h1 : RPs Z S k es f) (sh : ArgSh es f) (hx : chkSt S i x = true)
    (hs : ∀ env, swapsWith (.Call (.Name fx xp) es [] cp) (some (.Name x p)) pos.line env = pure false) : RSt Z S k (.Assign [.Name x p] (.Call (.Name fx xp) es [] cp) pos) (sACall i fa F ff f) := by
  obtain ⟨_, hi, hk, hkd, _⟩ := chkSt_ok hx
  intro A env own D γ st s fl st' E hf r hr
  unfold sACall at hf
  split at hf
  case h_2 => cases hf
  rename_i b as q0 q1
  split at hf
  case isFalse => cases hf
  rename_i hc
  subst hc
  obtain ⟨q, hF, f1⟩ := bind_some hf
  obtain ⟨rr, cs'⟩ := q
  cases f1
  refine wpAny_Assign_Name (callName h0 h1 rks_nil rfl sh.sh sh.ns q0 q1 rfl r hr (keep_fn hkp) fun vs kvs s1 k1 v1 v2 => ?_) (hs env)
  cases v2
  refine wpAny_mono (H hF (by simpa using v1) rfl (r.keeps' k1).wd (hr.mono hkk)) (fun v s2 h => ?_) fun _ _ x => x
  obtain ⟨c2, w2, vr⟩ := h
  have r2 := (r.keeps' k1).cellsTo c2 w2
  refine storeVar hi hk hkd r2 vr fun s4 c4 r4 => ?_
  exact .of_keep (((k1.chg _).trans (c2.mono fun a h => List.mem_append_right own h) fun b hb => .inl hb).trans c4 fun b hb => .inl (List.mem_append_left _ hb)) r4 .next
end
end Mine

end
section
set_option maxRecDepth 100000

namespace Mine
section
variable {Z : Amb} {S : Sx}
/-- `o[i] = f(args)`, f a def that changes its cells -/
noncomputable def sASet (fa : Addr) (F : DefF) (ff : ASt → Option AVal) (f : ASt → Option (List AVal)) (fo fi : ASt → Option AVal) : AS := fun st =>
  match ff st, f st with
  | some (.cst (.ref b)), some as => if b = fa then (F st.cells as).bind fun p => (fo { st with cells := p.2 }).bind fun o => (fi { st with cells := p.2 }).bind fun i => o.cell?.bind fun j => i.int?.bind fun k => (setCell p.2 j k p.1).bind fun cs' => some (.next, { st with cells := cs' }) else none
  | _, _ => none
theorem rs_aset {k k' fa : Nat} {o i : Expr} {fx : Str} {p xp cp pos : Pos} {es : List Expr} {ff : ASt → Option AVal} {f : ASt → Option (List AVal)} {fo fi : ASt → Option AVal} {F : DefF} (H : RC Z k' fa [] F) (hkk : k' ≤ k) (hkp : keepIn Z.K (.ref fa) = true)
    (h0 : RP Z S k (.Name fx xp) ff) (h1 : RPs Z S k es f) (Ro : RP Z S k o fo) (Ri : RP Z S k i fi) (sh : ArgSh es f)
    (hs : ∀ env, swapsWith (.Call (.Name fx xp) es [] cp) (some (.Subscript o i p)) pos.line env = pure false) : RSt Z S k (.Assign [.Subscript o i p] (.Call (.Name fx xp) es [] cp) pos) (sASet fa F ff f fo fi) := by
  intro A env own D γ st s fl st' E hf r hr
  unfold sASet at hf
  split at hf
  case h_2 => cases hf
  rename_i b as q0 q1
  split at hf
  case isFalse => cases hf
  rename_i hc
  subst hc
  obtain ⟨q, hF, f0⟩ := bind_some hf
  obtain ⟨a, cs1⟩ := q
  obtain ⟨oa, q2, f2⟩ := bind_some f0
  obtain ⟨ia, q3, f3⟩ := bind_some f2
  obtain ⟨j, q5, f4⟩ := bind_some f3
  obtain ⟨kk, q6, f5⟩ := bind_some f4
  obtain ⟨cs', q4, f6⟩ := bind_some f5
  clear hf f0 f2 f3 f4 f5
  obtain rfl := cell?_some q5
  obtain rfl := int?_some q6
  cases f6
  refine wpAny_Assign_Subscript (callName h0 h1 rks_nil rfl sh.sh sh.ns q0 q1 rfl r hr (keep_fn hkp) fun vs kvs s1 k1 v1 v2 => ?_) (hs env)
  cases v2
  refine wpAny_mono (H hF (by simpa using v1) rfl (r.keeps' k1).wd (hr.mono hkk)) (fun v s2 h => ?_) fun _ _ x => x
  obtain ⟨c2, w2, vr⟩ := h
  have r2 := (r.keeps' k1).cellsTo c2 w2
  refine Ro.use q2 r2 hr fun ov s3 k3 v3 => Ri.use q3 (r2.keeps' k3) hr fun iv s4 k4 v4 => ?_
  have r4 := (r2.keeps' k3).keeps' k4
  obtain ⟨t, rfl⟩ := vrel_int v4
  refine wpAny_mono (setCell_wp q4 (v3.keeps fun _ _ e => k4.get e) (vr.keeps fun _ _ e => k4.get (k3.get e)) r4.wd) (fun _ s5 h => ?_) fun _ _ x => x
  have c12 : Chg (own ++ γ) s s2 := (k1.chg _).trans (c2.mono fun a h => List.mem_append_right own h) fun b hb => .inl hb
  have c14 := c12.trans ((k3.trans k4).chg (own ++ γ)) fun b hb => .inl hb
  exact .of_keep (c14.trans (h.1.mono fun a h => List.mem_append_right own h) fun b hb => .inl hb) (r4.cellsTo h.1 h.2) .next
end
end Mine

end
section
set_option maxRecDepth 100000

namespace Mine
/-! statements behind which an exception was caught: the live frames' own records may have turned their slots -/
noncomputable def frs (l : List Env) : List Addr := l.filterMap (·.frame)
inductive FrOut (e : Env) (D own γ : List Addr) (h : Heap) : Prop
  | mk (h1 : e.scope.kind ≠ .module) (L : Addr) (o : Obj) (h2 : e.frame = some L) (h3 : L ∈ D) (h4 : L ∉ own) (h5 : L ∉ γ) (h6 : h.get? L = some o) (h7 : ∀ vs, o.data ≠ .fields vs)
noncomputable def OutOk (D own γ : List Addr) (h : Heap) (l : List Env) : Prop := ∀ e ∈ l, FrOut e D own γ h
inductive ChgW (X L : List Addr) (s s' : Shared) : Prop
  | mk (h' : Heap) (tk : Nat) (e : s' = { s with heap := h', toks := tk }) (k : ∀ b o, b ∉ L → s.heap.get? b = some o → (b ∉ X → h'.get? b = some o) ∧ ∃ sl, h'.get? b = some { o with slots := sl })
structure FrOk (A : Around) (env : Env) (outer : List Env) (D own γ : List Addr) (h : Heap) : Prop where
  stack : A.frames = some (env :: outer)
  efr : env.frame = some env.locals
  out : OutOk D own γ h outer

section
variable {Z : Amb} {S : Sx}
theorem Chg.toW {L : List Addr} {s s' : Shared} (x : Chg L s s') (X : List Addr) : ChgW X L s s' := by
  obtain ⟨h', tk, e, k⟩ := x
  exact ⟨h', tk, e, fun b o hb q => ⟨fun _ => k b o hb q, o.slots, k b o hb q⟩⟩
theorem ChgW.trans {X L L' : List Addr} {s s' s'' : Shared} (x : ChgW X L s s') (y : ChgW X L' s' s'') (hL : ∀ b ∈ L', b ∈ L ∨ s.heap.get? b = none) : ChgW X L s s'' := by
  obtain ⟨h1, t1, rfl, k1⟩ := x
  obtain ⟨h2, t2, rfl, k2⟩ := y
  refine ⟨h2, t2, rfl, fun b o hb e => ?_⟩
  have hb' : b ∉ L' := fun hm => (hL b hm).elim hb fun q => by rw [q] at e; cases e
  obtain ⟨e1, sl, e2⟩ := k1 b o hb e
  obtain ⟨_, sl', e3⟩ := k2 b _ hb' e2
  exact ⟨fun hx => (k2 b o hb' (e1 hx)).1 hx, sl', e3⟩
theorem ChgW.mono {X L L' : List Addr} {s s' : Shared} (x : ChgW X L s s') (h : ∀ a ∈ L, a ∈ L') : ChgW X L' s s' := by
  obtain ⟨h', tk, e, k⟩ := x
  exact ⟨h', tk, e, fun b o hb q => k b o (fun m => hb (h b m)) q⟩
theorem OutOk.to {X L D D' own γ γ' : List Addr} {s s' : Shared} {l : List Env} (x : OutOk D own γ s.heap l) (c : ChgW X L s s') (hL : ∀ a ∈ L, a ∈ own ++ γ) (hD : ∀ a ∈ D, a ∈ D') (hγ : ∀ a ∈ γ', a ∈ γ ∨ s.heap.get? a = none) : OutOk D' own γ' s'.heap l := fun e he => by
  obtain ⟨h1, L, o, h2, h3, h4, h5, h6, h7⟩ := x e he
  obtain ⟨h', tk, rfl, k⟩ := c
  obtain ⟨_, sl, e3⟩ := k L o (fun hm => (List.mem_append.mp (hL _ hm)).elim h4 h5) h6
  exact ⟨h1, L, _, h2, hD _ h3, h4, fun hm => (hγ _ hm).elim h5 fun q => (by rw [h6] at q; cases q), e3, h7⟩
theorem FrOk.to {X L D D' own γ γ' : List Addr} {A : Around} {env : Env} {outer : List Env} {s s' : Shared} (x : FrOk A env outer D own γ s.heap) (c : ChgW X L s s') (hL : ∀ a ∈ L, a ∈ own ++ γ) (hD : ∀ a ∈ D, a ∈ D') (hγ : ∀ a ∈ γ', a ∈ γ ∨ s.heap.get? a = none) : FrOk A env outer D' own γ' s'.heap :=
  ⟨x.stack, x.efr, x.out.to c hL hD hγ⟩
theorem FrOk.turned {X D own γ : List Addr} {A : Around} {env : Env} {outer : List Env} {s s' : Shared} (x : FrOk A env outer D own γ s.heap) (c : ChgW X [] s s') : FrOk A env outer D own γ s'.heap :=
  x.to c (fun _ h => nomatch h) (fun _ h => h) fun _ h => .inl h
theorem FrOk.in_ {D own γ : List Addr} {A : Around} {env : Env} {outer : List Env} {st : ASt} {h : Heap} (x : FrOk A env outer D own γ h) (r : Rel Z S env own D γ st h) : ∀ b ∈ frs (env :: outer), b ∈ D ∧ b ∉ γ := by
  intro b hb
  obtain ⟨e, he, hf⟩ := List.mem_filterMap.mp hb
  rcases List.mem_cons.mp he with rfl | he
  · obtain rfl := Option.some.inj (x.efr.symm.trans hf)
    exact ⟨r.ownD _ r.Lown, r.ownγ _ r.Lown⟩
  · obtain ⟨_, L, _, h2, h3, _, h5, _⟩ := x.out e he
    obtain rfl := Option.some.inj (h2.symm.trans hf)
    exact ⟨h3, h5⟩
/-- the frames as a callee sees them -/
theorem FrOk.callγ {D own γ : List Addr} {A : Around} {env : Env} {outer : List Env} {st : ASt} {h : Heap} (x : FrOk A env outer D own γ h) (r : Rel Z S env own D γ st h) : OutOk D [] γ h (env :: outer) := by
  intro e he
  rcases List.mem_cons.mp he with rfl | he
  · obtain ⟨m, ⟨o, es, ep, h1, h2, _⟩, _⟩ := r.ns
    exact ⟨by rw [r.esc, r.kind]; decide, _, o, x.efr, r.ownD _ r.Lown, by simp, r.ownγ _ r.Lown, h1, fun vs q => by rw [h2] at q; cases q⟩
  · obtain ⟨h1, L, o, h2, h3, _, h5, h6, h7⟩ := x.out e he
    exact ⟨h1, L, o, h2, h3, by simp, h5, h6, h7⟩
theorem FrOk.call {D own γ : List Addr} {A : Around} {env : Env} {outer : List Env} {st : ASt} {h : Heap} (x : FrOk A env outer D own γ h) (r : Rel Z S env own D γ st h) : OutOk D [] [] h (env :: outer) := fun e he =>
  let ⟨h1, L, o, h2, h3, h4, _, h6, h7⟩ := x.callγ r e he; ⟨h1, L, o, h2, h3, h4, by simp, h6, h7⟩

theorem Rel.turnL {X L own D γ : List Addr} {env : Env} {st : ASt} {cs' : List ACell} {s s' : Shared} (r : Rel Z S env own D γ st s.heap) (hX : ∀ b ∈ X, b ∈ D ∧ b ∉ γ) (hL : ∀ b ∈ L, b ∈ γ ∧ ∃ o, s'.heap.get? b = some o) (c : ChgW X L s s') (hc : CellsR Z s'.heap D γ cs') :
    Rel Z S env own D γ { loc := st.loc, cells := cs' } s'.heap := by
  obtain ⟨h', tk, rfl, k⟩ := c
  have up : ∀ b o, b ∉ L → s.heap.get? b = some o → ∃ sl, h'.get? b = some { o with slots := sl } := fun b o hb e => (k b o hb e).2
  have LD : ∀ b ∈ L, b ∈ D := fun b hb => r.γD b (hL b hb).1
  have kD : ∀ b o, b ∉ D → s.heap.get? b = some o → h'.get? b = some o := fun b o hb e => (k b o (fun hm => hb (LD b hm)) e).1 fun hm => hb (hX b hm).1
  exact { r with
    base := fun b o e => kD b o (fun hm => by have := (r.live b hm).1; rw [e] at this; cases this) (r.base b o e)
    live := fun d hd => ⟨(r.live d hd).1, by
      by_cases hm : d ∈ L
      · exact (hL d hm).2
      · obtain ⟨o, e⟩ := (r.live d hd).2; obtain ⟨_, e'⟩ := up d o hm e; exact ⟨_, e'⟩⟩
    ns := by
      obtain ⟨m, ⟨o, es, ep, h1, h2⟩, hv⟩ := r.ns
      obtain ⟨sl, e⟩ := up _ _ (fun hm => r.ownγ _ r.Lown (hL _ hm).1) h1
      exact ⟨m, ⟨_, es, ep, e, h2⟩, fun i y q1 q2 av q3 => let ⟨v, e, rv⟩ := hv i y q1 q2 av q3; ⟨v, e, rv.mono kD⟩⟩
    cl := fun i y q1 q2 => by
      obtain ⟨c, vo, e1, ⟨o, e2, e3⟩, e4⟩ := r.cl i y q1 q2
      obtain ⟨sl, e⟩ := up _ _ (fun hm => (r.cap _ _ e1).2.2 (hL _ hm).1) e2
      exact ⟨c, vo, e1, ⟨_, e, e3⟩, fun av q3 => let ⟨v, e, rv⟩ := e4 av q3; ⟨v, e, rv.mono kD⟩⟩
    cells := hc }
theorem Rel.turn {X own D γ : List Addr} {env : Env} {st : ASt} {s s' : Shared} (r : Rel Z S env own D γ st s.heap) (hX : ∀ b ∈ X, b ∈ D ∧ b ∉ γ) (c : ChgW X [] s s') : Rel Z S env own D γ st s'.heap := by
  refine r.turnL (L := []) (cs' := st.cells) hX (fun _ h => (nomatch h)) c ?_
  obtain ⟨h', tk, rfl, k⟩ := c
  exact r.cells.mono (fun b o hb e => (k b o (by simp) e).1 fun hm => hb (hX b hm).1) fun b hb o e => (k b o (by simp) e).1 fun hm => (hX b hm).2 hb
end

section
variable (Z : Amb) (S : Sx)
noncomputable def RPW (k : Nat) (e : Expr) (f : ASt → Option AVal) : Prop :=
  ∀ {A : Around} {env : Env} {outer : List Env} {own D γ : List Addr} {st : ASt} {s : Shared} {a : AVal} {E : Value → Shared → Prop}, f st = some a → Rel Z S env own D γ st s.heap → Room A k → FrOk A env outer D own γ s.heap →
    wpAny Z.M A (eval e env) (fun v s' => ChgW (frs (env :: outer)) [] s s' ∧ VRel Z s'.heap D γ v a) E s
noncomputable def RPsW (k : Nat) (es : List Expr) (f : ASt → Option (List AVal)) : Prop :=
  ∀ {A : Around} {env : Env} {outer : List Env} {own D γ : List Addr} {st : ASt} {s : Shared} {as : List AVal} {pos : Pos} {E : Value → Shared → Prop}, f st = some as → Rel Z S env own D γ st s.heap → Room A k → FrOk A env outer D own γ s.heap →
    wpAny Z.M A (spliced (backTo pos (starEach es env))) (fun vs s' => ChgW (frs (env :: outer)) [] s s' ∧ VRels Z s'.heap D γ vs as) E s
inductive AfterW (env : Env) (outer : List Env) (own D γ : List Addr) (s : Shared) (fl : AFlow) (st' : ASt) (x : Flow) (s' : Shared) : Prop
  | mk (ex : List Addr) (c : ChgW (frs (env :: outer)) (own ++ γ) s s') (f : ∀ a ∈ ex, s.heap.get? a = none) (r : Rel Z S env own (D ++ ex) (γ ++ ex) st' s'.heap) (q : FRel Z s'.heap (D ++ ex) (γ ++ ex) x fl)
noncomputable def RSsW (k : Nat) (ss : List Stmt) (f : AS) : Prop :=
  ∀ {A : Around} {env : Env} {outer : List Env} {own D γ : List Addr} {st : ASt} {s : Shared} {fl : AFlow} {st' : ASt} {E : Value → Shared → Prop}, f st = some (fl, st') → Rel Z S env own D γ st s.heap → Room A k → FrOk A env outer D own γ s.heap →
    wpAny Z.M A (execs ss env) (AfterW Z S env outer own D γ s fl st') E s
noncomputable def RStW (k : Nat) (t : Stmt) (f : AS) : Prop :=
  ∀ {A : Around} {env : Env} {outer : List Env} {own D γ : List Addr} {st : ASt} {s : Shared} {fl : AFlow} {st' : ASt} {E : Value → Shared → Prop}, f st = some (fl, st') → Rel Z S env own D γ st s.heap → Room A k → FrOk A env outer D own γ s.heap →
    wpAny Z.M A (exec t env) (AfterW Z S env outer own D γ s fl st') E s
/-- the contract of a def that catches an exception -/
noncomputable def RCW (k : Nat) (fa : Addr) (F : DefF) : Prop :=
  ∀ {A : Around} {D : List Addr} {args : List Value} {avs : List AVal} {cs' : List ACell} {s : Shared} {r : AVal} {l : List Env} {E : Value → Shared → Prop}, F [] avs = some (r, cs') → VRels Z s.heap D [] args avs →
    Wd Z D [] [] s.heap → Room A k → A.frames = some l → OutOk D [] [] s.heap l → wpAny Z.M A (call (.ref fa) args []) (fun v s' => ChgW (frs l) [] s s' ∧ VRel Z s'.heap D [] v r) E s
end

section
variable {Z : Amb} {S : Sx}
theorem After.toW {env : Env} {own D γ : List Addr} {s s' : Shared} {fl : AFlow} {st' : ASt} {x : Flow} (h : After Z S env own D γ s fl st' x s') (outer : List Env) : AfterW Z S env outer own D γ s fl st' x s' := let ⟨ex, c, f, r, q⟩ := h; ⟨ex, c.toW _, f, r, q⟩
theorem rstw_of {k : Nat} {t : Stmt} {f : AS} (R : RSt Z S k t f) : RStW Z S k t f := fun hf r hr _ => wpAny_mono (R hf r hr) (fun _ _ h => h.toW _) fun _ _ x => x
theorem rssw_nil {k : Nat} : RSsW Z S k [] sNil := fun hf r hr _ => wpAny_mono (rs_nil hf r hr) (fun _ _ h => h.toW _) fun _ _ x => x

theorem AfterW.trans {env : Env} {outer : List Env} {own D γ ex : List Addr} {s s1 s2 : Shared} {st1 st' : ASt} {fl : AFlow} {x : Flow} (hc : ChgW (frs (env :: outer)) (own ++ γ) s s1) (hex : ∀ a ∈ ex, s.heap.get? a = none) (r1 : Rel Z S env own (D ++ ex) (γ ++ ex) st1 s1.heap)
    (h : AfterW Z S env outer own (D ++ ex) (γ ++ ex) s1 fl st' x s2) : AfterW Z S env outer own D γ s fl st' x s2 := by
  obtain ⟨ex', c2, f2, r2, q2⟩ := h
  refine ⟨ex ++ ex', hc.trans c2 fun b hb => ?_, fun a ha => ?_, by rw [← List.append_assoc, ← List.append_assoc]; exact r2, by rw [← List.append_assoc, ← List.append_assoc]; exact q2⟩
  · rcases List.mem_append.mp hb with h | h
    · exact .inl (List.mem_append_left _ h)
    · rcases List.mem_append.mp h with h | h
      · exact .inl (List.mem_append_right _ h)
      · exact .inr (hex b h)
  · rcases List.mem_append.mp ha with h | h
    · exact hex a h
    · cases e : s.heap.get? a with
      | none => rfl
      | some o =>
        by_cases hm : a ∈ own ++ γ
        · have hD : a ∈ D ++ ex := (List.mem_append.mp hm).elim (r1.ownD _) fun q => r1.γD _ (List.mem_append_left _ q)
          obtain ⟨o', e'⟩ := (r1.live a hD).2
          rw [f2 a h] at e'; cases e'
        · obtain ⟨h1, t1, rfl, k1⟩ := hc
          obtain ⟨_, sl, e2⟩ := k1 a o hm e
          have := f2 a h
          rw [show h1.get? a = _ from e2] at this; cases this

theorem rssw_cons {k : Nat} {t : Stmt} {ts : List Stmt} {f g : AS} (h1 : RStW Z S k t f) (h2 : RSsW Z S k ts g) : RSsW Z S k (t :: ts) (sSeq f g) := by
  intro A env outer own D γ st s fl st' E hf r hr fo
  unfold sSeq at hf
  refine wpAny_execs_cons ?_
  cases q : f st with
  | none => rw [q] at hf; cases hf
  | some p =>
    obtain ⟨fl1, st1⟩ := p
    refine wpAny_mono (h1 q r hr fo) (fun x s1 ha => ?_) fun _ _ x => x
    obtain ⟨ex, hc, hex, r1, hfl⟩ := ha
    rw [q] at hf
    cases hfl with
    | next =>
      dsimp only at hf ⊢
      refine wpAny_mono (h2 hf r1 hr (fo.to hc (fun a ha => ha) (fun a ha => List.mem_append_left _ ha) fun a ha => ?_)) (fun y s2 hb => AfterW.trans hc hex r1 hb) fun _ _ x => x
      exact (List.mem_append.mp ha).imp id (hex a)
    | brk => cases hf; exact ⟨ex, hc, hex, r1, .brk⟩
    | cont => cases hf; exact ⟨ex, hc, hex, r1, .cont⟩
    | ret hv => cases hf; exact ⟨ex, hc, hex, r1, .ret hv⟩

/-- a call of such a def -/
theorem rpw_call {k k' fa : Nat} {x : Str} {xp pos : Pos} {es : List Expr} {ff : ASt → Option AVal} {f : ASt → Option (List AVal)} {F : DefF} (H : RCW Z k' fa F) (hkk : k' ≤ k) (hkp : keepIn Z.K (.ref fa) = true)
    (h0 : RP Z S k (.Name x xp) ff) (h1 : RPs Z S k es f) (sh : ArgSh es f) : RPW Z S k (.Call (.Name x xp) es [] pos) (pCall fa F ff f nilF) := by
  intro A env outer own D γ st s a E hf r hr fo
  unfold pCall at hf
  split at hf
  case h_2 => cases hf
  rename_i b as bs q0 q1 q2
  split at hf
  case isFalse => cases hf
  rename_i hc
  obtain ⟨rfl, hu⟩ := hc
  cases q2
  rw [List.append_nil] at hu hf
  obtain ⟨p, hF, rfl⟩ := Option.map_eq_some_iff.mp hf
  refine callName h0 h1 rks_nil rfl sh.sh sh.ns q0 q1 rfl r hr (keep_fn hkp) fun vs kvs s1 k1 v1 v2 => ?_
  cases v2
  have r1 := r.keeps' k1
  have c1 := (k1.chg []).toW (frs (env :: outer))
  have hv0 : VRels Z s1.heap D ([] : List Addr) vs as := VRels.shrink (γ := []) (ex := γ) (fun a h => h) (by simpa using v1) (underAll_of hu)
  refine wpAny_mono (H hF hv0 r1.wd.none (hr.mono hkk) fo.stack ((fo.turned c1).call r1)) (fun v s2 h => ⟨c1.trans h.1 fun _ hb => (nomatch hb), ?_⟩) fun _ _ x => x
  simpa using h.2.grow (ex := γ) (D' := D) (fun a h => .inl h)

theorem rpsw_nil {k : Nat} : RPsW Z S k [] nilF := fun hf r hr _ => wpAny_mono (rps_nil hf r hr) (fun _ _ h => ⟨(h.1.chg _).toW _, h.2⟩) fun _ _ x => x
theorem rpsw_cons {k : Nat} {e : Expr} {es : List Expr} {f : ASt → Option AVal} {g : ASt → Option (List AVal)} (h1 : RPW Z S k e f) (h2 : RPsW Z S k es g) (hst : ∀ env, starEach (e :: es) env = (false, eval e env) :: starEach es env) : RPsW Z S k (e :: es) (consF f g) := by
  intro A env outer own D γ st s as pos E hf r hr fo
  obtain ⟨b, bs, q1, q2, rfl⟩ := consF_some hf
  rw [hst]
  refine spliced_cons (wpAny_mono (h1 q1 r hr fo) (fun v s1 h => ?_) fun _ _ x => x)
  obtain ⟨c1, v1⟩ := h
  refine wpAny_mono (h2 (pos := pos) q2 (r.turn (fo.in_ r) c1) hr (fo.turned c1)) (fun vs s2 h => ⟨c1.trans h.1 fun _ hb => (nomatch hb), .cons (v1.mono fun b o hb e => ?_) h.2⟩) fun _ _ x => x
  obtain ⟨h', tk, rfl, k'⟩ := h.1
  exact (k' b o (by simp) e).1 fun hm => hb (fo.in_ r b hm).1
theorem rpw_tup {k : Nat} {es : List Expr} {n : Nat} {pos : Pos} {f : ASt → Option (List AVal)} (R : RPsW Z S k es f) : RPW Z S k (.Tuple es n pos) (pTup f) := by
  intro A env outer own D γ st s a E hf r hr fo
  unfold pTup at hf
  split at hf
  case h_2 => cases hf
  rename_i xs q
  split at hf
  case isFalse => cases hf
  cases hf
  refine Tuple_ (wpAny_mono (R q r hr fo) (fun vs s1 h => ?_) fun _ _ x => x)
  exact wpAny_mono (newTuple_wp (by assumption) h.2 (r.turn (fo.in_ r) h.1).wd) (fun v s2 h2 => ⟨h.1.trans ((h2.1.chg []).toW _) fun _ hb => (nomatch hb), h2.2⟩) fun _ _ x => x

theorem rsw_assign {k i : Nat} {x : Str} {p pos : Pos} {e : Expr} {f : ASt → Option AVal} (R : RPW Z S k e f) (h : chkSt S i x = true) (hs : ∀ env, env.scope = S.sc → swapsWith e (some (.Name x p)) pos.line env = pure false) : RStW Z S k (.Assign [.Name x p] e pos) (sAssign i f) := by
  obtain ⟨kd, hi, hk, hkd, _⟩ := chkSt_ok h
  intro A env outer own D γ st s fl st' E hf r hr fo
  unfold sAssign at hf
  obtain ⟨a, q, hf⟩ := Option.map_eq_some_iff.mp hf
  cases hf
  refine wpAny_Assign_Name (wpAny_mono (R q r hr fo) (fun v s1 h => ?_) fun _ _ x => x) (hs env r.esc)
  refine storeVar hi hk hkd (r.turn (fo.in_ r) h.1) h.2 fun s2 c2 r2 => ⟨[], (h.1.mono fun _ hb => (nomatch hb)).trans (c2.toW _) fun b hb => .inl (List.mem_append_left _ hb), by simp, by simpa using r2, .next⟩
theorem rsw_unp {k i j n : Nat} {x y : Str} {p q tp pos : Pos} {e : Expr} {f : ASt → Option AVal} (R : RPW Z S k e f) (hx : chkSt S i x = true) (hy : chkSt S j y = true) (hs : ∀ env, swapsWithSole [.Tuple [.Name x p, .Name y q] n tp] e pos.line env = pure false)
    (hw : ∀ env, env.scope = S.sc → swappedStores [.Tuple [.Name x p, .Name y q] n tp] e env = pure none) : RStW Z S k (.Assign [.Tuple [.Name x p, .Name y q] n tp] e pos) (sUnp i j f) := by
  obtain ⟨_, hi, hk, hkd, _⟩ := chkSt_ok hx
  obtain ⟨_, hj, hl, hke, _⟩ := chkSt_ok hy
  intro A env outer own D γ st s fl st' E hf r hr fo
  obtain ⟨a, q1, f1⟩ := bind_some hf
  obtain ⟨st2, q2, f2⟩ := bind_some f1
  cases f2
  obtain ⟨l, q3, g1⟩ := bind_some q2
  obtain rfl := tup?_some q3
  clear hf f1 q2 q3
  split at g1
  case h_2 => cases g1
  cases g1
  refine Assign_Tuple (wpAny_mono (R q1 r hr fo) (fun v s1 h => ?_) fun _ _ x => x) (hs env) (hw env r.esc)
  exact unpack2 hi hk hkd hj hl hke (r.turn (fo.in_ r) h.1) h.2 hr fun s2 c2 r2 => ⟨[], (h.1.mono fun _ hb => (nomatch hb)).trans (c2.toW _) fun b hb => .inl (List.mem_append_left _ hb), by simp, by simpa using r2, .next⟩
end
end Mine

end
section
set_option maxRecDepth 100000

namespace Mine
section
variable {Z : Amb} {S : Sx}
theorem rcw_def {k fa n m : Nat} {dfl : List AVal} {f : AS} {name qual : Str} {params : Arguments} {body : List Stmt} {scope : Scope} {dV kV doc pm cdv ct oc : Value} {an od : Option Addr} {osl : Array (Option Value)} {pn rest : List Str} {dv : List Value}
    (ho : Z.K.lookup fa = some ⟨oc, od, .func (fnOf name qual params body scope dV kV doc pm an cdv ct), osl⟩) (hcd : codeIn Z.K cdv qual = true)
    (hsc : S.sc = scope) (hk : scope.kind = .function) (hv : S.vars = pn ++ rest) (hvn : S.vars.Nodup) (hfree : ∀ x ∈ S.vars, scope.names.lookup x ≠ some .free)
    (hpl : pn.length = n + dfl.length) (hrest : rest.length = m) (hnd : ((cellsFrom 0 scope.names []).map (·.1)).Nodup)
    (hkind : (pn.all fun y => scope.names.lookup y == some .local || scope.names.lookup y == some .cell) = true)
    (hdv : ∀ (h : Heap) (D γ : List Addr), VRels Z h D γ dv dfl)
    (hbind : ∀ (s : Shared) (args kvs : List Value), args.length + kvs.length = n → kvs.length = ([] : List Str).length → (∀ b o, Z.H0.get? b = some o → s.heap.get? b = some o) → BindsTo s (fnOf name qual params body scope dV kV doc pm an cdv ct) ⟨args, ([] : List Str).zip kvs⟩ (pn.zip (args ++ kvs ++ dv)))
    (R : RSsW Z S k body f) (hco : scope.isCoroutine = false) (hgen : scope.isGenerator = false) : RCW Z (k + 1) fa (runDef n m dfl f) := by
  intro A D args avs cs' s r l E hf hvs wd hr hst ho'
  unfold runDef at hf
  split at hf
  case isFalse => cases hf
  case isTrue hn =>
  split at hf
  case h_2 => cases hf
  rename_i fl st' hq
  refine def_enter (kws := []) (kvs := []) ho hcd hsc hk hv hvn hfree hpl hrest hnd hkind hdv hbind hco hgen (by simpa using hvs) rfl hn wd hr fun own s₁ hfr r1 hs₁ => ?_
  obtain ⟨h₁, tk, rfl, hkeep⟩ := hs₁
  have fo : FrOk (A.deeper (envOfC qual scope s.heap.objs.size fa cdv)) (envOfC qual scope s.heap.objs.size fa cdv) l (D ++ own) own [] h₁ :=
    ⟨Around.frames_deeper hst, rfl, fun e he => let ⟨h1, L, o, h2, h3, _, _, h6, h7⟩ := ho' e he; ⟨h1, L, o, h2, List.mem_append_left _ h3, fun hm => (by rw [hfr L hm] at h6; cases h6), by simp, hkeep _ _ h6, h7⟩⟩
  refine wpAny_mono (R (E := fun _ _ => False) hq r1 hr.deeper fo) (fun y s2 ha => ?_) fun _ _ e => False.elim e
  obtain ⟨ex, c2, f2, r2, q2⟩ := ha
  obtain ⟨_, hv⟩ := def_end (cs := []) rfl (by simp) (by simp) (fun a ha hm => by
    obtain ⟨o, e⟩ := (r1.live a (List.mem_append_left _ hm)).2
    rw [f2 a ha] at e; cases e) r2 q2 hf
  refine ⟨?_, hv⟩
  obtain ⟨h₂, tk₂, rfl, k₂⟩ := c2
  refine ⟨h₂, tk₂, rfl, fun b o _ e => ?_⟩
  have hb : b ∉ own := fun hm => by rw [hfr b hm] at e; cases e
  obtain ⟨e1, e2⟩ := k₂ b o (by simpa using hb) (hkeep b o e)
  refine ⟨fun hx => e1 fun hm => ?_, e2⟩
  obtain ⟨e', he, hf'⟩ := List.mem_filterMap.mp hm
  rcases List.mem_cons.mp he with rfl | he
  · obtain rfl := Option.some.inj (fo.efr.symm.trans hf')
    exact hb r1.Lown
  · exact hx (List.mem_filterMap.mpr ⟨e', he, hf'⟩)

/-! the raise of StopIteration out of a def -/
theorem OutOk.fun_ {D own γ X : List Addr} {h : Heap} : ∀ {l : List Env}, OutOk D own γ h l → (∀ b ∈ frs l, b ∈ X) → h.FunFrames (hideAll h X) l
  | [], _, _ => trivial
  | e :: l, x, hX => by
    obtain ⟨h1, L, o, h2, _, _, _, h6, h7⟩ := x e (.head _)
    exact ⟨h1, ⟨L, o, h2, hideAll_none _ (hX L (List.mem_filterMap.mpr ⟨e, .head _, h2⟩)), h6, h7⟩, OutOk.fun_ (fun e' he => x e' (.tail _ he)) fun b hb => by
      obtain ⟨e', he, hf⟩ := List.mem_filterMap.mp hb
      exact hX b (List.mem_filterMap.mpr ⟨e', .tail _ he, hf⟩)⟩

/-- what stands where a StopIteration flies: seen from the state s at the call, a the iterator -/
noncomputable def Flies (l : List Env) (a : Addr) (s : Shared) (e : Addr) (s' : Shared) : Prop :=
  ∃ B a0 h' tk, s' = { s with heap := h', toks := tk } ∧ (∀ b o, s.heap.get? b = some o → b ∉ frs l → b ≠ a → B.get? b = some o) ∧ (∃ o, B.get? a = some o) ∧ Heap.FlyingW B l e (.type "StopIteration") a0 h' ∧
    ∀ b ∈ frs l, ∀ o, s.heap.get? b = some o → (∀ vs, o.data ≠ .fields vs) → ∃ sl, h'.get? b = some { o with slots := sl }

noncomputable def RX (Z : Amb) (k fa : Nat) : Prop :=
  ∀ {A : Around} {D γ : List Addr} {cs : List ACell} {i kk : Nat} {bs : List Nat} {a : Addr} {s : Shared} {l : List Env} {Q E : Value → Shared → Prop}, γ[i]? = some a → cs[i]? = some (.itB bs kk) → bs.length ≤ kk → Wd Z D γ cs s.heap → Room A k → A.frames = some l → OutOk D [] γ s.heap l →
    (∀ e s', Flies l a s e s' → E (.ref e) s') → wpAny Z.M A (call (.ref fa) [.ref a] []) Q E s
end
end Mine

end
section
set_option maxRecDepth 100000

namespace Mine
section
variable {Z : Amb} {S : Sx}
/-- `x = next(it)`, it at its end -/
theorem next_raise {k : Nat} {x nx : Str} {p xp cp pos : Pos} {e : Expr} {f : ASt → Option AVal} (h0 : RP Z S k (.Name nx xp) (fun _ => some (.cst (.builtin "next")))) (R : RP Z S k e f) (hst : ∀ env, starEach [e] env = [(false, eval e env)])
    (hs : ∀ env, swapsWith (.Call (.Name nx xp) [e] [] cp) (some (.Name x p)) pos.line env = pure false)
    {A : Around} {env : Env} {own D γ : List Addr} {st : ASt} {s : Shared} {j kk : Nat} {bs : List Nat} {a : Addr} {Q : Flow → Shared → Prop} {E : Value → Shared → Prop} (hf : f st = some (.cell j)) (hj : γ[j]? = some a) (hc : st.cells[j]? = some (.itB bs kk)) (hle : bs.length ≤ kk)
    (r : Rel Z S env own D γ st s.heap) (hr : Room A k)
    (hE : ∀ s0 h1 h' e, Kp s s0 → Heap.SameBut a s0.heap h1 → (∃ u, h1.get? a = some u) → Heap.MadeExcOf h1 h' e (.type "StopIteration") [] → E (.ref e) { s0 with heap := h' }) :
    wpAny Z.M A (exec (.Assign [.Name x p] (.Call (.Name nx xp) [e] [] cp) pos) env) Q E s := by
  refine wpAny_Assign_Name (callName1 h0 (keep_builtin _) hst r hr fun s1 k1 => R.use hf (r.keeps' k1) hr fun v s2 k2 v2 => ⟨((r.keeps' k1).keeps' k2).base, ?_⟩) (hs env)
  obtain ⟨I, rfl, hI⟩ := vrel_cell v2
  obtain rfl := Option.some.inj (hj.symm.trans hI)
  have r2 := (r.keeps' k1).keeps' k2
  obtain ⟨b, t, rfl, hit⟩ := cell_itB2 (r2.cells.2 j a _ hI hc)
  refine call_next_end hr.handled hit ?_ fun h1 h' x sb hu hx => hE s2 h1 h' x (k1.trans k2) sb hu hx
  rw [Array.getElem?_eq_none_iff]
  unfold toNats at hle
  simpa using hle

theorem rx_def {k fa m : Nat} {name qual : Str} {params : Arguments} {body : List Stmt} {scope : Scope} {dV kV doc pm cdv ct oc : Value} {an od : Option Addr} {osl : Array (Option Value)} {pn rest : List Str}
    (ho : Z.K.lookup fa = some ⟨oc, od, .func (fnOf name qual params body scope dV kV doc pm an cdv ct), osl⟩) (hcd : codeIn Z.K cdv qual = true)
    (hsc : S.sc = scope) (hk : scope.kind = .function) (hv : S.vars = pn ++ rest) (hvn : S.vars.Nodup) (hfree : ∀ x ∈ S.vars, scope.names.lookup x ≠ some .free)
    (hpl : pn.length = 1 + ([] : List AVal).length) (hrest : rest.length = m) (hnd : ((cellsFrom 0 scope.names []).map (·.1)).Nodup)
    (hkind : (pn.all fun y => scope.names.lookup y == some .local || scope.names.lookup y == some .cell) = true)
    (hbind : ∀ (s : Shared) (args kvs : List Value), args.length + kvs.length = 1 → kvs.length = ([] : List Str).length → (∀ b o, Z.H0.get? b = some o → s.heap.get? b = some o) → BindsTo s (fnOf name qual params body scope dV kV doc pm an cdv ct) ⟨args, ([] : List Str).zip kvs⟩ (pn.zip (args ++ kvs ++ [])))
    (hco : scope.isCoroutine = false) (hgen : scope.isGenerator = false)
    {x nx : Str} {p xp cp pos : Pos} {e : Expr} {ts : List Stmt} (hb : body = .Assign [.Name x p] (.Call (.Name nx xp) [e] [] cp) pos :: ts)
    (h0 : RP Z S k (.Name nx xp) (fun _ => some (.cst (.builtin "next")))) (R : RP Z S k e (ldv 0)) (hst : ∀ env, starEach [e] env = [(false, eval e env)])
    (hs : ∀ env, swapsWith (.Call (.Name nx xp) [e] [] cp) (some (.Name x p)) pos.line env = pure false) : RX Z (k + 1) fa := by
  intro A D γ cs i kk bs a s l Q E hi hc hle wd hr hst' ho' hE
  subst hb
  refine def_enter (kws := []) (kvs := []) (args := [.ref a]) (avs := [.cell i]) ho hcd hsc hk hv hvn hfree hpl hrest hnd hkind (fun _ _ _ => .nil) hbind hco hgen (by simpa using VRels.cons (.cell hi) .nil) rfl rfl wd hr fun own s₁ hfr r1 hs₁ => ?_
  obtain ⟨h₁, tk, rfl, hkeep⟩ := hs₁
  refine wpAny_execs_cons (next_raise h0 R hst hs (j := i) rfl hi hc hle r1 hr.deeper fun s0 h1 h' x k0 sb hu hx => ?_)
  obtain ⟨h0', tk0, rfl, k0⟩ := k0
  have haD := wd.γD a (List.mem_of_getElem? hi)
  have hal := (wd.live a haD).2
  have keep1 : ∀ b o, b ≠ a → s.heap.get? b = some o → h1.get? b = some o := fun b o hb e => (sb.extBut b o hb (k0 b o (hkeep b o e)))
  have hLa : s.heap.objs.size ≠ a := fun q => by obtain ⟨o, e⟩ := hal; exact absurd (Heap.lt_size e) (q ▸ Nat.lt_irrefl _)
  have haf : ∀ b ∈ frs l, b ≠ a := fun b hb q => by
    obtain ⟨e, he, hf⟩ := List.mem_filterMap.mp hb
    obtain ⟨_, L, _, h2, _, _, h5, _⟩ := ho' e he
    obtain rfl := Option.some.inj (h2.symm.trans hf)
    exact h5 (q ▸ List.mem_of_getElem? hi)
  have ho1 : OutOk D [] γ h1 l := fun e he => let ⟨h1, L, o, h2, h3, h4, h5, h6, h7⟩ := ho' e he; ⟨h1, L, o, h2, h3, h4, h5, keep1 L o (haf L (List.mem_filterMap.mpr ⟨e, he, h2⟩)) h6, h7⟩
  have hfl : h1.FunFrames (hideAll h1 (s.heap.objs.size :: frs l)) (envOfC qual scope s.heap.objs.size fa cdv :: l) := by
    obtain ⟨m, ⟨o, es, ep, g1, g2, _⟩, _⟩ := r1.ns
    exact ⟨by show scope.kind ≠ .module; rw [hk]; decide, ⟨_, o, rfl, hideAll_none _ (.head _), sb.extBut _ _ hLa (k0 _ _ g1), fun vs q => by rw [g2] at q; cases q⟩, ho1.fun_ fun b hb => .tail _ hb⟩
  refine wpAny_leaves_madeW (base := hideAll h1 (s.heap.objs.size :: frs l)) (h := h1) (Around.frames_deeper hst') rfl (fun b o e => of_hideAll _ e) hfl hx fun h2 t fl ht hnew hup => hE _ _ ⟨_, _, h2, tk0, rfl, fun b o e hb hba => ?_, ?_, fl, fun b hb o e hd => ?_⟩
  · refine hideAll_get _ (keep1 b o hba e) fun hm => ?_
    rcases List.mem_cons.mp hm with rfl | hm
    · exact absurd (Heap.lt_size e) (Nat.lt_irrefl _)
    · exact hb hm
  · obtain ⟨u, e⟩ := hu
    refine ⟨u, hideAll_get _ e fun hm => ?_⟩
    rcases List.mem_cons.mp hm with q | hm
    · exact hLa q.symm
    · exact haf a hm rfl
  · exact hup b o (hx.keeps b o (keep1 b o (haf b hb) e)) hd
end
end Mine

end
section
set_option maxRecDepth 100000

namespace Mine
theorem boot_stop : bootBuiltins "StopIteration" = some (.type "StopIteration") := by decide +kernel
theorem stop_exc : isSubtype (.type "StopIteration") (.type "BaseException") = pure true := by rw [isSubtype_type]; kernel_rfl
theorem stop_same : isSubtype (.type "StopIteration") (.type "StopIteration") = pure true := by rw [isSubtype_type]; kernel_rfl
theorem stop_tup : isSubtype (.type ((Manifest.find? "StopIteration").elim "type" fun y => y.metatype)) (.type "tuple") = pure false := by
  rw [show ((Manifest.find? "StopIteration").elim "type" fun y => y.metatype) = "type" by kernel_rfl, isSubtype_type]; kernel_rfl

section
variable {M : Model} {A : Around} {E : Value → Shared → Prop} {s : Shared}
theorem setFlight_some {base : Heap} {l : List Env} {e L : Addr} {cls a0 : Value} {Q : Unit → Shared → Prop} (hh : Heap.HeldW base l e cls a0 L s.heap)
    (hQ : ∀ h', Heap.HeldW base l e cls a0 L h' → s.heap.UpToSlots h' → Q () { s with heap := h' }) : wpAny M A (setFlight (.ref e) (some L)) Q E s := by
  obtain ⟨hkb, f2, hl, oe, vs, T, oT, ts, he, hcls, hd, h1, hnT, hTe, hT, hdT, h3⟩ := hh
  have hsz3 : 3 < ts.size := (Array.getElem?_eq_some_iff.mp h3).1
  have other : ∀ b, b ≠ T → (s.heap.update T (Obj.mapFields (·.setIfInBounds 3 ((some L : Option Addr).elim Value.none fun f => rawInt f)))).get? b = s.heap.get? b := fun b hb => Heap.get?_update_other _ _ (Ne.symm hb)
  have noRecord : ∀ b o, s.heap.get? b = some o → (∀ vs, o.data ≠ .fields vs) → b ≠ T := fun b o hb hnf q => by
    rw [q, hT] at hb; injection hb with hb; subst hb; exact hnf ts hdT
  unfold setFlight
  refine wpAny_bind (wpAny_field he hd h1 ?_)
  rw [if_pos (show (Value.ref T != Value.none) = true from by simp)]
  refine wpAny_setField hT hdT hsz3 (hQ _ ⟨fun b o hbo => (other b fun q => by rw [q, hnT] at hbo; cases hbo).trans (hkb b o hbo), f2, hl.of_keeps fun b o hb hnf => ⟨o, (other b (noRecord b o hb hnf)).trans hb, rfl⟩, ?_⟩
    fun b o hb hnf => ⟨o.slots, (other b (noRecord b o hb hnf)).trans hb⟩)
  exact ⟨oe, vs, T, _, _, (other e (Ne.symm hTe)).trans he, hcls, hd, h1, hnT, hTe, Heap.get?_update_self _ hT (Obj.isFreed_of_fields (Obj.data_mapFields hdT _)), Obj.data_mapFields hdT _, by simp [hsz3]⟩
theorem cameBack {base : Heap} {l : List Env} {env : Env} {e L : Addr} {cls a0 : Value} {E' : Value → Shared → Prop} (hf : env.frame = some L) (hh : Heap.HeldW base l e cls a0 L s.heap)
    (hQ : ∀ h', Heap.HeldW base l e cls a0 L h' → s.heap.UpToSlots h' → E' (.ref e) { s with heap := h' }) : cameBackBy M A env E' (.ref e) s := by
  obtain ⟨hkb, f2, hl, oe, vs, T, oT, ts, he, hcls, hd, h1, r⟩ := id hh
  unfold cameBackBy
  refine wpAny_bind (m := field (.ref e) 1) (wpAny_field he hd h1 ?_)
  rw [if_neg (by simp), hf]
  exact setFlight_some hh hQ
end

section
variable {Z : Amb} {S : Sx}
/-- the raise, through the loop's and the try's own frame, to the handler's suite -/
theorem caught {A : Around} {env : Env} {outer : List Env} {own D γ : List Addr} {st : ASt} {s s' : Shared} {a e : Addr} {x : Str} {np hp : Pos} {b₀ : Stmt} {suite : List Stmt} {Q : Flow → Shared → Prop} {E : Value → Shared → Prop}
    (r : Rel Z S env own D γ st s.heap) (fo : FrOk A env outer D own γ s.heap) (ha : a ∈ γ) (fl : Flies (env :: outer) a s e s') (hx : chkGl S x = true) (hn : nsIn Z.K mainGlobals x = some none) (hv : bootBuiltins x = some (.type "StopIteration"))
    (k : ∀ s6, ChgW (frs (env :: outer)) [a] s s6 → (∃ o, s6.heap.get? a = some o) → wpAny Z.M (A.mark (some (.ref e))) (execs (b₀ :: suite) env) Q (notedBy Z.M (A.mark (some (.ref e))) env (cameBackBy Z.M A env E)) s6) :
    notedBy Z.M A env (cameBackBy Z.M A env (fun e s₁ => wpAny Z.M A (noteFrame e env) (fun _ s₂ => wpAny Z.M A (setFlight e none) (fun _ s₃ => wpAny Z.M A (handleBy e env [.ExceptHandler (some (.Name x np)) none (b₀ :: suite) hp]) Q E s₃) E s₂) E s₁)) (.ref e) s' := by
  obtain ⟨B, a0, h', tk, rfl, hB, hBa, hfl, hup⟩ := fl
  have upto : ∀ h6 : Heap, B.StaysIn h6 → h'.UpToSlots h6 → ChgW (frs (env :: outer)) [a] s { s with heap := h6, toks := tk } ∧ ∃ o, h6.get? a = some o := by
    intro h6 hs hu
    refine ⟨⟨h6, tk, rfl, fun b o hb q => ?_⟩, hBa.imp fun o q => hs _ _ q⟩
    have hba : b ≠ a := fun q => hb (List.mem_singleton.mpr q)
    by_cases hm : b ∈ frs (env :: outer)
    · refine ⟨fun h => absurd hm h, ?_⟩
      have hd : ∀ vs, o.data ≠ .fields vs := by
        obtain ⟨e', he, hf⟩ := List.mem_filterMap.mp hm
        obtain ⟨_, L, o', h2, _, _, _, h6', h7⟩ := fo.call r e' he
        obtain rfl := Option.some.inj (h2.symm.trans hf)
        obtain rfl := Option.some.inj (h6'.symm.trans q)
        exact h7
      obtain ⟨sl, q1⟩ := hup b hm o q hd
      obtain ⟨sl', q2⟩ := hu b _ q1 hd
      exact ⟨sl', q2⟩
    · have := hs b o (hB b o q hm hba)
      exact ⟨fun _ => this, o.slots, this⟩
  refine wpAny_looks_onW fo.stack fo.efr hfl fun h4 held4 u4 => ?_
  refine cameBack fo.efr held4 fun h5 held5 u5 => ?_
  refine wpAny_noteFrame_againW fo.efr held5.2.2.2 ?_
  refine wpAny_landsW held5 fun h6 fl6 u6 => ?_
  have u06 := (u4.trans u5).trans u6
  obtain ⟨c6, live6⟩ := upto h6 fl6.1 u06
  obtain ⟨g1, g2, g3⟩ := chkGl_ok hx
  have base6 : ∀ b o, Z.H0.get? b = some o → h6.get? b = some o := fun b o q => by
    have hD : b ∉ D := fun hm => by have := (r.live b hm).1; rw [q] at this; cases this
    obtain ⟨h6', tk', e6, k6⟩ := c6
    cases e6
    exact (k6 b o (fun hm => hD (r.γD b (List.mem_singleton.mp hm ▸ ha))) (r.base b o q)).1 fun hm => hD (fo.in_ r b hm).1
  obtain ⟨ob, hob, hobc⟩ := fl6.there
  refine wpAny_handleBy_builtin (X := "StopIteration") (T := "StopIteration") (b := true) stop_exc stop_tup stop_same (Name_function_global (by rw [r.esc]; exact r.kind) (by unfold Env.kindOf; rw [r.esc]; exact g1)
    (loadGlobal_builtin (mg := Z.mg) (mb := Z.mb) (by rw [r.eg]; exact Z.g.keeps base6) (mg_none_of Z.X Z.g hn) (by rw [r.eb]; exact Z.b.keeps base6) ((Z.builtins x g3).trans hv) ⟨rfl, ⟨ob, hob, hobc⟩, ?_⟩) g2)
  rw [if_pos rfl]
  refine lands_againW fl6 fun h7 fl7 u7 => ?_
  obtain ⟨c7, live7⟩ := upto h7 fl7.1 (u06.trans u7)
  exact k _ c7 live7

noncomputable def ACell.itB? : ACell → Option (List Nat × Nat)
  | .itB bs k => some (bs, k)
  | _ => none
theorem itB?_some {c : ACell} {p : List Nat × Nat} (h : c.itB? = some p) : c = .itB p.1 p.2 := by cases c <;> first | (cases h; rfl) | cases h
noncomputable def AFlow.isNext : AFlow → Bool
  | .next => true
  | _ => false
/-- `try: while True: x = f(it); .. except StopIteration: return y`: good turns, then the one that raises -/
noncomputable def sRead (f : ASt → Option AVal) (b : AS) (g : ASt → Option AVal) : Nat → AS
  | 0, _ => none
  | n + 1, st => (f st).bind fun a => a.cell?.bind fun j => (st.cells[j]?).bind fun c => c.itB?.bind fun p =>
    if p.1.length ≤ p.2 then (g st).map fun v => (.ret v, { st with cells := st.cells.set j .dead })
    else (b st).bind fun q => if q.1.isNext then sRead f b g n q.2 else none

inductive ReadE (f : ASt → Option AVal) (b : AS) (g : ASt → Option AVal) (m : Nat) (r : AFlow × ASt) (st1 : ASt) : Prop
  | stop (j : Nat) (bs : List Nat) (kk : Nat) (v : AVal) (q1 : f st1 = some (.cell j)) (q3 : st1.cells[j]? = some (.itB bs kk)) (hle : bs.length ≤ kk) (q5 : g st1 = some v) (e : (AFlow.ret v, { st1 with cells := st1.cells.set j .dead }) = r)
  | step (st2 : ASt) (hb : b st1 = some (.next, st2)) (hq : sRead f b g m st2 = some r)
theorem sRead_step {f : ASt → Option AVal} {b : AS} {g : ASt → Option AVal} {m : Nat} {r : AFlow × ASt} {st1 : ASt} (hq : sRead f b g (m + 1) st1 = some r) : ReadE f b g m r st1 := by
  obtain ⟨av, q1, hq1⟩ := bind_some hq
  obtain ⟨j, q2, hq2⟩ := bind_some hq1
  obtain ⟨c, q3, hq3⟩ := bind_some hq2
  obtain ⟨pr, q4, hq4⟩ := bind_some hq3
  clear hq hq1 hq2 hq3
  split at hq4
  · obtain ⟨v, q5, hq⟩ := Option.map_eq_some_iff.mp hq4
    exact .stop j pr.1 pr.2 v (by rw [q1, cell?_some q2]) (by rw [q3, itB?_some q4]) (by assumption) q5 hq
  · obtain ⟨q5, hb, hq⟩ := bind_some hq4
    obtain ⟨fl2, st2⟩ := q5
    split at hq
    case isFalse => cases hq
    rename_i hnx
    cases fl2 with
    | next => exact .step st2 hb hq
    | _ => cases hnx
theorem Rel.deadCell {X own D γ : List Addr} {env : Env} {st : ASt} {j : Nat} {I : Addr} {s s' : Shared} (r : Rel Z S env own D γ st s.heap) (hX : ∀ b ∈ X, b ∈ D ∧ b ∉ γ) (hI : γ[j]? = some I) (c : ChgW X [I] s s') (hl : ∃ o, s'.heap.get? I = some o) :
    Rel Z S env own D γ { loc := st.loc, cells := st.cells.set j .dead } s'.heap := by
  have hIγ := List.mem_of_getElem? hI
  refine r.turnL hX (fun b hb => by rw [List.mem_singleton.mp hb]; exact ⟨hIγ, hl⟩) c ⟨by rw [List.length_set]; exact r.cells.1, fun i' b d g1 g2 => ?_⟩
  obtain ⟨h6, tk6, rfl, k6⟩ := c
  rcases getElem?_set_cases g2 with ⟨rfl, q⟩ | ⟨q, g3⟩
  · cases q
    obtain rfl := Option.some.inj (hI.symm.trans g1)
    obtain ⟨o, ho⟩ := hl
    exact .dead ho
  · have hbI : b ≠ I := fun e => q ((List.getElem?_inj (List.getElem?_eq_some_iff.mp hI).1 r.γnd).mp (hI.trans (e ▸ g1).symm))
    exact (r.cells.2 i' b d g1 g3).mono (fun b' o' hb' e' => (k6 b' o' (fun hm => hb' (r.γD _ (List.mem_singleton.mp hm ▸ hIγ))) e').1 fun hm => hb' (hX b' hm).1) fun o' e' => (k6 b o' (fun hm => hbI (List.mem_singleton.mp hm)) e').1 fun hm => (hX b hm).2 (List.mem_of_getElem? g1)

theorem read_turn {k k' fa iy m : Nat} {x y fx : Str} {p xp cp ap yp rp : Pos} {te e1 : Expr} {t2 : List Stmt} {f : ASt → Option AVal} {b : AS} (HX : RX Z k' fa) (hkk : k' ≤ k) (hkp : keepIn Z.K (.ref fa) = true)
    (Rt : RT Z S k te (tVal (fun _ => some (.bool true)))) (h0 : RP Z S k (.Name fx xp) (fun _ => some (.cst (.ref fa)))) (h1 : RP Z S k e1 f) (hst : ∀ env, starEach [e1] env = [(false, eval e1 env)])
    (Rb : RSs Z S k (.Assign [.Name x p] (.Call (.Name fx xp) [e1] [] cp) ap :: t2) b) (hs : ∀ env, swapsWith (.Call (.Name fx xp) [e1] [] cp) (some (.Name x p)) ap.line env = pure false) (hy : chkLoc S iy y = true)
    {A : Around} {env : Env} {outer : List Env} {own D γ : List Addr} {s s1 : Shared} {fl : AFlow} {st' : ASt} {K K2 : Flow → Shared → Prop} {E : Value → Shared → Prop} (hr : Room A k) (fo : FrOk A env outer D own γ s.heap)
    (hI : RelInv Z S env own D γ s (fun st1 => sRead f b (ldv iy) m st1 = some (fl, st')) s1) (k1 : ∀ m', m' < m → ∀ s3, RelInv Z S env own D γ s (fun st1 => sRead f b (ldv iy) m' st1 = some (fl, st')) s3 → K .next s3)
    (kx : ∀ (e a : Addr) (s4 s5 : Shared) (D' γ' : List Addr) (st4 : ASt), Rel Z S env own D' γ' st4 s4.heap → FrOk A env outer D' own γ' s4.heap → a ∈ γ' → Flies (env :: outer) a s4 e s5 → (∀ s6, ChgW (frs (env :: outer)) [a] s4 s6 → (∃ o, s6.heap.get? a = some o) → ∀ (A' : Around) (E' : Value → Shared → Prop), wpAny Z.M A' (execs [.Return (some (.Name y yp)) rp] env) (AfterW Z S env outer own D γ s fl st') E' s6) → E (.ref e) s5) :
    wpAny Z.M A (isTrue te env (eval te env)) (fun v s2 => if v = true then wpAny Z.M A (execs (.Assign [.Name x p] (.Call (.Name fx xp) [e1] [] cp) ap :: t2) env) K E s2 else wpAny Z.M A (execs [] env) K2 E s2) E s1 := by
  obtain ⟨ex, st1, hq, hc, hex, r1⟩ := hI
  cases m with
  | zero => cases hq
  | succ m =>
    refine Rt.use (b := true) rfl r1 hr fun s2 k2 => ?_
    rw [if_pos rfl]
    have r2 := r1.keeps' k2
    cases sRead_step hq with
    | stop j bs kk v q1 q3 hle q5 e =>
      cases e
      refine wpAny_execs_cons (wpAny_Assign_Name (callName1 h0 (keep_fn hkp) hst r2 hr fun s3 k3 => h1.use q1 (r2.keeps' k3) hr fun u s4 k4 v4 => ⟨((r2.keeps' k3).keeps' k4).base, ?_⟩) (hs env))
      have r4 := (r2.keeps' k3).keeps' k4
      obtain ⟨I, rfl, hI⟩ := vrel_cell v4
      have c4 : Chg (own ++ γ) s s4 := hc.trans (((k2.trans k3).trans k4).chg (own ++ γ)) fun b hb => .inl hb
      have fo4 : FrOk A env outer (D ++ ex) own (γ ++ ex) s4.heap := fo.to (c4.toW (frs (env :: outer))) (fun a ha => ha) (fun a ha => List.mem_append_left _ ha) fun a ha => (List.mem_append.mp ha).imp id (hex a)
      have hIγ := List.mem_of_getElem? hI
      refine HX hI q3 hle r4.wd (hr.mono hkk) fo4.stack (fo4.callγ r4) fun e s5 fl5 => kx e I s4 s5 _ _ _ r4 fo4 hIγ fl5 fun s6 c6 live6 A' E' => ?_
      have r6 := r4.deadCell (fo4.in_ r4) hI c6 live6
      refine wpAny_execs_cons (wpAny_Return_some (use_loc hy (st := { loc := st1.loc, cells := st1.cells.set j .dead }) q5 r6 fun w rw => ⟨ex, (c4.toW _).trans c6 fun b hb => ?_, hex, r6, .ret rw⟩))
      rw [List.mem_singleton.mp hb]
      exact (List.mem_append.mp hIγ).imp (fun h => List.mem_append_right _ h) (hex I)
    | step st2 hb hq =>
      refine wpAny_mono (Rb hb r2 hr) (fun y s3 ha => ?_) fun _ _ x => x
      obtain ⟨ex3, c3, f3, r3, q3⟩ := After.trans hc hex r1 (After.trans0 (k2.chg _) r2 ha)
      cases q3
      exact k1 m (Nat.lt_succ_self _) s3 ⟨ex3, st2, hq, c3, f3, r3⟩

theorem rsw_read {k k' fa iy n : Nat} {x y fx xh : Str} {p xp cp ap wp np hp rp yp pos : Pos} {te e1 : Expr} {t2 : List Stmt} {f : ASt → Option AVal} {b : AS} (HX : RX Z k' fa) (hkk : k' ≤ k) (hkp : keepIn Z.K (.ref fa) = true)
    (Rt : RT Z S k te (tVal (fun _ => some (.bool true)))) (h0 : RP Z S k (.Name fx xp) (fun _ => some (.cst (.ref fa)))) (h1 : RP Z S k e1 f) (hst : ∀ env, starEach [e1] env = [(false, eval e1 env)])
    (Rb : RSs Z S k (.Assign [.Name x p] (.Call (.Name fx xp) [e1] [] cp) ap :: t2) b) (hs : ∀ env, swapsWith (.Call (.Name fx xp) [e1] [] cp) (some (.Name x p)) ap.line env = pure false)
    (hx : chkGl S xh = true) (hn : nsIn Z.K mainGlobals xh = some none) (hv : bootBuiltins xh = some (.type "StopIteration")) (hy : chkLoc S iy y = true) :
    RStW Z S k (.Try [.While te (.Assign [.Name x p] (.Call (.Name fx xp) [e1] [] cp) ap :: t2) [] wp] [.ExceptHandler (some (.Name xh np)) none [.Return (some (.Name y yp)) rp] hp] [] [] pos) (sRead f b (ldv iy) n) := by
  intro A env outer own D γ st s fl st' E hf r hr fo
  exact wpAny_Try_except (wpAny_execs_cons (wpAny_While (codeAny_whileLoop (fun m s1 => RelInv Z S env own D γ s (fun st1 => sRead f b (ldv iy) m st1 = some (fl, st')) s1)
    (fun m s1 hI => read_turn HX hkk hkp Rt h0 h1 hst Rb hs hy hr fo hI (fun m' hm _ i => ⟨m', hm, i⟩) fun e a s4 s5 D' γ' st4 r4 fo4 ha fl5 kk => caught r4 fo4 ha fl5 hx hn hv fun s6 c6 l6 => kk s6 c6 l6 _ _) n (.start hf ((Kp.refl s).chg _) r))))
end
end Mine

end
section
set_option maxRecDepth 100000

namespace Mine
noncomputable def fnO (i cd : Nat) (dv kv : Value) (md : String) (mt : Nat) : Obj := match PySem.Challenge.pw_rt0010_01.main.body[i]? with
  | some (Stmt.FunctionDef n a b _ _ _ sc _ _ _) => { cls := .type "function", data := .func { name := n, qualname := n, params := a, body := .stmts b, scope := sc, globals := 3, closure := [], defaults := dv, kwdefaults := kv, pyModule := .str (Str.ofString md) mt, code := .ref cd } }
  | _ => default
noncomputable def cdO (n : String) (t l a b c x : Nat) (o1 o2 : Value) (y t2 : Nat) : Obj := { cls := .type "code", data := .fields #[.str (Str.ofString n) t, .str (Str.ofString n) (t + 1), .str (Str.ofString "/claim/cut.py") (t + 2), .int l 0, .int a 0, .int b 0, .int c 0, .int 3 0, .ref x, .bool true, .int 181 0, .ref (x + 1), .none, o1, o2, .ref y, .int t2 0, .int l 0, .str (Str.ofString "/claim/cut.py") (t2 + 1)] }
noncomputable def tpO (vs : Array Value) : Obj := { cls := .type "tuple", data := .seq vs }
noncomputable def deO (P : Params) (k : String) (t : Nat) (v : Value) : DictEntry := ⟨PyData.keyHash P (Str.ofString k), .str (Str.ofString k) t, v⟩
noncomputable def b64A : Array UInt8 := #[65, 66, 67, 68, 69, 70, 71, 72, 73, 74, 75, 76, 77, 78, 79, 80, 81, 82, 83, 84, 85, 86, 87, 88, 89, 90, 97, 98, 99, 100, 101, 102, 103, 104, 105, 106, 107, 108, 109, 110, 111, 112, 113, 114, 115, 116, 117, 118, 119, 120, 121, 122, 48, 49, 50, 51, 52, 53, 54, 55, 56, 57, 43, 47]
noncomputable def mgO (P : Params) : Obj := { cls := .type "dict", data := .dict #[deO P "__name__" 165 (.str (Str.ofString "law_rt0010_01") 377), deO P "__doc__" 166 .none, deO P "__package__" 167 .none, deO P "__loader__" 168 (.builtin "__main__.__loader__#opaque"), deO P "__spec__" 169 .none, deO P "__annotations__" 170 (.ref 6), deO P "__builtins__" 171 (.ref 4), deO P "__file__" 173 (.str (Str.ofString "/claim/cut.py") 172), deO P "__cached__" 174 .none, deO P "_wall" 193 (.ref 21), deO P "heappush" 203 (.ref 28), deO P "heapreplace" 212 (.ref 35), deO P "heapify" 221 (.ref 42), deO P "_siftdown" 233 (.ref 49), deO P "_siftup" 246 (.ref 56), deO P "nlargest" 252 (.ref 62), deO P "bytes_types" 255 (.ref 63), deO P "_bytes_from_decode_data" 262 (.ref 70), deO P "Error" 282 (.ref 80), deO P "_ascii_buffer" 290 (.ref 90), deO P "_buffer" 298 (.ref 97), deO P "_truth" 306 (.ref 104), deO P "_B64" 308 (.bytes b64A 307), deO P "_b64_value" 315 (.ref 111), deO P "a2b_base64" 331 (.ref 119), deO P "b2a_base64" 345 (.ref 127), deO P "b64encode" 356 (.ref 135), deO P "b64decode" 365 (.ref 143), deO P "_parse_varint" 376 (.ref 150), deO P "_law_octets" 386 (.ref 157), deO P "_law_text" 392 (.ref 162), deO P "_law_read" 402 (.ref 169), deO P "_law_come" 408 (.ref 174), deO P "_law_above" 414 (.ref 179), deO P "_law_plain" 420 (.ref 184), deO P "_law_stream" 432 (.ref 191), deO P "_law_laid" 438 (.ref 196), deO P "law" 444 (.ref 201)] 38 }
noncomputable def KK (P : Params) : Frag := [
  (3, mgO P),
  (63, tpO #[.type "bytes", .type "bytearray"]),
  (57, tpO #[.none]),
  (128, tpO #[.none]),
  (136, tpO #[.none, (.bool false)]),
  (28, fnO 2 27 .none .none "cpy313.heapq" 194),
  (27, cdO "heappush" 196 5 2 0 0 22 (.ref 24) (.ref 25) 26 201),
  (35, fnO 3 34 .none .none "cpy313.heapq" 194),
  (34, cdO "heapreplace" 204 8 2 0 0 29 (.ref 31) (.ref 32) 33 210),
  (42, fnO 4 41 .none .none "cpy313.heapq" 194),
  (41, cdO "heapify" 213 13 1 0 0 36 (.ref 38) (.ref 39) 40 219),
  (49, fnO 5 48 .none .none "cpy313.heapq" 194),
  (48, cdO "_siftdown" 222 17 3 0 0 43 (.ref 45) (.ref 46) 47 231),
  (56, fnO 6 55 .none .none "cpy313.heapq" 194),
  (55, cdO "_siftup" 234 28 2 0 0 50 (.ref 52) (.ref 53) 54 244),
  (62, fnO 7 61 (.ref 57) .none "cpy313.heapq" 194),
  (61, cdO "nlargest" 247 42 3 0 0 58 .none .none 60 250),
  (70, fnO 10 69 .none .none "cpy313.base64" 253),
  (69, cdO "_bytes_from_decode_data" 256 89 1 0 0 64 (.ref 66) (.ref 67) 68 260),
  (90, fnO 13 89 .none .none "binascii" 263),
  (89, cdO "_ascii_buffer" 283 104 1 0 0 84 (.ref 86) (.ref 87) 88 288),
  (97, fnO 14 96 .none .none "binascii" 263),
  (96, cdO "_buffer" 291 115 1 0 0 91 (.ref 93) (.ref 94) 95 296),
  (104, fnO 15 103 .none .none "binascii" 263),
  (103, cdO "_truth" 299 122 1 0 0 98 (.ref 100) (.ref 101) 102 304),
  (111, fnO 17 110 .none .none "binascii" 263),
  (110, cdO "_b64_value" 309 128 1 0 0 105 (.ref 107) (.ref 108) 109 313),
  (119, fnO 18 118 .none (.ref 112) "binascii" 263),
  (118, cdO "a2b_base64" 317 140 1 1 1 113 (.ref 115) (.ref 116) 117 329),
  (127, fnO 19 126 .none (.ref 120) "binascii" 263),
  (126, cdO "b2a_base64" 333 194 1 1 1 121 (.ref 123) (.ref 124) 125 343),
  (135, fnO 21 134 (.ref 128) .none "cpy313.base64" 346),
  (134, cdO "b64encode" 348 217 2 0 0 129 (.ref 131) (.ref 132) 133 354),
  (143, fnO 22 142 (.ref 136) .none "cpy313.base64" 346),
  (142, cdO "b64decode" 357 223 3 0 0 137 (.ref 139) (.ref 140) 141 363),
  (150, fnO 24 149 .none .none "cpy313.dis" 366),
  (149, cdO "_parse_varint" 368 231 1 0 0 144 (.ref 146) (.ref 147) 148 374),
  (157, fnO 26 156 .none .none "law_rt0010_01" 377),
  (156, cdO "_law_octets" 379 240 1 0 0 151 (.ref 153) (.ref 154) 155 384),
  (162, fnO 27 161 .none .none "law_rt0010_01" 377),
  (161, cdO "_law_text" 387 246 1 0 0 158 .none .none 160 390),
  (169, fnO 28 168 .none .none "law_rt0010_01" 377),
  (168, cdO "_law_read" 393 249 1 0 0 163 (.ref 165) (.ref 166) 167 400),
  (174, fnO 29 173 .none .none "law_rt0010_01" 377),
  (173, cdO "_law_come" 403 258 3 0 0 170 .none .none 172 406),
  (179, fnO 30 178 .none .none "law_rt0010_01" 377),
  (178, cdO "_law_above" 409 267 2 0 0 175 .none .none 177 412),
  (184, fnO 31 183 .none .none "law_rt0010_01" 377),
  (183, cdO "_law_plain" 415 270 3 0 0 180 .none .none 182 418),
  (191, fnO 32 190 .none .none "law_rt0010_01" 377),
  (190, cdO "_law_stream" 421 274 2 0 0 185 (.ref 187) (.ref 188) 189 430),
  (196, fnO 33 195 .none .none "law_rt0010_01" 377),
  (195, cdO "_law_laid" 433 281 3 0 0 192 .none .none 194 436),
  (201, fnO 34 200 .none .none "law_rt0010_01" 377),
  (200, cdO "law" 439 289 1 0 0 197 .none .none 199 442)]
noncomputable def KA : List Addr := [3, 63, 57, 128, 136, 28, 27, 35, 34, 42, 41, 49, 48, 56, 55, 62, 61, 70, 69, 90, 89, 97, 96, 104, 103, 111, 110, 119, 118, 127, 126, 135, 134, 143, 142, 150, 149, 157, 156, 162, 161, 169, 168, 174, 173, 179, 178, 184, 183, 191, 190, 196, 195, 201, 200]

theorem leftO_of {p q : Program} {loose : List Str} {Xt : Shared → Bool} {α : Type} {Yf : Shared → α} {Ya : World → α} {N : Nat} {g0 : Bool}
    (o : ∀ w : World, (fencedOpening treeTable p w N).map (fun s => (s.heap, s.gens, s.drawn, s.toks)) = some (boot_heap w.params, Array.mk [], boot_drawn, boot_toks))
    (h : ∀ (w : World) (os : OsState), (topFrom treeTable p w N ⟨boot_heap w.params, Array.mk [], boot_drawn, boot_toks, os⟩).map (fun s => (openSeen q loose (importedModules p.main.body) Xt g0 s, Yf s)) = some (openGood q loose, Ya w)) : LeftO p q loose Xt Yf Ya N g0 := fun w => by
  obtain ⟨⟨hp, gs, d, k, os⟩, e, e'⟩ := Option.map_eq_some_iff.mp (o w)
  obtain ⟨rfl, rfl, rfl, rfl⟩ : hp = boot_heap w.params ∧ gs = Array.mk [] ∧ d = boot_drawn ∧ k = boot_toks := by simpa using e'
  unfold openEnds
  rw [e]
  exact h w os

noncomputable abbrev pw : Program := PySem.Challenge.pw_rt0010_01
noncomputable abbrev rw' : OpenLaw := PySem.Challenge.rw_rt0010_01
noncomputable def hQ : Program := view pw [34]
noncomputable def hL : List Str := [Str.ofString "_wall", Str.ofString "heappush", Str.ofString "heapreplace", Str.ofString "heapify", Str.ofString "_siftdown", Str.ofString "_siftup", Str.ofString "nlargest", Str.ofString "bytes_types", Str.ofString "_bytes_from_decode_data", Str.ofString "Error", Str.ofString "_ascii_buffer", Str.ofString "_buffer", Str.ofString "_truth", Str.ofString "_B64", Str.ofString "_b64_value", Str.ofString "a2b_base64", Str.ofString "b2a_base64", Str.ofString "b64encode", Str.ofString "b64decode", Str.ofString "_parse_varint", Str.ofString "_law_octets", Str.ofString "_law_text", Str.ofString "_law_read", Str.ofString "_law_come", Str.ofString "_law_above", Str.ofString "_law_plain", Str.ofString "_law_stream", Str.ofString "_law_laid"]
noncomputable def hD : DefRec := match pw.main.body[34]? with
  | some (Stmt.FunctionDef n a b _ _ _ sc _ _ p) => ⟨n, a, b, sc, p⟩
  | _ => ⟨Str.ofString "", default, [], default, default⟩
theorem kaOk : ∀ P : Params, KA = (KK P).map (·.1) := fun _ => by kernel_rfl
noncomputable abbrev hH : Hook := kHook KK KA kaOk
noncomputable def hX (s : Shared) : Bool := xlAt hQ [] s && recOk rw'.row.toRowW.records s
end Mine

end
section
set_option maxRecDepth 100000

namespace Mine
noncomputable abbrev kI (n : Int) : ASt → Option AVal := fun _ => some (.int n)
noncomputable abbrev kB (b : Bool) : ASt → Option AVal := fun _ => some (.bool b)
noncomputable abbrev kN : ASt → Option AVal := fun _ => some .none
noncomputable abbrev kV (v : Value) : ASt → Option AVal := fun _ => some (.cst v)
noncomputable abbrev kB64 : ASt → Option AVal := fun _ => some (.bytes (toNats b64A))

noncomputable def cSiftdown : AS :=
  (sSeq (sAssign 3 (bin2 gItem (ldv 0) (ldv 2)))
  (sSeq (sWhile (tcmp gGt (ldv 2) (ldv 1)) (sSeq (sAssign 4 (bin2 gShr (bin2 gSub (ldv 2) (kI 1)) (kI 1)))
  (sSeq (sAssign 5 (bin2 gItem (ldv 0) (ldv 4)))
  (sSeq (sIf (tcmp gLt (ldv 3) (ldv 5)) (sSeq (sSet (ldv 5) (ldv 0) (ldv 2))
  (sSeq (sAssign 2 (ldv 4))
  (sSeq (fun st => some (.cont, st))
  sNil))) sNil)
  (sSeq (fun st => some (.brk, st))
  sNil)))) 16)
  (sSeq (sSet (ldv 3) (ldv 0) (ldv 2))
  sNil)))
noncomputable def dSiftdown : DefF := runDef 3 3 [] cSiftdown
noncomputable def cSiftup : AS :=
  (sSeq (sAssign 2 (pB (fun1 lenA) (consF (ldv 0) nilF) nilF))
  (sSeq (sAssign 3 (ldv 1))
  (sSeq (sAssign 4 (bin2 gItem (ldv 0) (ldv 1)))
  (sSeq (sAssign 5 (bin2 gAdd (bin2 gMul (kI 2) (ldv 1)) (kI 1)))
  (sSeq (sWhile (tcmp gLt (ldv 5) (ldv 2)) (sSeq (sAssign 6 (bin2 gAdd (ldv 5) (kI 1)))
  (sSeq (sIf (tAnd (tcmp gLt (ldv 6) (ldv 2)) (tAnd (tNot (tcmp gLt (bin2 gItem (ldv 0) (ldv 5)) (bin2 gItem (ldv 0) (ldv 6)))) (fun _ => some true))) (sSeq (sAssign 5 (ldv 6))
  sNil) sNil)
  (sSeq (sSet (bin2 gItem (ldv 0) (ldv 5)) (ldv 0) (ldv 1))
  (sSeq (sAssign 1 (ldv 5))
  (sSeq (sAssign 5 (bin2 gAdd (bin2 gMul (kI 2) (ldv 1)) (kI 1)))
  sNil))))) 16)
  (sSeq (sSet (ldv 4) (ldv 0) (ldv 1))
  (sSeq (sCall 49 dSiftdown (kV (.ref 49)) (consF (ldv 0) (consF (ldv 3) (consF (ldv 1) nilF))))
  sNil)))))))
noncomputable def dSiftup : DefF := runDef 2 5 [] cSiftup
noncomputable def cHeappush : AS :=
  (sSeq (sM isLst appendA (ldv 0) (consF (ldv 1) nilF) nilF)
  (sSeq (sCall 49 dSiftdown (kV (.ref 49)) (consF (ldv 0) (consF (kI 0) (consF (bin2 gSub (pB (fun1 lenA) (consF (ldv 0) nilF) nilF) (kI 1)) nilF))))
  sNil))
noncomputable def dHeappush : DefF := runDef 2 0 [] cHeappush
noncomputable def cHeapreplace : AS :=
  (sSeq (sAssign 2 (bin2 gItem (ldv 0) (kI 0)))
  (sSeq (sSet (ldv 1) (ldv 0) (kI 0))
  (sSeq (sCall 56 dSiftup (kV (.ref 56)) (consF (ldv 0) (consF (kI 0) nilF)))
  (sSeq (sRet (ldv 2))
  sNil))))
noncomputable def dHeapreplace : DefF := runDef 2 1 [] cHeapreplace
noncomputable def cHeapify : AS :=
  (sSeq (sAssign 1 (pB (fun1 lenA) (consF (ldv 0) nilF) nilF))
  (sSeq (sFor (iRev (bin2 gDiv (ldv 1) (kI 2))) (tgName 2) (sSeq (sCall 56 dSiftup (kV (.ref 56)) (consF (ldv 0) (consF (ldv 2) nilF)))
  sNil))
  sNil))
noncomputable def dHeapify : DefF := runDef 1 2 [] cHeapify
noncomputable def cNlargest : AS :=
  (sSeq (sIf (tcmp gEq (ldv 0) (kI 1)) noS sNil)
  (sSeq (sSeq (sSeq (sAssign 6 (pB (fun1 lenA) (consF (ldv 1) nilF) nilF))
  sNil) (sSeq (sIf (tcmp gGe (ldv 0) (ldv 6)) (sSeq (sRet (pSlice (pB sortedKrA (consF (ldv 1) nilF) (consF (ldv 2) (consF (kB true) nilF))) (ldv 0)))
  sNil) sNil)
  sNil))
  (sSeq (sIf (tcmp gIs (ldv 2) kN) (sSeq (sNew 3 (nIter (ldv 1)))
  (sSeq (sZip 5 (kI 0) (pNeg (ldv 0)) (pNeg (kI 1)) (ldv 3))
  (sSeq (sIf (tNot (tVal (ldv 5))) noS sNil)
  (sSeq (sCall 42 dHeapify (kV (.ref 42)) (consF (ldv 5) nilF))
  (sSeq (sAssign 7 (bin2 gItem (bin2 gItem (ldv 5) (kI 0)) (kI 0)))
  (sSeq (sAssign 8 (pNeg (ldv 0)))
  (sSeq (sAssign 9 (kV (.ref 35)))
  (sSeq (sForC (ldv 3) 10 (sSeq (sIf (tcmp gLt (ldv 7) (ldv 10)) (sSeq (sCall 35 dHeapreplace (ldv 9) (consF (ldv 5) (consF (pTup (consF (ldv 10) (consF (ldv 8) nilF))) nilF)))
  (sSeq (sUnp 7 11 (bin2 gItem (ldv 5) (kI 0)))
  (sSeq (sAug 8 gSub (kI 1))
  sNil))) sNil)
  sNil) 64)
  (sSeq (sM isLst sortRevA (ldv 5) nilF (consF (kB true) nilF))
  (sSeq (sRet (pCompN [Str.ofString "elem", Str.ofString "order"] [] (fun st => ((ldv 5) st).bind (itemsC st.cells)) 2 [] (.lst []) (tgPair 0 1) (fun _ => some true) (emitL (ldv 0))))
  sNil)))))))))) sNil)
  noS)))
noncomputable def dNlargest : DefF := runDef 2 11 [.none] cNlargest
noncomputable def cBytesFromDecodeData : AS :=
  (sSeq (sIf (tIsi false (ldv 0)) noS sNil)
  (sSeq (sIf (tIsi true (ldv 0)) (sSeq (sRet (ldv 0))
  sNil) sNil)
  noS))
noncomputable def dBytesFromDecodeData : DefF := runDef 1 0 [] cBytesFromDecodeData
noncomputable def cAsciiBuffer : AS :=
  (sSeq (sAssign 1 (pB (fun1 typeA) (consF (ldv 0) nilF) nilF))
  (sSeq (sIf (tcmp gIs (ldv 1) (kV (.type "str"))) noS sNil)
  (sSeq (sIf (tcmp gIs (ldv 1) (kV (.type "bytes"))) (sSeq (sRet (ldv 0))
  sNil) sNil)
  noS)))
noncomputable def dAsciiBuffer : DefF := runDef 1 1 [] cAsciiBuffer
noncomputable def cBuffer : AS :=
  (sSeq (sAssign 1 (pB (fun1 typeA) (consF (ldv 0) nilF) nilF))
  (sSeq (sIf (tcmp gIs (ldv 1) (kV (.type "bytes"))) (sSeq (sRet (ldv 0))
  sNil) sNil)
  noS))
noncomputable def dBuffer : DefF := runDef 1 1 [] cBuffer
noncomputable def cTruth : AS :=
  (sSeq (sAssign 1 (pB (fun1 typeA) (consF (ldv 0) nilF) nilF))
  (sSeq (sIf (tOr (tcmp gIs (ldv 0) kN) (tOr (tcmp gIs (ldv 1) (kV (.type "bool"))) noT)) (sSeq (sRet (pIf (tVal (ldv 0)) (kB true) (kB false)))
  sNil) sNil)
  noS))
noncomputable def dTruth : DefF := runDef 1 1 [] cTruth
noncomputable def cB64Value : AS :=
  (sSeq (sIf (tChain gLe gLe (kI 65) (ldv 0) (kI 90)) (sSeq (sRet (bin2 gSub (ldv 0) (kI 65)))
  sNil) sNil)
  (sSeq (sIf (tChain gLe gLe (kI 97) (ldv 0) (kI 122)) (sSeq (sRet (bin2 gSub (ldv 0) (kI 71)))
  sNil) sNil)
  (sSeq (sIf (tChain gLe gLe (kI 48) (ldv 0) (kI 57)) (sSeq (sRet (bin2 gAdd (ldv 0) (kI 4)))
  sNil) sNil)
  (sSeq (sIf (tcmp gEq (ldv 0) (kI 43)) (sSeq (sRet (kI 62))
  sNil) sNil)
  (sSeq (sIf (tcmp gEq (ldv 0) (kI 47)) (sSeq (sRet (kI 63))
  sNil) sNil)
  (sSeq (sRet (kI 64))
  sNil))))))
noncomputable def dB64Value : DefF := runDef 1 0 [] cB64Value
noncomputable def cA2bBase64 : AS :=
  (sSeq (sAssign 2 (pCall 90 dAsciiBuffer (kV (.ref 90)) (consF (ldv 0) nilF) nilF))
  (sSeq (sAssign 1 (pCall 104 dTruth (kV (.ref 104)) (consF (ldv 1) nilF) nilF))
  (sSeq (sNew 3 (nList nilF))
  (sSeq (sAssign 4 (kI 0))
  (sSeq (sAssign 5 (kI 0))
  (sSeq (sAssign 6 (kI 0))
  (sSeq (sAssign 7 (kI 0))
  (sSeq (sFor (fun st => ((ldv 2) st).bind itemsB) (tgName 8) (sSeq (sIf (tcmp gEq (ldv 8) (kI 61)) (sSeq (sAssign 6 (bin2 gAdd (ldv 6) (kI 1)))
  (sSeq (sIf (tAnd (tcmp gGe (ldv 4) (kI 2)) (tAnd (tcmp gLe (bin2 gAdd (ldv 4) (ldv 6)) (kI 4)) (fun _ => some true))) (sSeq (sAssign 7 (bin2 gAdd (ldv 7) (kI 1)))
  (sSeq (fun st => some (.cont, st))
  sNil)) sNil)
  noS)) sNil)
  (sSeq (sAssign 8 (pCall 111 dB64Value (kV (.ref 111)) (consF (ldv 8) nilF) nilF))
  (sSeq (sIf (tcmp gGe (ldv 8) (kI 64)) noS sNil)
  (sSeq (sIf (tAnd (tVal (ldv 6)) noT) noS sNil)
  (sSeq (sAssign 6 (kI 0))
  (sSeq (sIf (tcmp gEq (ldv 4) (kI 0)) (sSeq (sAssign 4 (kI 1))
  (sSeq (sAssign 5 (ldv 8))
  sNil)) (sSeq (sIf (tcmp gEq (ldv 4) (kI 1)) (sSeq (sAssign 4 (kI 2))
  (sSeq (sM isLst appendA (ldv 3) (consF (bin2 gOr (bin2 gShl (ldv 5) (kI 2)) (bin2 gShr (ldv 8) (kI 4))) nilF) nilF)
  (sSeq (sAssign 5 (bin2 gAnd (ldv 8) (kI 15)))
  sNil))) (sSeq (sIf (tcmp gEq (ldv 4) (kI 2)) (sSeq (sAssign 4 (kI 3))
  (sSeq (sM isLst appendA (ldv 3) (consF (bin2 gOr (bin2 gShl (ldv 5) (kI 4)) (bin2 gShr (ldv 8) (kI 2))) nilF) nilF)
  (sSeq (sAssign 5 (bin2 gAnd (ldv 8) (kI 3)))
  sNil))) (sSeq (sAssign 4 (kI 0))
  (sSeq (sM isLst appendA (ldv 3) (consF (bin2 gOr (bin2 gShl (ldv 5) (kI 6)) (ldv 8)) nilF) nilF)
  (sSeq (sAssign 5 (kI 0))
  sNil))))
  sNil))
  sNil))
  (sSeq (sAssign 7 (bin2 gAdd (ldv 7) (kI 1)))
  sNil))))))))
  (sSeq (sIf (tcmp gEq (ldv 4) (kI 1)) noS sNil)
  (sSeq (sIf (tAnd (tcmp gNe (ldv 4) (kI 0)) (tAnd (tcmp gLt (bin2 gAdd (ldv 4) (ldv 6)) (kI 4)) (fun _ => some true))) noS sNil)
  (sSeq (sRet (pB (fun1 bytesA) (consF (ldv 3) nilF) nilF))
  sNil)))))))))))
noncomputable def dA2bBase64 : DefF := runDef 2 7 [] cA2bBase64
noncomputable def cB2aBase64 : AS :=
  (sSeq (sAssign 2 (pCall 97 dBuffer (kV (.ref 97)) (consF (ldv 0) nilF) nilF))
  (sSeq (sAssign 1 (pCall 104 dTruth (kV (.ref 104)) (consF (ldv 1) nilF) nilF))
  (sSeq (sNew 3 (nList nilF))
  (sSeq (sAssign 4 (kI 0))
  (sSeq (sAssign 5 (kI 0))
  (sSeq (sFor (fun st => ((ldv 2) st).bind itemsB) (tgName 6) (sSeq (sAssign 5 (bin2 gAnd (bin2 gOr (bin2 gShl (ldv 5) (kI 8)) (ldv 6)) (kI 65535)))
  (sSeq (sAssign 4 (bin2 gAdd (ldv 4) (kI 8)))
  (sSeq (sWhile (tcmp gGe (ldv 4) (kI 6)) (sSeq (sM isLst appendA (ldv 3) (consF (bin2 gItem kB64 (bin2 gAnd (bin2 gShr (ldv 5) (bin2 gSub (ldv 4) (kI 6))) (kI 63))) nilF) nilF)
  (sSeq (sAssign 4 (bin2 gSub (ldv 4) (kI 6)))
  sNil)) 16)
  sNil))))
  (sSeq (sIf (tcmp gEq (ldv 4) (kI 2)) (sSeq (sM isLst appendA (ldv 3) (consF (bin2 gItem kB64 (bin2 gShl (bin2 gAnd (ldv 5) (kI 3)) (kI 4))) nilF) nilF)
  (sSeq (sM isLst appendA (ldv 3) (consF (kI 61) nilF) nilF)
  (sSeq (sM isLst appendA (ldv 3) (consF (kI 61) nilF) nilF)
  sNil))) (sSeq (sIf (tcmp gEq (ldv 4) (kI 4)) (sSeq (sM isLst appendA (ldv 3) (consF (bin2 gItem kB64 (bin2 gShl (bin2 gAnd (ldv 5) (kI 15)) (kI 2))) nilF) nilF)
  (sSeq (sM isLst appendA (ldv 3) (consF (kI 61) nilF) nilF)
  sNil)) sNil)
  sNil))
  (sSeq (sIf (tVal (ldv 1)) (sSeq (sM isLst appendA (ldv 3) (consF (kI 10) nilF) nilF)
  sNil) sNil)
  (sSeq (sRet (pB (fun1 bytesA) (consF (ldv 3) nilF) nilF))
  sNil)))))))))
noncomputable def dB2aBase64 : DefF := runDef 2 5 [] cB2aBase64
noncomputable def cB64encode : AS :=
  (sSeq (sAssign 2 (pCall 127 dB2aBase64 (kV (.ref 127)) (consF (ldv 0) nilF) (consF (kB false) nilF)))
  (sSeq (sIf (tcmp gIsNot (ldv 1) kN) noS sNil)
  (sSeq (sRet (ldv 2))
  sNil)))
noncomputable def dB64encode : DefF := runDef 1 1 [.none] cB64encode
noncomputable def cB64decode : AS :=
  (sSeq (sAssign 0 (pCall 70 dBytesFromDecodeData (kV (.ref 70)) (consF (ldv 0) nilF) nilF))
  (sSeq (sIf (tcmp gIsNot (ldv 1) kN) noS sNil)
  (sSeq (sRet (pCall 119 dA2bBase64 (kV (.ref 119)) (consF (ldv 0) nilF) (consF (ldv 2) nilF)))
  sNil)))
noncomputable def dB64decode : DefF := runDef 1 0 [.none, .bool false] cB64decode
noncomputable def cLawOctets : AS :=
  (sSeq (sNew 1 (nList (consF (bin2 gMod (ldv 0) (kI 64)) nilF)))
  (sSeq (sWhile (tcmp gGt (ldv 0) (kI 63)) (sSeq (sAssign 0 (bin2 gDiv (ldv 0) (kI 64)))
  (sSeq (sM isLst insertA (ldv 1) (consF (kI 0) (consF (bin2 gAdd (bin2 gMod (ldv 0) (kI 64)) (kI 64)) nilF)) nilF)
  sNil)) 16)
  (sSeq (sRet (ldv 1))
  sNil)))
noncomputable def dLawOctets : DefF := runDef 1 1 [] cLawOctets
noncomputable def cLawText : AS :=
  (sSeq (sAssign 1 (pCompN [Str.ofString "word", Str.ofString "part", Str.ofString "table"] [] (fun st => ((pB (fun1 sortedA) (consF (ldv 0) nilF) nilF) st).bind itemsL) 2 [0] (.lst []) (tgName 0) (fun _ => some true) (nestBody (fun st => ((pLst (consF (ldv 0) (consF (bin2 gItem (ldv 2) (ldv 0)) nilF))) st).bind itemsL) (tgName 1) (fun _ => some true) (emitL (ldv 1)))))
  (sSeq (sRet (pCall 135 dB64encode (kV (.ref 135)) (consF (pB (fun1 bytesA) (consF (pCompN [Str.ofString "part", Str.ofString "octet"] [] (fun st => ((ldv 1) st).bind itemsL) 2 [] (.lst []) (tgName 0) (fun _ => some true) (nestBody (fun st => ((pCall 157 dLawOctets (kV (.ref 157)) (consF (ldv 0) nilF) nilF) st).bind itemsL) (tgName 1) (fun _ => some true) (emitL (ldv 1)))) nilF) nilF) nilF) nilF))
  sNil))
noncomputable def dLawText : DefF := runDef 1 1 [] cLawText
noncomputable def cLawCome : AS :=
  (sSeq (sAssign 3 (pCompN [Str.ofString "k", Str.ofString "heap", Str.ofString "word"] [] (iRange (pB (fun1 lenA) (consF (ldv 1) nilF) nilF)) 1 [1, 2] (.lst []) (tgName 0) (tcmp gEq (bin2 gItem (bin2 gItem (ldv 1) (ldv 0)) (kI 1)) (ldv 2)) (emitL (ldv 0))))
  (sSeq (sIf (tcmp gNe (ldv 3) (pLst nilF)) (sSeq (sSet (pTup (consF (bin2 gAdd (bin2 gItem (bin2 gItem (ldv 1) (bin2 gItem (ldv 3) (kI 0))) (kI 0)) (kI 1)) (consF (ldv 2) nilF))) (ldv 1) (bin2 gItem (ldv 3) (kI 0)))
  (sSeq (sCall 42 dHeapify (kV (.ref 42)) (consF (ldv 1) nilF))
  sNil)) (sSeq (sIf (tcmp gLe (pB (fun1 lenA) (consF (ldv 1) nilF) nilF) (ldv 0)) (sSeq (sCall 28 dHeappush (kV (.ref 28)) (consF (ldv 1) (consF (pTup (consF (kI 1) (consF (ldv 2) nilF))) nilF)))
  sNil) (sSeq (sCall 35 dHeapreplace (kV (.ref 35)) (consF (ldv 1) (consF (pTup (consF (bin2 gAdd (bin2 gItem (bin2 gItem (ldv 1) (kI 0)) (kI 0)) (kI 1)) (consF (ldv 2) nilF))) nilF)))
  sNil))
  sNil))
  sNil))
noncomputable def dLawCome : DefF := runDef 3 1 [] cLawCome
noncomputable def cLawAbove : AS :=
  (sSeq (sAssign 2 (pIf (tcmp gGt (pB (fun1 lenA) (consF (ldv 1) nilF) nilF) (ldv 0)) (bin2 gItem (bin2 gItem (ldv 1) (kI 0)) (kI 0)) (kI 0)))
  (sSeq (sRet (pCompN [Str.ofString "count", Str.ofString "word", Str.ofString "least"] [] (fun st => ((ldv 1) st).bind itemsL) 2 [2] (.dct []) (tgPair 0 1) (tcmp gGt (ldv 0) (ldv 2)) (emitD (ldv 1) (bin2 gSub (ldv 0) (ldv 2)))))
  sNil))
noncomputable def dLawAbove : DefF := runDef 2 1 [] cLawAbove
noncomputable def cLawPlain : AS :=
  (sSeq (sIf (tOr (tcmp gIn (ldv 2) (ldv 1)) (tOr (tcmp gLt (pB (fun1 lenA) (consF (ldv 1) nilF) nilF) (ldv 0)) (fun _ => some false))) (sSeq (sRet (pCompN [Str.ofString "one", Str.ofString "table", Str.ofString "word"] [] (fun st => ((bin2 gAdd (pB (fun1 listA) (consF (ldv 1) nilF) nilF) (pLst (consF (ldv 2) nilF))) st).bind itemsL) 1 [1, 2] (.dct []) (tgName 0) (fun _ => some true) (emitD (ldv 0) (bin2 gAdd (pM isDct getA (ldv 1) (consF (ldv 0) (consF (kI 0) nilF))) (pIf (tcmp gEq (ldv 0) (ldv 2)) (kI 1) (kI 0))))))
  sNil) sNil)
  (sSeq (sRet (pCompN [Str.ofString "one", Str.ofString "table"] [] (fun st => ((ldv 1) st).bind itemsD) 1 [1] (.dct []) (tgName 0) (tcmp gGt (bin2 gItem (ldv 1) (ldv 0)) (kI 1)) (emitD (ldv 0) (bin2 gSub (bin2 gItem (ldv 1) (ldv 0)) (kI 1)))))
  sNil))
noncomputable def dLawPlain : DefF := runDef 3 0 [] cLawPlain
noncomputable def cLawStream : AS :=
  (sSeq (sInit 2 3 4)
  (sSeq (sFor (fun st => ((ldv 1) st).bind itemsL) (tgName 5) (sSeq (sCall 174 dLawCome (kV (.ref 174)) (consF (ldv 0) (consF (ldv 2) (consF (ldv 5) nilF))))
  (sSeq (sAssign 3 (pCall 184 dLawPlain (kV (.ref 184)) (consF (ldv 0) (consF (ldv 3) (consF (ldv 5) nilF))) nilF))
  (sSeq (sAssign 4 (pAnd (ldv 4) (bin2 gEq (pCallV 179 dLawAbove (kV (.ref 179)) (consF (ldv 0) (consF (ldv 2) nilF)) nilF) (ldv 3))))
  sNil))))
  (sSeq (sRet (pTup (consF (pCall 162 dLawText (kV (.ref 162)) (consF (pCallV 179 dLawAbove (kV (.ref 179)) (consF (ldv 0) (consF (ldv 2) nilF)) nilF) nilF) nilF) (consF (ldv 4) nilF))))
  sNil)))
noncomputable def dLawStream : DefF := runDef 2 4 [] cLawStream
noncomputable def cParseVarint : AS :=
  (sSeq (sNext 1 (ldv 0))
  (sSeq (sAssign 2 (bin2 gAnd (ldv 1) (kI 63)))
  (sSeq (sWhile (tVal (bin2 gAnd (ldv 1) (kI 64))) (sSeq (sAug 2 gShl (kI 6))
  (sSeq (sNext 1 (ldv 0))
  (sSeq (sAug 2 gOr (bin2 gAnd (ldv 1) (kI 63)))
  sNil))) 16)
  (sSeq (sRet (ldv 2))
  sNil))))
noncomputable def dParseVarint : DefF := runDef 1 2 [] cParseVarint
noncomputable def cLawRead : AS :=
  (sSeq (sNew 1 (nIter (pCall 143 dB64decode (kV (.ref 143)) (consF (ldv 0) nilF) nilF)))
  (sSeq (sNew 2 (fun _ => some (.dct [])))
  (sSeq (sRead (ldv 1) (sSeq (sACall 3 150 dParseVarint (kV (.ref 150)) (consF (ldv 1) nilF))
  (sSeq (sASet 150 dParseVarint (kV (.ref 150)) (consF (ldv 1) nilF) (ldv 2) (ldv 3))
  sNil)) (ldv 2) 64)
  sNil)))
noncomputable def dLawRead : DefF := runDef 1 3 [] cLawRead
noncomputable def cLawLaid : AS :=
  (sSeq (sUnp 3 4 (pTup (consF (pCall 169 dLawRead (kV (.ref 169)) (consF (ldv 1) nilF) nilF) (consF (pCall 169 dLawRead (kV (.ref 169)) (consF (ldv 2) nilF) nilF) nilF))))
  (sSeq (sAssign 5 (pCompN [Str.ofString "word", Str.ofString "table", Str.ofString "more"] [] (fun st => ((bin2 gAdd (pB (fun1 listA) (consF (ldv 3) nilF) nilF) (pB (fun1 listA) (consF (ldv 4) nilF) nilF)) st).bind itemsL) 1 [3, 4] (.dct []) (tgName 0) (fun _ => some true) (emitD (ldv 0) (bin2 gAdd (pM isDct getA (ldv 1) (consF (ldv 0) (consF (kI 0) nilF))) (pM isDct getA (ldv 2) (consF (ldv 0) (consF (kI 0) nilF)))))))
  (sSeq (sAssign 6 (pCompN [Str.ofString "word", Str.ofString "sums"] [] (fun st => ((ldv 5) st).bind itemsD) 1 [5] (.lst []) (tgName 0) (fun _ => some true) (emitL (bin2 gItem (ldv 1) (ldv 0)))))
  (sSeq (sAssign 7 (pCall 62 dNlargest (kV (.ref 62)) (consF (bin2 gAdd (ldv 0) (kI 1)) (consF (ldv 6) nilF)) nilF))
  (sSeq (sAssign 8 (pIf (tcmp gGt (pB (fun1 lenA) (consF (ldv 7) nilF) nilF) (ldv 0)) (bin2 gItem (ldv 7) (ldv 0)) (kI 0)))
  (sSeq (sAssign 9 (bin2 gItem (pB (fun1 sortedA) (consF (bin2 gAdd (bin2 gMul (pLst (consF (kI 0) nilF)) (bin2 gAdd (ldv 0) (kI 1))) (ldv 6)) nilF) nilF) (pB (fun1 lenA) (consF (ldv 6) nilF) nilF)))
  (sSeq (sRet (pTup (consF (pCall 162 dLawText (kV (.ref 162)) (consF (pCompN [Str.ofString "word", Str.ofString "sums", Str.ofString "cut"] [] (fun st => ((ldv 5) st).bind itemsD) 1 [5, 8] (.dct []) (tgName 0) (tcmp gGt (bin2 gItem (ldv 1) (ldv 0)) (ldv 2)) (emitD (ldv 0) (bin2 gSub (bin2 gItem (ldv 1) (ldv 0)) (ldv 2)))) nilF) nilF) (consF (bin2 gEq (ldv 8) (ldv 9)) nilF))))
  sNil)))))))
noncomputable def dLawLaid : DefF := runDef 3 7 [] cLawLaid
noncomputable def cLaw : AS :=
  (sSeq (sAssign 1 (bin2 gItem (bin2 gAdd (pSlice (ldv 0) (kI 1)) (pLst (consF (kI 0) nilF))) (kI 0)))
  (sSeq (sAssign 2 (bin2 gAdd (bin2 gMod (bin2 gAdd (ldv 1) (kI 1)) (kI 3)) (kI 1)))
  (sSeq (sAssign 3 (bin2 gAdd (pSlice (ldv 0) (kI 16)) (pLst (consF (kI 1) (consF (kI 10) (consF (kI 1) (consF (kI 17) (consF (kI 2) (consF (kI 10) (consF (kI 3) (consF (kI 13) (consF (kI 4) (consF (kI 22) (consF (kI 1) (consF (kI 11) nilF)))))))))))))))
  (sSeq (sAssign 4 (pCompN [Str.ofString "x"] [] (fun st => ((ldv 3) st).bind itemsL) 1 [] (.lst []) (tgName 0) (fun _ => some true) (emitL (bin2 gMul (kI 700) (bin2 gMod (ldv 0) (kI 8))))))
  (sSeq (sAssign 5 (pCompN [Str.ofString "k", Str.ofString "numbers"] [Str.ofString "k"] (iRange (kI 3)) 1 [3] (.lst []) (tgName 0) (fun _ => some true) (emitL (pCompN [Str.ofString "x", Str.ofString "k"] [] (fun st => ((ldv 1) st).bind itemsL) 1 [0] (.lst []) (tgName 0) (tcmp gEq (bin2 gMod (bin2 gDiv (ldv 0) (kI 8)) (kI 3)) (ldv 1)) (emitL (bin2 gMul (kI 700) (bin2 gMod (ldv 0) (kI 8))))))))
  (sSeq (sAssign 6 (pCompN [Str.ofString "stream", Str.ofString "width"] [] (fun st => ((ldv 5) st).bind itemsL) 1 [2] (.lst []) (tgName 0) (fun _ => some true) (emitL (pCall 191 dLawStream (kV (.ref 191)) (consF (ldv 1) (consF (ldv 0) nilF)) nilF))))
  (sSeq (sAssign 7 (pCompN [Str.ofString "k", Str.ofString "told", Str.ofString "first"] [] (iRange (kI 3)) 1 [6, 1] (.lst []) (tgName 0) (fun _ => some true) (emitL (bin2 gItem (bin2 gItem (ldv 1) (bin2 gMod (bin2 gAdd (bin2 gDiv (ldv 2) (kI 3)) (ldv 0)) (kI 3))) (kI 0)))))
  (sSeq (sUnp 8 9 (pCall 196 dLawLaid (kV (.ref 196)) (consF (ldv 2) (consF (bin2 gItem (ldv 7) (kI 0)) (consF (bin2 gItem (ldv 7) (kI 1)) nilF))) nilF))
  (sSeq (sUnp 10 11 (pCall 196 dLawLaid (kV (.ref 196)) (consF (ldv 2) (consF (ldv 8) (consF (bin2 gItem (ldv 7) (kI 2)) nilF))) nilF))
  (sSeq (sAssign 12 (pCall 169 dLawRead (kV (.ref 169)) (consF (ldv 10) nilF) nilF))
  (sSeq (sAssign 13 (bin2 gSub (pB (fun1 lenA) (consF (ldv 4) nilF) nilF) (pB (fun1 sumA) (consF (pCompN [Str.ofString "word", Str.ofString "table"] [] (fun st => ((ldv 12) st).bind itemsD) 1 [12] (.lst []) (tgName 0) (fun _ => some true) (emitL (bin2 gItem (ldv 1) (ldv 0)))) nilF) nilF)))
  (sSeq (sAssign 14 (pCompN [Str.ofString "word", Str.ofString "words", Str.ofString "table"] [] (fun st => ((bin2 gAdd (pB (fun1 listA) (consF (ldv 12) nilF) nilF) (ldv 4)) st).bind itemsL) 1 [4, 12] (.lst []) (tgName 0) (fun _ => some true) (emitL (bin2 gSub (pM isLst countA (ldv 1) (consF (ldv 0) nilF)) (pM isDct getA (ldv 2) (consF (ldv 0) (consF (kI 0) nilF)))))))
  (sSeq (sIf (tOr (tcmp gGt (pB (fun1 lenA) (consF (ldv 12) nilF) nilF) (ldv 2)) (tOr (tcmp gLt (pB (fun1 minA) (consF (ldv 14) nilF) nilF) (kI 0)) (tOr (tcmp gGt (bin2 gMul (bin2 gAdd (ldv 2) (kI 1)) (pB (fun1 maxA) (consF (ldv 14) nilF) nilF)) (ldv 13)) (fun _ => some false)))) (sSeq (sRet (kB false))
  sNil) sNil)
  (sSeq (sRet (pAnd (ldv 9) (pAnd (ldv 11) (bin2 gEq (pCompN [Str.ofString "text", Str.ofString "right"] [] (fun st => ((ldv 6) st).bind itemsL) 2 [] (.lst []) (tgPair 0 1) (fun _ => some true) (emitL (ldv 1))) (pLst (consF (kB true) (consF (kB true) (consF (kB true) nilF))))))))
  sNil))))))))))))))
noncomputable def dLaw : DefF := runDef 1 14 [] cLaw
end Mine

end
section
set_option maxRecDepth 100000

namespace Mine
section
variable {Z : Amb} {S : Sx}
theorem gl0 : ∀ (st : ASt) (bs : List AVal), nilF st = some bs → bs.length = 0 := fun _ _ h => by cases h; rfl
theorem gl1 {f : ASt → Option AVal} : ∀ (st : ASt) (bs : List AVal), consF f nilF st = some bs → bs.length = 1 := fun _ _ h => by
  obtain ⟨_, _, _, h2, rfl⟩ := consF_some h
  cases h2; rfl
theorem gl2 {f g : ASt → Option AVal} : ∀ (st : ASt) (bs : List AVal), consF f (consF g nilF) st = some bs → bs.length = 2 := fun _ _ h => by
  obtain ⟨_, _, _, h2, rfl⟩ := consF_some h
  obtain ⟨_, _, _, h3, rfl⟩ := consF_some h2
  cases h3; rfl
theorem bind1 {P : Shared → Prop} {fd : FuncData} {p : Str} (h : ∀ a : Value, bindArgs fd ⟨[a], []⟩ = pure [(p, a)]) : ∀ (s : Shared) (args kvs : List Value), args.length + kvs.length = 1 → kvs.length = ([] : List Str).length → P s → BindsTo s fd ⟨args, ([] : List Str).zip kvs⟩ ([p].zip (args ++ kvs ++ [])) := by
  intro s args kvs h1 h2 _
  obtain rfl : kvs = [] := List.length_eq_zero_iff.mp h2
  match args, h1 with
  | [a], _ => exact BindsTo.of_eq (h a)
theorem bind2 {P : Shared → Prop} {fd : FuncData} {p q : Str} (h : ∀ a b : Value, bindArgs fd ⟨[a, b], []⟩ = pure [(p, a), (q, b)]) : ∀ (s : Shared) (args kvs : List Value), args.length + kvs.length = 2 → kvs.length = ([] : List Str).length → P s → BindsTo s fd ⟨args, ([] : List Str).zip kvs⟩ ([p, q].zip (args ++ kvs ++ [])) := by
  intro s args kvs h1 h2 _
  obtain rfl : kvs = [] := List.length_eq_zero_iff.mp h2
  match args, h1 with
  | [a, b], _ => exact BindsTo.of_eq (h a b)
theorem bind3 {P : Shared → Prop} {fd : FuncData} {p q r : Str} (h : ∀ a b c : Value, bindArgs fd ⟨[a, b, c], []⟩ = pure [(p, a), (q, b), (r, c)]) : ∀ (s : Shared) (args kvs : List Value), args.length + kvs.length = 3 → kvs.length = ([] : List Str).length → P s → BindsTo s fd ⟨args, ([] : List Str).zip kvs⟩ ([p, q, r].zip (args ++ kvs ++ [])) := by
  intro s args kvs h1 h2 _
  obtain rfl : kvs = [] := List.length_eq_zero_iff.mp h2
  match args, h1 with
  | [a, b, c], _ => exact BindsTo.of_eq (h a b c)

theorem bindK {P : Shared → Prop} {fd : FuncData} {p q : Str} (h : ∀ a b : Value, bindArgs fd ⟨[a], [(q, b)]⟩ = pure [(p, a), (q, b)]) : ∀ (s : Shared) (args kvs : List Value), args.length + kvs.length = 2 → kvs.length = [q].length → P s → BindsTo s fd ⟨args, [q].zip kvs⟩ ([p, q].zip (args ++ kvs ++ [])) := by
  intro s args kvs h1 h2 _
  match kvs, h2 with
  | [b], _ => match args, h1 with
    | [a], _ => exact BindsTo.of_eq (h a b)

theorem fact_heappush (hZ : Z.K = KK Z.w.params) : nsIn Z.K mainGlobals (Str.ofString "heappush") = some (some (.ref 28)) := by rw [hZ]; kernel_rfl
theorem keep_heappush (hZ : Z.K = KK Z.w.params) : keepIn Z.K (.ref 28) = true := by rw [hZ]; kernel_rfl
theorem fact_heapreplace (hZ : Z.K = KK Z.w.params) : nsIn Z.K mainGlobals (Str.ofString "heapreplace") = some (some (.ref 35)) := by rw [hZ]; kernel_rfl
theorem keep_heapreplace (hZ : Z.K = KK Z.w.params) : keepIn Z.K (.ref 35) = true := by rw [hZ]; kernel_rfl
theorem fact_heapify (hZ : Z.K = KK Z.w.params) : nsIn Z.K mainGlobals (Str.ofString "heapify") = some (some (.ref 42)) := by rw [hZ]; kernel_rfl
theorem keep_heapify (hZ : Z.K = KK Z.w.params) : keepIn Z.K (.ref 42) = true := by rw [hZ]; kernel_rfl
theorem fact__siftdown (hZ : Z.K = KK Z.w.params) : nsIn Z.K mainGlobals (Str.ofString "_siftdown") = some (some (.ref 49)) := by rw [hZ]; kernel_rfl
theorem keep__siftdown (hZ : Z.K = KK Z.w.params) : keepIn Z.K (.ref 49) = true := by rw [hZ]; kernel_rfl
theorem fact__siftup (hZ : Z.K = KK Z.w.params) : nsIn Z.K mainGlobals (Str.ofString "_siftup") = some (some (.ref 56)) := by rw [hZ]; kernel_rfl
theorem keep__siftup (hZ : Z.K = KK Z.w.params) : keepIn Z.K (.ref 56) = true := by rw [hZ]; kernel_rfl
theorem fact_nlargest (hZ : Z.K = KK Z.w.params) : nsIn Z.K mainGlobals (Str.ofString "nlargest") = some (some (.ref 62)) := by rw [hZ]; kernel_rfl
theorem keep_nlargest (hZ : Z.K = KK Z.w.params) : keepIn Z.K (.ref 62) = true := by rw [hZ]; kernel_rfl
theorem fact__bytes_from_decode_data (hZ : Z.K = KK Z.w.params) : nsIn Z.K mainGlobals (Str.ofString "_bytes_from_decode_data") = some (some (.ref 70)) := by rw [hZ]; kernel_rfl
theorem keep__bytes_from_decode_data (hZ : Z.K = KK Z.w.params) : keepIn Z.K (.ref 70) = true := by rw [hZ]; kernel_rfl
theorem fact__ascii_buffer (hZ : Z.K = KK Z.w.params) : nsIn Z.K mainGlobals (Str.ofString "_ascii_buffer") = some (some (.ref 90)) := by rw [hZ]; kernel_rfl
theorem keep__ascii_buffer (hZ : Z.K = KK Z.w.params) : keepIn Z.K (.ref 90) = true := by rw [hZ]; kernel_rfl
theorem fact__buffer (hZ : Z.K = KK Z.w.params) : nsIn Z.K mainGlobals (Str.ofString "_buffer") = some (some (.ref 97)) := by rw [hZ]; kernel_rfl
theorem keep__buffer (hZ : Z.K = KK Z.w.params) : keepIn Z.K (.ref 97) = true := by rw [hZ]; kernel_rfl
theorem fact__truth (hZ : Z.K = KK Z.w.params) : nsIn Z.K mainGlobals (Str.ofString "_truth") = some (some (.ref 104)) := by rw [hZ]; kernel_rfl
theorem keep__truth (hZ : Z.K = KK Z.w.params) : keepIn Z.K (.ref 104) = true := by rw [hZ]; kernel_rfl
theorem fact__b64_value (hZ : Z.K = KK Z.w.params) : nsIn Z.K mainGlobals (Str.ofString "_b64_value") = some (some (.ref 111)) := by rw [hZ]; kernel_rfl
theorem keep__b64_value (hZ : Z.K = KK Z.w.params) : keepIn Z.K (.ref 111) = true := by rw [hZ]; kernel_rfl
theorem fact_a2b_base64 (hZ : Z.K = KK Z.w.params) : nsIn Z.K mainGlobals (Str.ofString "a2b_base64") = some (some (.ref 119)) := by rw [hZ]; kernel_rfl
theorem keep_a2b_base64 (hZ : Z.K = KK Z.w.params) : keepIn Z.K (.ref 119) = true := by rw [hZ]; kernel_rfl
theorem fact_b2a_base64 (hZ : Z.K = KK Z.w.params) : nsIn Z.K mainGlobals (Str.ofString "b2a_base64") = some (some (.ref 127)) := by rw [hZ]; kernel_rfl
theorem keep_b2a_base64 (hZ : Z.K = KK Z.w.params) : keepIn Z.K (.ref 127) = true := by rw [hZ]; kernel_rfl
theorem fact_b64encode (hZ : Z.K = KK Z.w.params) : nsIn Z.K mainGlobals (Str.ofString "b64encode") = some (some (.ref 135)) := by rw [hZ]; kernel_rfl
theorem keep_b64encode (hZ : Z.K = KK Z.w.params) : keepIn Z.K (.ref 135) = true := by rw [hZ]; kernel_rfl
theorem fact_b64decode (hZ : Z.K = KK Z.w.params) : nsIn Z.K mainGlobals (Str.ofString "b64decode") = some (some (.ref 143)) := by rw [hZ]; kernel_rfl
theorem keep_b64decode (hZ : Z.K = KK Z.w.params) : keepIn Z.K (.ref 143) = true := by rw [hZ]; kernel_rfl
theorem fact__parse_varint (hZ : Z.K = KK Z.w.params) : nsIn Z.K mainGlobals (Str.ofString "_parse_varint") = some (some (.ref 150)) := by rw [hZ]; kernel_rfl
theorem keep__parse_varint (hZ : Z.K = KK Z.w.params) : keepIn Z.K (.ref 150) = true := by rw [hZ]; kernel_rfl
theorem fact__law_octets (hZ : Z.K = KK Z.w.params) : nsIn Z.K mainGlobals (Str.ofString "_law_octets") = some (some (.ref 157)) := by rw [hZ]; kernel_rfl
theorem keep__law_octets (hZ : Z.K = KK Z.w.params) : keepIn Z.K (.ref 157) = true := by rw [hZ]; kernel_rfl
theorem fact__law_text (hZ : Z.K = KK Z.w.params) : nsIn Z.K mainGlobals (Str.ofString "_law_text") = some (some (.ref 162)) := by rw [hZ]; kernel_rfl
theorem keep__law_text (hZ : Z.K = KK Z.w.params) : keepIn Z.K (.ref 162) = true := by rw [hZ]; kernel_rfl
theorem fact__law_read (hZ : Z.K = KK Z.w.params) : nsIn Z.K mainGlobals (Str.ofString "_law_read") = some (some (.ref 169)) := by rw [hZ]; kernel_rfl
theorem keep__law_read (hZ : Z.K = KK Z.w.params) : keepIn Z.K (.ref 169) = true := by rw [hZ]; kernel_rfl
theorem fact__law_come (hZ : Z.K = KK Z.w.params) : nsIn Z.K mainGlobals (Str.ofString "_law_come") = some (some (.ref 174)) := by rw [hZ]; kernel_rfl
theorem keep__law_come (hZ : Z.K = KK Z.w.params) : keepIn Z.K (.ref 174) = true := by rw [hZ]; kernel_rfl
theorem fact__law_above (hZ : Z.K = KK Z.w.params) : nsIn Z.K mainGlobals (Str.ofString "_law_above") = some (some (.ref 179)) := by rw [hZ]; kernel_rfl
theorem keep__law_above (hZ : Z.K = KK Z.w.params) : keepIn Z.K (.ref 179) = true := by rw [hZ]; kernel_rfl
theorem fact__law_plain (hZ : Z.K = KK Z.w.params) : nsIn Z.K mainGlobals (Str.ofString "_law_plain") = some (some (.ref 184)) := by rw [hZ]; kernel_rfl
theorem keep__law_plain (hZ : Z.K = KK Z.w.params) : keepIn Z.K (.ref 184) = true := by rw [hZ]; kernel_rfl
theorem fact__law_stream (hZ : Z.K = KK Z.w.params) : nsIn Z.K mainGlobals (Str.ofString "_law_stream") = some (some (.ref 191)) := by rw [hZ]; kernel_rfl
theorem keep__law_stream (hZ : Z.K = KK Z.w.params) : keepIn Z.K (.ref 191) = true := by rw [hZ]; kernel_rfl
theorem fact__law_laid (hZ : Z.K = KK Z.w.params) : nsIn Z.K mainGlobals (Str.ofString "_law_laid") = some (some (.ref 196)) := by rw [hZ]; kernel_rfl
theorem keep__law_laid (hZ : Z.K = KK Z.w.params) : keepIn Z.K (.ref 196) = true := by rw [hZ]; kernel_rfl
theorem fact_len (hZ : Z.K = KK Z.w.params) : nsIn Z.K mainGlobals (Str.ofString "len") = some none := by rw [hZ]; kernel_rfl
theorem fact_sum (hZ : Z.K = KK Z.w.params) : nsIn Z.K mainGlobals (Str.ofString "sum") = some none := by rw [hZ]; kernel_rfl
theorem fact_max (hZ : Z.K = KK Z.w.params) : nsIn Z.K mainGlobals (Str.ofString "max") = some none := by rw [hZ]; kernel_rfl
theorem fact_min (hZ : Z.K = KK Z.w.params) : nsIn Z.K mainGlobals (Str.ofString "min") = some none := by rw [hZ]; kernel_rfl
theorem fact_sorted (hZ : Z.K = KK Z.w.params) : nsIn Z.K mainGlobals (Str.ofString "sorted") = some none := by rw [hZ]; kernel_rfl
theorem fact_iter (hZ : Z.K = KK Z.w.params) : nsIn Z.K mainGlobals (Str.ofString "iter") = some none := by rw [hZ]; kernel_rfl
theorem fact_list (hZ : Z.K = KK Z.w.params) : nsIn Z.K mainGlobals (Str.ofString "list") = some none := by rw [hZ]; kernel_rfl
theorem fact_bytes (hZ : Z.K = KK Z.w.params) : nsIn Z.K mainGlobals (Str.ofString "bytes") = some none := by rw [hZ]; kernel_rfl
theorem fact_type (hZ : Z.K = KK Z.w.params) : nsIn Z.K mainGlobals (Str.ofString "type") = some none := by rw [hZ]; kernel_rfl
theorem fact_str (hZ : Z.K = KK Z.w.params) : nsIn Z.K mainGlobals (Str.ofString "str") = some none := by rw [hZ]; kernel_rfl
theorem fact_bool (hZ : Z.K = KK Z.w.params) : nsIn Z.K mainGlobals (Str.ofString "bool") = some none := by rw [hZ]; kernel_rfl
theorem fact_bytearray (hZ : Z.K = KK Z.w.params) : nsIn Z.K mainGlobals (Str.ofString "bytearray") = some none := by rw [hZ]; kernel_rfl
theorem fact_range (hZ : Z.K = KK Z.w.params) : nsIn Z.K mainGlobals (Str.ofString "range") = some none := by rw [hZ]; kernel_rfl
theorem fact_reversed (hZ : Z.K = KK Z.w.params) : nsIn Z.K mainGlobals (Str.ofString "reversed") = some none := by rw [hZ]; kernel_rfl
theorem fact_zip (hZ : Z.K = KK Z.w.params) : nsIn Z.K mainGlobals (Str.ofString "zip") = some none := by rw [hZ]; kernel_rfl
theorem fact_next (hZ : Z.K = KK Z.w.params) : nsIn Z.K mainGlobals (Str.ofString "next") = some none := by rw [hZ]; kernel_rfl
theorem fact_isinstance (hZ : Z.K = KK Z.w.params) : nsIn Z.K mainGlobals (Str.ofString "isinstance") = some none := by rw [hZ]; kernel_rfl
theorem fact_StopIteration (hZ : Z.K = KK Z.w.params) : nsIn Z.K mainGlobals (Str.ofString "StopIteration") = some none := by rw [hZ]; kernel_rfl
theorem fact__B64 (hZ : Z.K = KK Z.w.params) : nsIn Z.K mainGlobals (Str.ofString "_B64") = some (some (.bytes b64A 307)) := by rw [hZ]; kernel_rfl
theorem fact_bytes_types (hZ : Z.K = KK Z.w.params) : nsIn Z.K mainGlobals (Str.ofString "bytes_types") = some (some (.ref 63)) := by rw [hZ]; kernel_rfl
theorem fact_bt (hZ : Z.K = KK Z.w.params) : Z.K.lookup 63 = some { cls := .type "tuple", data := .seq #[.type "bytes", .type "bytearray"] } := by rw [hZ]; kernel_rfl
set_option maxHeartbeats 8000000 in
theorem rc_Siftdown (hZ : Z.K = KK Z.w.params) : RC Z 1 49 [] dSiftdown := by
  show RC Z 1 49 [] (runDef 3 3 [] cSiftdown)
  refine' rc_def (n := 3) (m := 3) (dfl := []) (k := 0) (S := ⟨?sc, [Str.ofString "heap", Str.ofString "startpos", Str.ofString "pos", Str.ofString "newitem", Str.ofString "parentpos", Str.ofString "parent"], []⟩) (pn := [Str.ofString "heap", Str.ofString "startpos", Str.ofString "pos"]) (rest := [Str.ofString "newitem", Str.ofString "parentpos", Str.ofString "parent"]) (dv := []) ?ho ?hcd ?hsc ?hk ?hv ?hvn ?hfree rfl rfl ?hnd ?hkind ?hdv ?hbind ?R ?hco ?hgen
  case ho => rw [hZ]; exact rfl
  case hcd => rw [hZ]; kernel_rfl
  case hsc => exact rfl
  case hk => rfl
  case hv => rfl
  case hvn => decide
  case hfree => decide
  case hnd => decide
  case hkind => decide
  case hco => rfl
  case hgen => rfl
  case hdv => exact fun _ _ _ => .nil
  case hbind => exact bind3 (fun _ _ _ => rfl)
  case R =>
    unfold cSiftdown
    repeat' (first
    | (with_reducible exact rs_nil)
    | (with_reducible refine rs_cons ?_ ?_)
    | ((with_reducible refine rs_assign' ?_ ?b ?c); (case b => kernel_rfl); (case c => first | exact fun _ _ => rfl | exact fun env h => by simp only [swapsWith, Env.blockKind, Env.kindOf, h]; rfl))
    | (with_reducible refine rs_while ?_ ?_)
    | (with_reducible refine rs_if ?_ ?_ ?_)
    | ((with_reducible refine rs_set ?_ ?_ ?_ ?c); case c => exact fun _ => rfl)
    | (with_reducible exact rs_continue)
    | (with_reducible exact rs_break)
    | ((with_reducible refine rp_loc' ?a); case a => kernel_rfl)
    | (with_reducible exact rp_int)
    | ((with_reducible refine rp_item ?_ ?_ ?c); case c => exact fun _ _ => rfl)
    | (with_reducible refine rp_bin ?_ ?_ op_sub)
    | (with_reducible refine rp_bin ?_ ?_ op_shr)
    | ((with_reducible refine rt_cmp ?_ ?_ op_gt ?c); case c => rfl)
    | ((with_reducible refine rt_cmp ?_ ?_ op_lt ?c); case c => rfl))


set_option maxHeartbeats 8000000 in
theorem rc_Siftup (hZ : Z.K = KK Z.w.params) : RC Z 2 56 [] dSiftup := by
  have n_len := fact_len hZ
  have n__siftdown := fact__siftdown hZ
  have c__siftdown := @rc_Siftdown Z hZ
  have k__siftdown := keep__siftdown hZ
  show RC Z 2 56 [] (runDef 2 5 [] cSiftup)
  refine' rc_def (n := 2) (m := 5) (dfl := []) (k := 1) (S := ⟨?sc, [Str.ofString "heap", Str.ofString "pos", Str.ofString "endpos", Str.ofString "startpos", Str.ofString "newitem", Str.ofString "childpos", Str.ofString "rightpos"], []⟩) (pn := [Str.ofString "heap", Str.ofString "pos"]) (rest := [Str.ofString "endpos", Str.ofString "startpos", Str.ofString "newitem", Str.ofString "childpos", Str.ofString "rightpos"]) (dv := []) ?ho ?hcd ?hsc ?hk ?hv ?hvn ?hfree rfl rfl ?hnd ?hkind ?hdv ?hbind ?R ?hco ?hgen
  case ho => rw [hZ]; exact rfl
  case hcd => rw [hZ]; kernel_rfl
  case hsc => exact rfl
  case hk => rfl
  case hv => rfl
  case hvn => decide
  case hfree => decide
  case hnd => decide
  case hkind => decide
  case hco => rfl
  case hgen => rfl
  case hdv => exact fun _ _ _ => .nil
  case hbind => exact bind2 (fun _ _ => rfl)
  case R =>
    unfold cSiftup
    repeat' (first
    | (with_reducible exact rs_nil)
    | (with_reducible refine rs_cons ?_ ?_)
    | ((with_reducible refine rs_assign' ?_ ?b ?c); (case b => kernel_rfl); (case c => first | exact fun _ _ => rfl | exact fun env h => by simp only [swapsWith, Env.blockKind, Env.kindOf, h]; rfl))
    | (with_reducible refine rs_while ?_ ?_)
    | (with_reducible refine rs_if ?_ ?_ ?_)
    | ((with_reducible refine rs_set ?_ ?_ ?_ ?c); case c => exact fun _ => rfl)
    | ((with_reducible refine rs_call (by assumption) ?k (by assumption) ?_ ?_ ?c); (case k => decide); (case c => exact ⟨.inr ⟨_, _, rfl, fun _ => rfl⟩, fun _ => rfl⟩))
    | ((with_reducible refine rp_loc' ?a); case a => kernel_rfl)
    | (with_reducible exact rp_int)
    | ((with_reducible refine rp_globK ?a ?b); (case a => kernel_rfl); (case b => assumption))
    | ((with_reducible refine rp_bltK ?a ?b ?c); (case a => kernel_rfl); (case b => assumption); (case c => boot_fact))
    | ((with_reducible refine rp_item ?_ ?_ ?c); case c => exact fun _ _ => rfl)
    | (with_reducible refine rp_bin ?_ ?_ op_add)
    | (with_reducible refine rp_bin ?_ ?_ op_mul)
    | ((with_reducible refine rp_bcall (kws := []) bc_len (keep_builtin _) ?_ ?_ ?_ ?a ?b ?c ?d); (case a => rfl); (case b => rfl); (case c => exact ⟨.inr ⟨_, _, rfl, fun _ => rfl⟩, fun _ => rfl⟩); (case d => exact gl0))
    | (with_reducible exact rps_nil)
    | ((with_reducible refine rps_cons ?_ ?_ ?c); case c => exact fun _ => rfl)
    | (with_reducible exact rks_nil)
    | (with_reducible refine rks_cons ?_ ?_)
    | (with_reducible exact rifs_nil)
    | ((with_reducible refine rt_cmp ?_ ?_ op_lt ?c); case c => rfl)
    | (with_reducible exact rt_and_nil)
    | (with_reducible refine rt_and ?_ ?_)
    | (with_reducible refine rt_not ?_))


set_option maxHeartbeats 8000000 in
theorem rc_Heappush (hZ : Z.K = KK Z.w.params) : RC Z 2 28 [] dHeappush := by
  have n__siftdown := fact__siftdown hZ
  have n_len := fact_len hZ
  have c__siftdown := @rc_Siftdown Z hZ
  have k__siftdown := keep__siftdown hZ
  show RC Z 2 28 [] (runDef 2 0 [] cHeappush)
  refine' rc_def (n := 2) (m := 0) (dfl := []) (k := 1) (S := ⟨?sc, [Str.ofString "heap", Str.ofString "item"], []⟩) (pn := [Str.ofString "heap", Str.ofString "item"]) (rest := []) (dv := []) ?ho ?hcd ?hsc ?hk ?hv ?hvn ?hfree rfl rfl ?hnd ?hkind ?hdv ?hbind ?R ?hco ?hgen
  case ho => rw [hZ]; exact rfl
  case hcd => rw [hZ]; kernel_rfl
  case hsc => exact rfl
  case hk => rfl
  case hv => rfl
  case hvn => decide
  case hfree => decide
  case hnd => decide
  case hkind => decide
  case hco => rfl
  case hgen => rfl
  case hdv => exact fun _ _ _ => .nil
  case hbind => exact bind2 (fun _ _ => rfl)
  case R =>
    unfold cHeappush
    repeat' (first
    | (with_reducible exact rs_nil)
    | (with_reducible refine rs_cons ?_ ?_)
    | ((with_reducible refine rs_meth (kws := []) sc_append (mo_list F.slot_list_append F.type_list_append) ?_ ?_ ?_ ?a ?b ?c ?d ?e); (case a => rfl); (case b => rfl); (case c => exact ⟨.inr ⟨_, _, rfl, fun _ => rfl⟩, fun _ => rfl⟩); (case d => exact gl0); (case e => exact fun _ => rfl))
    | ((with_reducible refine rs_call (by assumption) ?k (by assumption) ?_ ?_ ?c); (case k => decide); (case c => exact ⟨.inr ⟨_, _, rfl, fun _ => rfl⟩, fun _ => rfl⟩))
    | ((with_reducible refine rp_loc' ?a); case a => kernel_rfl)
    | (with_reducible exact rp_int)
    | ((with_reducible refine rp_globK ?a ?b); (case a => kernel_rfl); (case b => assumption))
    | ((with_reducible refine rp_bltK ?a ?b ?c); (case a => kernel_rfl); (case b => assumption); (case c => boot_fact))
    | (with_reducible refine rp_bin ?_ ?_ op_sub)
    | ((with_reducible refine rp_bcall (kws := []) bc_len (keep_builtin _) ?_ ?_ ?_ ?a ?b ?c ?d); (case a => rfl); (case b => rfl); (case c => exact ⟨.inr ⟨_, _, rfl, fun _ => rfl⟩, fun _ => rfl⟩); (case d => exact gl0))
    | (with_reducible exact rps_nil)
    | ((with_reducible refine rps_cons ?_ ?_ ?c); case c => exact fun _ => rfl)
    | (with_reducible exact rks_nil)
    | (with_reducible refine rks_cons ?_ ?_))


set_option maxHeartbeats 8000000 in
theorem rc_Heapreplace (hZ : Z.K = KK Z.w.params) : RC Z 3 35 [] dHeapreplace := by
  have n__siftup := fact__siftup hZ
  have c__siftup := @rc_Siftup Z hZ
  have k__siftup := keep__siftup hZ
  show RC Z 3 35 [] (runDef 2 1 [] cHeapreplace)
  refine' rc_def (n := 2) (m := 1) (dfl := []) (k := 2) (S := ⟨?sc, [Str.ofString "heap", Str.ofString "item", Str.ofString "returnitem"], []⟩) (pn := [Str.ofString "heap", Str.ofString "item"]) (rest := [Str.ofString "returnitem"]) (dv := []) ?ho ?hcd ?hsc ?hk ?hv ?hvn ?hfree rfl rfl ?hnd ?hkind ?hdv ?hbind ?R ?hco ?hgen
  case ho => rw [hZ]; exact rfl
  case hcd => rw [hZ]; kernel_rfl
  case hsc => exact rfl
  case hk => rfl
  case hv => rfl
  case hvn => decide
  case hfree => decide
  case hnd => decide
  case hkind => decide
  case hco => rfl
  case hgen => rfl
  case hdv => exact fun _ _ _ => .nil
  case hbind => exact bind2 (fun _ _ => rfl)
  case R =>
    unfold cHeapreplace
    repeat' (first
    | (with_reducible exact rs_nil)
    | (with_reducible refine rs_cons ?_ ?_)
    | ((with_reducible refine rs_assign' ?_ ?b ?c); (case b => kernel_rfl); (case c => first | exact fun _ _ => rfl | exact fun env h => by simp only [swapsWith, Env.blockKind, Env.kindOf, h]; rfl))
    | ((with_reducible refine rs_set ?_ ?_ ?_ ?c); case c => exact fun _ => rfl)
    | ((with_reducible refine rs_call (by assumption) ?k (by assumption) ?_ ?_ ?c); (case k => decide); (case c => exact ⟨.inr ⟨_, _, rfl, fun _ => rfl⟩, fun _ => rfl⟩))
    | (with_reducible refine rs_ret ?_)
    | ((with_reducible refine rp_loc' ?a); case a => kernel_rfl)
    | (with_reducible exact rp_int)
    | ((with_reducible refine rp_globK ?a ?b); (case a => kernel_rfl); (case b => assumption))
    | ((with_reducible refine rp_item ?_ ?_ ?c); case c => exact fun _ _ => rfl)
    | (with_reducible exact rps_nil)
    | ((with_reducible refine rps_cons ?_ ?_ ?c); case c => exact fun _ => rfl)
    | (with_reducible exact rks_nil)
    | (with_reducible refine rks_cons ?_ ?_))


set_option maxHeartbeats 8000000 in
theorem rc_Heapify (hZ : Z.K = KK Z.w.params) : RC Z 3 42 [] dHeapify := by
  have n_len := fact_len hZ
  have n_reversed := fact_reversed hZ
  have n_range := fact_range hZ
  have n__siftup := fact__siftup hZ
  have c__siftup := @rc_Siftup Z hZ
  have k__siftup := keep__siftup hZ
  show RC Z 3 42 [] (runDef 1 2 [] cHeapify)
  refine' rc_def (n := 1) (m := 2) (dfl := []) (k := 2) (S := ⟨?sc, [Str.ofString "x", Str.ofString "n", Str.ofString "i"], []⟩) (pn := [Str.ofString "x"]) (rest := [Str.ofString "n", Str.ofString "i"]) (dv := []) ?ho ?hcd ?hsc ?hk ?hv ?hvn ?hfree rfl rfl ?hnd ?hkind ?hdv ?hbind ?R ?hco ?hgen
  case ho => rw [hZ]; exact rfl
  case hcd => rw [hZ]; kernel_rfl
  case hsc => exact rfl
  case hk => rfl
  case hv => rfl
  case hvn => decide
  case hfree => decide
  case hnd => decide
  case hkind => decide
  case hco => rfl
  case hgen => rfl
  case hdv => exact fun _ _ _ => .nil
  case hbind => exact bind1 (fun _ => rfl)
  case R =>
    unfold cHeapify
    repeat' (first
    | (with_reducible exact rs_nil)
    | (with_reducible refine rs_cons ?_ ?_)
    | ((with_reducible refine rs_assign' ?_ ?b ?c); (case b => kernel_rfl); (case c => first | exact fun _ _ => rfl | exact fun env h => by simp only [swapsWith, Env.blockKind, Env.kindOf, h]; rfl))
    | ((with_reducible refine rs_for ?_ ?_ ?_ ?c); case c => exact fun _ _ => rfl)
    | ((with_reducible refine rs_call (by assumption) ?k (by assumption) ?_ ?_ ?c); (case k => decide); (case c => exact ⟨.inr ⟨_, _, rfl, fun _ => rfl⟩, fun _ => rfl⟩))
    | ((with_reducible refine rp_loc' ?a); case a => kernel_rfl)
    | (with_reducible exact rp_int)
    | ((with_reducible refine rp_globK ?a ?b); (case a => kernel_rfl); (case b => assumption))
    | ((with_reducible refine rp_bltK ?a ?b ?c); (case a => kernel_rfl); (case b => assumption); (case c => boot_fact))
    | (with_reducible refine rp_bin ?_ ?_ op_div)
    | ((with_reducible refine rp_bcall (kws := []) bc_len (keep_builtin _) ?_ ?_ ?_ ?a ?b ?c ?d); (case a => rfl); (case b => rfl); (case c => exact ⟨.inr ⟨_, _, rfl, fun _ => rfl⟩, fun _ => rfl⟩); (case d => exact gl0))
    | (with_reducible exact rps_nil)
    | ((with_reducible refine rps_cons ?_ ?_ ?c); case c => exact fun _ => rfl)
    | (with_reducible exact rks_nil)
    | (with_reducible refine rks_cons ?_ ?_)
    | ((with_reducible refine ri_rev ?_ ?_ ?_ ?c); case c => exact fun _ => rfl)
    | ((with_reducible refine tgt_name' ?a); case a => kernel_rfl))


set_option maxHeartbeats 8000000 in
theorem rc_Nlargest (hZ : Z.K = KK Z.w.params) : RC Z 4 62 [] dNlargest := by
  have n_heapreplace := fact_heapreplace hZ
  have n_iter := fact_iter hZ
  have n_heapify := fact_heapify hZ
  have n_len := fact_len hZ
  have n_zip := fact_zip hZ
  have n_sorted := fact_sorted hZ
  have n_range := fact_range hZ
  have c_heapify := @rc_Heapify Z hZ
  have k_heapify := keep_heapify hZ
  have c_heapreplace := @rc_Heapreplace Z hZ
  have k_heapreplace := keep_heapreplace hZ
  show RC Z 4 62 [] (runDef 2 11 [.none] cNlargest)
  refine' rc_def (n := 2) (m := 11) (dfl := [.none]) (k := 3) (S := ⟨?sc, [Str.ofString "n", Str.ofString "iterable", Str.ofString "key", Str.ofString "it", Str.ofString "sentinel", Str.ofString "result", Str.ofString "size", Str.ofString "top", Str.ofString "order", Str.ofString "_heapreplace", Str.ofString "elem", Str.ofString "_order", Str.ofString "k", Str.ofString "_elem"], [Str.ofString "key"]⟩) (pn := [Str.ofString "n", Str.ofString "iterable", Str.ofString "key"]) (rest := [Str.ofString "it", Str.ofString "sentinel", Str.ofString "result", Str.ofString "size", Str.ofString "top", Str.ofString "order", Str.ofString "_heapreplace", Str.ofString "elem", Str.ofString "_order", Str.ofString "k", Str.ofString "_elem"]) (dv := [.none]) ?ho ?hcd ?hsc ?hk ?hv ?hvn ?hfree rfl rfl ?hnd ?hkind ?hdv ?hbind ?R ?hco ?hgen
  case ho => rw [hZ]; exact rfl
  case hcd => rw [hZ]; kernel_rfl
  case hsc => exact rfl
  case hk => rfl
  case hv => rfl
  case hvn => decide
  case hfree => decide
  case hnd => decide
  case hkind => decide
  case hco => rfl
  case hgen => rfl
  case hdv => exact fun _ _ _ => (.cons .none .nil)
  case hbind =>
    intro s args kvs h1 h2 hb
    obtain rfl : kvs = [] := List.length_eq_zero_iff.mp h2
    match args, h1 with
    | [a, b], _ => exact BindsTo.of_defaults rfl (hb _ _ (Z.X _ _ (by rw [hZ]; exact rfl))) rfl rfl rfl
  case R =>
    unfold cNlargest
    repeat' (first
    | (with_reducible exact rss_no)
    | (with_reducible exact rs_nil)
    | (with_reducible refine rs_cons ?_ ?_)
    | ((with_reducible refine rs_lc1 (tup := false) (tg := tgName _) ?n ?_ ?_ ?_ ?_ ?c ?d ?e ?f); (case n => kernel_rfl); (case c => exact fun _ _ => rfl); (case d => exact fun env h => by simp only [swapsWith, Env.blockKind, Env.kindOf, h]; rfl); (case e => rfl); (case f => kernel_rfl))
    | ((with_reducible refine rs_lc1 (tup := true) (tg := tgPair _ _) ?n ?_ ?_ ?_ ?_ ?c ?d ?e ?f); (case n => kernel_rfl); (case c => exact fun _ _ => rfl); (case d => exact fun env h => by simp only [swapsWith, Env.blockKind, Env.kindOf, h]; rfl); (case e => rfl); (case f => kernel_rfl))
    | ((with_reducible refine rs_assign' ?_ ?b ?c); (case b => kernel_rfl); (case c => first | exact fun _ _ => rfl | exact fun env h => by simp only [swapsWith, Env.blockKind, Env.kindOf, h]; rfl))
    | ((with_reducible refine rs_new' ?_ ?b ?c); (case b => kernel_rfl); (case c => exact fun _ => rfl))
    | (with_reducible refine rs_if ?_ ?_ ?_)
    | ((with_reducible refine rs_for ?_ ?_ ?_ ?c); case c => exact fun _ _ => rfl)
    | ((with_reducible refine rs_unp' ?_ ?a ?b ?c ?d); (case a => kernel_rfl); (case b => kernel_rfl); (case c => exact fun _ => rfl); (case d => first | exact fun _ _ => rfl | exact fun env h => by simp only [swappedStores, Env.blockKind, Env.kindOf, h]; rfl))
    | ((with_reducible refine rs_aug' ?_ op_isub ?a); case a => kernel_rfl)
    | ((with_reducible refine rs_meth sc_sort_rev (mo_list F.slot_list_sort F.type_list_sort) ?_ ?_ ?_ ?a ?b ?c ?d ?e); (case a => rfl); (case b => rfl); (case c => exact ⟨.inl ⟨rfl, rfl⟩, fun _ => rfl⟩); (case d => exact gl1); (case e => exact fun _ => rfl))
    | (with_reducible refine rs_try ?_ ?_)
    | ((with_reducible refine rs_forC ?_ ?b ?_ ?c); (case b => kernel_rfl); (case c => exact fun _ _ => rfl))
    | ((with_reducible refine rn_iter ?_ ?_ ?c); (case c => exact fun _ => rfl))
    | ((with_reducible refine rs_zip ?_ ?_ ?_ ?_ ?_ ?_ ?a ?b ?c ?d ?n ?e ?f ?_ ?g ?h ?i ?j); (case a => exact fun _ => rfl); (case b => exact fun _ => rfl); (case c => exact fun _ => rfl); (case d => exact fun _ => rfl); (case n => kernel_rfl); (case e => kernel_rfl); (case f => kernel_rfl); (case g => exact fun _ _ => rfl); (case h => exact fun env h => by simp only [swapsWith, Env.blockKind, Env.kindOf, h]; rfl); (case i => rfl); (case j => rfl))
    | ((with_reducible refine rs_call (by assumption) ?k (by assumption) ?_ ?_ ?c); (case k => decide); (case c => exact ⟨.inr ⟨_, _, rfl, fun _ => rfl⟩, fun _ => rfl⟩))
    | (with_reducible refine rs_ret ?_)
    | (with_reducible exact rs_pass)
    | (with_reducible exact rst_no)
    | ((with_reducible refine rp_loc' ?a); case a => kernel_rfl)
    | (with_reducible exact rp_int)
    | (with_reducible exact rp_bool)
    | (with_reducible exact rp_none)
    | ((with_reducible refine rp_globK ?a ?b); (case a => kernel_rfl); (case b => assumption))
    | ((with_reducible refine rp_bltK ?a ?b ?c); (case a => kernel_rfl); (case b => assumption); (case c => boot_fact))
    | ((with_reducible refine rp_item ?_ ?_ ?c); case c => exact fun _ _ => rfl)
    | ((with_reducible refine rp_bcall (kws := []) bc_len (keep_builtin _) ?_ ?_ ?_ ?a ?b ?c ?d); (case a => rfl); (case b => rfl); (case c => exact ⟨.inr ⟨_, _, rfl, fun _ => rfl⟩, fun _ => rfl⟩); (case d => exact gl0))
    | ((with_reducible refine rp_bcall bc_sorted_kr (keep_builtin _) ?_ ?_ ?_ ?a ?b ?c ?d); (case a => rfl); (case b => rfl); (case c => exact ⟨.inr ⟨_, _, rfl, fun _ => rfl⟩, fun _ => rfl⟩); (case d => exact gl2))
    | (with_reducible refine rp_neg ?_)
    | (with_reducible refine rp_tup ?_)
    | ((with_reducible refine rp_slice ?_ ?_ ?c); case c => exact fun _ _ => rfl)
    | (with_reducible refine rp_sliceT ?_ ?_)
    | ((with_reducible refine rp_lc1 (tup := false) (tg := tgName _) ?n ?_ ?_ ?_ ?_ ?c); (case n => kernel_rfl); (case c => exact fun _ _ => rfl))
    | ((with_reducible refine rp_lc1 (tup := true) (tg := tgPair _ _) ?n ?_ ?_ ?_ ?_ ?c); (case n => kernel_rfl); (case c => exact fun _ _ => rfl))
    | (with_reducible exact rps_nil)
    | ((with_reducible refine rps_cons ?_ ?_ ?c); case c => exact fun _ => rfl)
    | (with_reducible exact rks_nil)
    | (with_reducible refine rks_cons ?_ ?_)
    | (with_reducible refine ri_cell ?_)
    | ((with_reducible refine tgt_pair' ?a ?b); (case a => kernel_rfl); (case b => kernel_rfl))
    | (with_reducible exact rifs_nil)
    | (with_reducible refine rifs_one ?_)
    | ((with_reducible refine rt_cmp ?_ ?_ op_lt ?c); case c => rfl)
    | ((with_reducible refine rt_cmp ?_ ?_ op_ge ?c); case c => rfl)
    | ((with_reducible refine rt_cmp ?_ ?_ op_eq ?c); case c => rfl)
    | ((with_reducible refine rt_cmp ?_ ?_ op_is ?c); case c => rfl)
    | (with_reducible refine rt_not ?_)
    | ((with_reducible refine rt_val ?_ ?c); case c => exact fun _ _ => rfl))


set_option maxHeartbeats 8000000 in
theorem rc_BytesFromDecodeData (hZ : Z.K = KK Z.w.params) : RC Z 1 70 [] dBytesFromDecodeData := by
  have n_isinstance := fact_isinstance hZ
  have n_str := fact_str hZ
  have n_bytes_types := fact_bytes_types hZ
  have n_bt := fact_bt hZ
  show RC Z 1 70 [] (runDef 1 0 [] cBytesFromDecodeData)
  refine' rc_def (n := 1) (m := 0) (dfl := []) (k := 0) (S := ⟨?sc, [Str.ofString "s"], []⟩) (pn := [Str.ofString "s"]) (rest := []) (dv := []) ?ho ?hcd ?hsc ?hk ?hv ?hvn ?hfree rfl rfl ?hnd ?hkind ?hdv ?hbind ?R ?hco ?hgen
  case ho => rw [hZ]; exact rfl
  case hcd => rw [hZ]; kernel_rfl
  case hsc => exact rfl
  case hk => rfl
  case hv => rfl
  case hvn => decide
  case hfree => decide
  case hnd => decide
  case hkind => decide
  case hco => rfl
  case hgen => rfl
  case hdv => exact fun _ _ _ => .nil
  case hbind => exact bind1 (fun _ => rfl)
  case R =>
    unfold cBytesFromDecodeData
    repeat' (first
    | (with_reducible exact rss_no)
    | (with_reducible exact rs_nil)
    | (with_reducible refine rs_cons ?_ ?_)
    | (with_reducible refine rs_if ?_ ?_ ?_)
    | (with_reducible refine rs_try ?_ ?_)
    | (with_reducible refine rs_ret ?_)
    | (with_reducible exact rst_no)
    | ((with_reducible refine rp_loc' ?a); case a => kernel_rfl)
    | ((with_reducible refine rp_globK ?a ?b); (case a => kernel_rfl); (case b => assumption))
    | ((with_reducible refine rp_bltK ?a ?b ?c); (case a => kernel_rfl); (case b => assumption); (case c => boot_fact))
    | ((with_reducible refine rt_isi (c := .type "str") ?_ ?_ ?_ ?a ?b ?c (.inl ⟨rfl, rfl⟩)); (case a => exact fun _ => rfl); (case b => exact fun _ => rfl); (case c => exact fun _ _ => rfl))
    | ((with_reducible refine rt_isi (c := .ref 63) ?_ ?_ ?_ ?a ?b ?c (.inr ⟨rfl, _, rfl, ?d⟩)); (case a => exact fun _ => rfl); (case b => exact fun _ => rfl); (case c => exact fun _ _ => rfl); (case d => assumption)))


set_option maxHeartbeats 8000000 in
theorem rc_AsciiBuffer (hZ : Z.K = KK Z.w.params) : RC Z 1 90 [] dAsciiBuffer := by
  have n_type := fact_type hZ
  have n_str := fact_str hZ
  have n_bytes := fact_bytes hZ
  show RC Z 1 90 [] (runDef 1 1 [] cAsciiBuffer)
  refine' rc_def (n := 1) (m := 1) (dfl := []) (k := 0) (S := ⟨?sc, [Str.ofString "data", Str.ofString "t"], []⟩) (pn := [Str.ofString "data"]) (rest := [Str.ofString "t"]) (dv := []) ?ho ?hcd ?hsc ?hk ?hv ?hvn ?hfree rfl rfl ?hnd ?hkind ?hdv ?hbind ?R ?hco ?hgen
  case ho => rw [hZ]; exact rfl
  case hcd => rw [hZ]; kernel_rfl
  case hsc => exact rfl
  case hk => rfl
  case hv => rfl
  case hvn => decide
  case hfree => decide
  case hnd => decide
  case hkind => decide
  case hco => rfl
  case hgen => rfl
  case hdv => exact fun _ _ _ => .nil
  case hbind => exact bind1 (fun _ => rfl)
  case R =>
    unfold cAsciiBuffer
    repeat' (first
    | (with_reducible exact rss_no)
    | (with_reducible exact rs_nil)
    | (with_reducible refine rs_cons ?_ ?_)
    | ((with_reducible refine rs_assign' ?_ ?b ?c); (case b => kernel_rfl); (case c => first | exact fun _ _ => rfl | exact fun env h => by simp only [swapsWith, Env.blockKind, Env.kindOf, h]; rfl))
    | (with_reducible refine rs_if ?_ ?_ ?_)
    | (with_reducible refine rs_ret ?_)
    | (with_reducible exact rst_no)
    | ((with_reducible refine rp_loc' ?a); case a => kernel_rfl)
    | ((with_reducible refine rp_bltK ?a ?b ?c); (case a => kernel_rfl); (case b => assumption); (case c => boot_fact))
    | ((with_reducible refine rp_bcall (kws := []) bc_type (keep_type _) ?_ ?_ ?_ ?a ?b ?c ?d); (case a => rfl); (case b => rfl); (case c => exact ⟨.inr ⟨_, _, rfl, fun _ => rfl⟩, fun _ => rfl⟩); (case d => exact gl0))
    | (with_reducible exact rps_nil)
    | ((with_reducible refine rps_cons ?_ ?_ ?c); case c => exact fun _ => rfl)
    | (with_reducible exact rks_nil)
    | (with_reducible refine rks_cons ?_ ?_)
    | ((with_reducible refine rt_cmp ?_ ?_ op_is ?c); case c => rfl))


set_option maxHeartbeats 8000000 in
theorem rc_Buffer (hZ : Z.K = KK Z.w.params) : RC Z 1 97 [] dBuffer := by
  have n_type := fact_type hZ
  have n_bytes := fact_bytes hZ
  show RC Z 1 97 [] (runDef 1 1 [] cBuffer)
  refine' rc_def (n := 1) (m := 1) (dfl := []) (k := 0) (S := ⟨?sc, [Str.ofString "data", Str.ofString "t"], []⟩) (pn := [Str.ofString "data"]) (rest := [Str.ofString "t"]) (dv := []) ?ho ?hcd ?hsc ?hk ?hv ?hvn ?hfree rfl rfl ?hnd ?hkind ?hdv ?hbind ?R ?hco ?hgen
  case ho => rw [hZ]; exact rfl
  case hcd => rw [hZ]; kernel_rfl
  case hsc => exact rfl
  case hk => rfl
  case hv => rfl
  case hvn => decide
  case hfree => decide
  case hnd => decide
  case hkind => decide
  case hco => rfl
  case hgen => rfl
  case hdv => exact fun _ _ _ => .nil
  case hbind => exact bind1 (fun _ => rfl)
  case R =>
    unfold cBuffer
    repeat' (first
    | (with_reducible exact rss_no)
    | (with_reducible exact rs_nil)
    | (with_reducible refine rs_cons ?_ ?_)
    | ((with_reducible refine rs_assign' ?_ ?b ?c); (case b => kernel_rfl); (case c => first | exact fun _ _ => rfl | exact fun env h => by simp only [swapsWith, Env.blockKind, Env.kindOf, h]; rfl))
    | (with_reducible refine rs_if ?_ ?_ ?_)
    | (with_reducible refine rs_ret ?_)
    | (with_reducible exact rst_no)
    | ((with_reducible refine rp_loc' ?a); case a => kernel_rfl)
    | ((with_reducible refine rp_bltK ?a ?b ?c); (case a => kernel_rfl); (case b => assumption); (case c => boot_fact))
    | ((with_reducible refine rp_bcall (kws := []) bc_type (keep_type _) ?_ ?_ ?_ ?a ?b ?c ?d); (case a => rfl); (case b => rfl); (case c => exact ⟨.inr ⟨_, _, rfl, fun _ => rfl⟩, fun _ => rfl⟩); (case d => exact gl0))
    | (with_reducible exact rps_nil)
    | ((with_reducible refine rps_cons ?_ ?_ ?c); case c => exact fun _ => rfl)
    | (with_reducible exact rks_nil)
    | (with_reducible refine rks_cons ?_ ?_)
    | ((with_reducible refine rt_cmp ?_ ?_ op_is ?c); case c => rfl))


set_option maxHeartbeats 8000000 in
theorem rc_Truth (hZ : Z.K = KK Z.w.params) : RC Z 1 104 [] dTruth := by
  have n_type := fact_type hZ
  have n_bool := fact_bool hZ
  show RC Z 1 104 [] (runDef 1 1 [] cTruth)
  refine' rc_def (n := 1) (m := 1) (dfl := []) (k := 0) (S := ⟨?sc, [Str.ofString "x", Str.ofString "t"], []⟩) (pn := [Str.ofString "x"]) (rest := [Str.ofString "t"]) (dv := []) ?ho ?hcd ?hsc ?hk ?hv ?hvn ?hfree rfl rfl ?hnd ?hkind ?hdv ?hbind ?R ?hco ?hgen
  case ho => rw [hZ]; exact rfl
  case hcd => rw [hZ]; kernel_rfl
  case hsc => exact rfl
  case hk => rfl
  case hv => rfl
  case hvn => decide
  case hfree => decide
  case hnd => decide
  case hkind => decide
  case hco => rfl
  case hgen => rfl
  case hdv => exact fun _ _ _ => .nil
  case hbind => exact bind1 (fun _ => rfl)
  case R =>
    unfold cTruth
    repeat' (first
    | (with_reducible exact rss_no)
    | (with_reducible exact rs_nil)
    | (with_reducible refine rs_cons ?_ ?_)
    | ((with_reducible refine rs_assign' ?_ ?b ?c); (case b => kernel_rfl); (case c => first | exact fun _ _ => rfl | exact fun env h => by simp only [swapsWith, Env.blockKind, Env.kindOf, h]; rfl))
    | (with_reducible refine rs_if ?_ ?_ ?_)
    | (with_reducible refine rs_ret ?_)
    | (with_reducible exact rst_no)
    | ((with_reducible refine rp_loc' ?a); case a => kernel_rfl)
    | (with_reducible exact rp_bool)
    | (with_reducible exact rp_none)
    | ((with_reducible refine rp_bltK ?a ?b ?c); (case a => kernel_rfl); (case b => assumption); (case c => boot_fact))
    | ((with_reducible refine rp_bcall (kws := []) bc_type (keep_type _) ?_ ?_ ?_ ?a ?b ?c ?d); (case a => rfl); (case b => rfl); (case c => exact ⟨.inr ⟨_, _, rfl, fun _ => rfl⟩, fun _ => rfl⟩); (case d => exact gl0))
    | (with_reducible refine rp_if ?_ ?_ ?_)
    | (with_reducible exact rps_nil)
    | ((with_reducible refine rps_cons ?_ ?_ ?c); case c => exact fun _ => rfl)
    | (with_reducible exact rks_nil)
    | (with_reducible refine rks_cons ?_ ?_)
    | ((with_reducible refine rt_cmp ?_ ?_ op_is ?c); case c => rfl)
    | (with_reducible exact rt_no)
    | (with_reducible exact rt_or_nil)
    | (with_reducible refine rt_or ?_ ?_)
    | ((with_reducible refine rt_val ?_ ?c); case c => exact fun _ _ => rfl))


set_option maxHeartbeats 8000000 in
theorem rc_B64Value (hZ : Z.K = KK Z.w.params) : RC Z 1 111 [] dB64Value := by
  show RC Z 1 111 [] (runDef 1 0 [] cB64Value)
  refine' rc_def (n := 1) (m := 0) (dfl := []) (k := 0) (S := ⟨?sc, [Str.ofString "c"], []⟩) (pn := [Str.ofString "c"]) (rest := []) (dv := []) ?ho ?hcd ?hsc ?hk ?hv ?hvn ?hfree rfl rfl ?hnd ?hkind ?hdv ?hbind ?R ?hco ?hgen
  case ho => rw [hZ]; exact rfl
  case hcd => rw [hZ]; kernel_rfl
  case hsc => exact rfl
  case hk => rfl
  case hv => rfl
  case hvn => decide
  case hfree => decide
  case hnd => decide
  case hkind => decide
  case hco => rfl
  case hgen => rfl
  case hdv => exact fun _ _ _ => .nil
  case hbind => exact bind1 (fun _ => rfl)
  case R =>
    unfold cB64Value
    repeat' (first
    | (with_reducible exact rs_nil)
    | (with_reducible refine rs_cons ?_ ?_)
    | (with_reducible refine rs_if ?_ ?_ ?_)
    | (with_reducible refine rs_ret ?_)
    | ((with_reducible refine rp_loc' ?a); case a => kernel_rfl)
    | (with_reducible exact rp_int)
    | (with_reducible refine rp_bin ?_ ?_ op_add)
    | (with_reducible refine rp_bin ?_ ?_ op_sub)
    | ((with_reducible refine rt_cmp ?_ ?_ op_eq ?c); case c => rfl)
    | ((with_reducible refine rt_chain ?_ ?_ ?_ op_le op_le ?c); case c => rfl))


set_option maxHeartbeats 8000000 in
theorem rc_A2bBase64 (hZ : Z.K = KK Z.w.params) : RC Z 2 119 [Str.ofString "strict_mode"] dA2bBase64 := by
  have n__ascii_buffer := fact__ascii_buffer hZ
  have n__truth := fact__truth hZ
  have n_bytes := fact_bytes hZ
  have n__b64_value := fact__b64_value hZ
  have n_len := fact_len hZ
  have c__ascii_buffer := @rc_AsciiBuffer Z hZ
  have k__ascii_buffer := keep__ascii_buffer hZ
  have c__truth := @rc_Truth Z hZ
  have k__truth := keep__truth hZ
  have c__b64_value := @rc_B64Value Z hZ
  have k__b64_value := keep__b64_value hZ
  show RC Z 2 119 [Str.ofString "strict_mode"] (runDef 2 7 [] cA2bBase64)
  refine' rc_def (n := 2) (m := 7) (dfl := []) (k := 1) (S := ⟨?sc, [Str.ofString "data", Str.ofString "strict_mode", Str.ofString "ascii_data", Str.ofString "out", Str.ofString "quad_pos", Str.ofString "leftchar", Str.ofString "pads", Str.ofString "i", Str.ofString "this_ch"], []⟩) (pn := [Str.ofString "data", Str.ofString "strict_mode"]) (rest := [Str.ofString "ascii_data", Str.ofString "out", Str.ofString "quad_pos", Str.ofString "leftchar", Str.ofString "pads", Str.ofString "i", Str.ofString "this_ch"]) (dv := []) ?ho ?hcd ?hsc ?hk ?hv ?hvn ?hfree rfl rfl ?hnd ?hkind ?hdv ?hbind ?R ?hco ?hgen
  case ho => rw [hZ]; exact rfl
  case hcd => rw [hZ]; kernel_rfl
  case hsc => exact rfl
  case hk => rfl
  case hv => rfl
  case hvn => decide
  case hfree => decide
  case hnd => decide
  case hkind => decide
  case hco => rfl
  case hgen => rfl
  case hdv => exact fun _ _ _ => .nil
  case hbind => exact bindK (fun _ _ => rfl)
  case R =>
    unfold cA2bBase64
    repeat' (first
    | (with_reducible exact rss_no)
    | (with_reducible exact rs_nil)
    | (with_reducible refine rs_cons ?_ ?_)
    | ((with_reducible refine rs_assign' ?_ ?b ?c); (case b => kernel_rfl); (case c => first | exact fun _ _ => rfl | exact fun env h => by simp only [swapsWith, Env.blockKind, Env.kindOf, h]; rfl))
    | ((with_reducible refine rs_new' ?_ ?b ?c); (case b => kernel_rfl); (case c => exact fun _ => rfl))
    | (with_reducible refine rn_list ?_)
    | (with_reducible refine rs_if ?_ ?_ ?_)
    | ((with_reducible refine rs_for ?_ ?_ ?_ ?c); case c => exact fun _ _ => rfl)
    | ((with_reducible refine rs_meth (kws := []) sc_append (mo_list F.slot_list_append F.type_list_append) ?_ ?_ ?_ ?a ?b ?c ?d ?e); (case a => rfl); (case b => rfl); (case c => exact ⟨.inr ⟨_, _, rfl, fun _ => rfl⟩, fun _ => rfl⟩); (case d => exact gl0); (case e => exact fun _ => rfl))
    | (with_reducible refine rs_ret ?_)
    | (with_reducible exact rs_continue)
    | (with_reducible exact rst_no)
    | ((with_reducible refine rp_loc' ?a); case a => kernel_rfl)
    | (with_reducible exact rp_int)
    | ((with_reducible refine rp_globK ?a ?b); (case a => kernel_rfl); (case b => assumption))
    | ((with_reducible refine rp_bltK ?a ?b ?c); (case a => kernel_rfl); (case b => assumption); (case c => boot_fact))
    | (with_reducible refine rp_bin ?_ ?_ op_add)
    | (with_reducible refine rp_bin ?_ ?_ op_shr)
    | (with_reducible refine rp_bin ?_ ?_ op_shl)
    | (with_reducible refine rp_bin ?_ ?_ op_and)
    | (with_reducible refine rp_bin ?_ ?_ op_or)
    | ((with_reducible refine rp_call (by assumption) ?k (by assumption) ?_ ?_ ?_ ?a ?b ?c ?d); (case k => decide); (case a => rfl); (case b => rfl); (case c => exact ⟨.inr ⟨_, _, rfl, fun _ => rfl⟩, fun _ => rfl⟩); (case d => first | exact gl0 | exact gl1))
    | ((with_reducible refine rp_bcall (kws := []) bc_bytes (keep_type _) ?_ ?_ ?_ ?a ?b ?c ?d); (case a => rfl); (case b => rfl); (case c => exact ⟨.inr ⟨_, _, rfl, fun _ => rfl⟩, fun _ => rfl⟩); (case d => exact gl0))
    | (with_reducible exact rps_nil)
    | ((with_reducible refine rps_cons ?_ ?_ ?c); case c => exact fun _ => rfl)
    | (with_reducible exact rks_nil)
    | (with_reducible refine rks_cons ?_ ?_)
    | (with_reducible refine ri_bytes ?_)
    | ((with_reducible refine tgt_name' ?a); case a => kernel_rfl)
    | (with_reducible exact rifs_nil)
    | ((with_reducible refine rt_cmp ?_ ?_ op_lt ?c); case c => rfl)
    | ((with_reducible refine rt_cmp ?_ ?_ op_ge ?c); case c => rfl)
    | ((with_reducible refine rt_cmp ?_ ?_ op_le ?c); case c => rfl)
    | ((with_reducible refine rt_cmp ?_ ?_ op_eq ?c); case c => rfl)
    | ((with_reducible refine rt_cmp ?_ ?_ op_ne ?c); case c => rfl)
    | (with_reducible exact rt_no)
    | (with_reducible exact rt_and_nil)
    | (with_reducible refine rt_and ?_ ?_)
    | ((with_reducible refine rt_val ?_ ?c); case c => exact fun _ _ => rfl))


set_option maxHeartbeats 8000000 in
theorem rc_B2aBase64 (hZ : Z.K = KK Z.w.params) : RC Z 2 127 [Str.ofString "newline"] dB2aBase64 := by
  have n__buffer := fact__buffer hZ
  have n__truth := fact__truth hZ
  have n_bytes := fact_bytes hZ
  have n__B64 := fact__B64 hZ
  have c__buffer := @rc_Buffer Z hZ
  have k__buffer := keep__buffer hZ
  have c__truth := @rc_Truth Z hZ
  have k__truth := keep__truth hZ
  show RC Z 2 127 [Str.ofString "newline"] (runDef 2 5 [] cB2aBase64)
  refine' rc_def (n := 2) (m := 5) (dfl := []) (k := 1) (S := ⟨?sc, [Str.ofString "data", Str.ofString "newline", Str.ofString "bin_data", Str.ofString "out", Str.ofString "leftbits", Str.ofString "leftchar", Str.ofString "b"], []⟩) (pn := [Str.ofString "data", Str.ofString "newline"]) (rest := [Str.ofString "bin_data", Str.ofString "out", Str.ofString "leftbits", Str.ofString "leftchar", Str.ofString "b"]) (dv := []) ?ho ?hcd ?hsc ?hk ?hv ?hvn ?hfree rfl rfl ?hnd ?hkind ?hdv ?hbind ?R ?hco ?hgen
  case ho => rw [hZ]; exact rfl
  case hcd => rw [hZ]; kernel_rfl
  case hsc => exact rfl
  case hk => rfl
  case hv => rfl
  case hvn => decide
  case hfree => decide
  case hnd => decide
  case hkind => decide
  case hco => rfl
  case hgen => rfl
  case hdv => exact fun _ _ _ => .nil
  case hbind => exact bindK (fun _ _ => rfl)
  case R =>
    unfold cB2aBase64
    repeat' (first
    | (with_reducible exact rs_nil)
    | (with_reducible refine rs_cons ?_ ?_)
    | ((with_reducible refine rs_assign' ?_ ?b ?c); (case b => kernel_rfl); (case c => first | exact fun _ _ => rfl | exact fun env h => by simp only [swapsWith, Env.blockKind, Env.kindOf, h]; rfl))
    | ((with_reducible refine rs_new' ?_ ?b ?c); (case b => kernel_rfl); (case c => exact fun _ => rfl))
    | (with_reducible refine rn_list ?_)
    | (with_reducible refine rs_while ?_ ?_)
    | (with_reducible refine rs_if ?_ ?_ ?_)
    | ((with_reducible refine rs_for ?_ ?_ ?_ ?c); case c => exact fun _ _ => rfl)
    | ((with_reducible refine rs_meth (kws := []) sc_append (mo_list F.slot_list_append F.type_list_append) ?_ ?_ ?_ ?a ?b ?c ?d ?e); (case a => rfl); (case b => rfl); (case c => exact ⟨.inr ⟨_, _, rfl, fun _ => rfl⟩, fun _ => rfl⟩); (case d => exact gl0); (case e => exact fun _ => rfl))
    | (with_reducible refine rs_ret ?_)
    | ((with_reducible refine rp_loc' ?a); case a => kernel_rfl)
    | (with_reducible exact rp_int)
    | (with_reducible exact rp_bool)
    | ((with_reducible refine rp_globK ?a ?b); (case a => kernel_rfl); (case b => assumption))
    | ((with_reducible refine rp_bltK ?a ?b ?c); (case a => kernel_rfl); (case b => assumption); (case c => boot_fact))
    | ((with_reducible refine rp_globBK (b := b64A) (t := 307) ?a ?b rfl); (case a => kernel_rfl); (case b => assumption))
    | ((with_reducible refine rp_item ?_ ?_ ?c); case c => exact fun _ _ => rfl)
    | (with_reducible refine rp_bin ?_ ?_ op_add)
    | (with_reducible refine rp_bin ?_ ?_ op_sub)
    | (with_reducible refine rp_bin ?_ ?_ op_shr)
    | (with_reducible refine rp_bin ?_ ?_ op_shl)
    | (with_reducible refine rp_bin ?_ ?_ op_and)
    | (with_reducible refine rp_bin ?_ ?_ op_or)
    | ((with_reducible refine rp_call (by assumption) ?k (by assumption) ?_ ?_ ?_ ?a ?b ?c ?d); (case k => decide); (case a => rfl); (case b => rfl); (case c => exact ⟨.inr ⟨_, _, rfl, fun _ => rfl⟩, fun _ => rfl⟩); (case d => first | exact gl0 | exact gl1))
    | ((with_reducible refine rp_bcall (kws := []) bc_bytes (keep_type _) ?_ ?_ ?_ ?a ?b ?c ?d); (case a => rfl); (case b => rfl); (case c => exact ⟨.inr ⟨_, _, rfl, fun _ => rfl⟩, fun _ => rfl⟩); (case d => exact gl0))
    | (with_reducible exact rps_nil)
    | ((with_reducible refine rps_cons ?_ ?_ ?c); case c => exact fun _ => rfl)
    | (with_reducible exact rks_nil)
    | (with_reducible refine rks_cons ?_ ?_)
    | (with_reducible refine ri_bytes ?_)
    | ((with_reducible refine tgt_name' ?a); case a => kernel_rfl)
    | ((with_reducible refine rt_cmp ?_ ?_ op_ge ?c); case c => rfl)
    | ((with_reducible refine rt_cmp ?_ ?_ op_eq ?c); case c => rfl)
    | ((with_reducible refine rt_val ?_ ?c); case c => exact fun _ _ => rfl))


set_option maxHeartbeats 8000000 in
theorem rc_B64encode (hZ : Z.K = KK Z.w.params) : RC Z 3 135 [] dB64encode := by
  have n_b2a_base64 := fact_b2a_base64 hZ
  have n_len := fact_len hZ
  have c_b2a_base64 := @rc_B2aBase64 Z hZ
  have k_b2a_base64 := keep_b2a_base64 hZ
  show RC Z 3 135 [] (runDef 1 1 [.none] cB64encode)
  refine' rc_def (n := 1) (m := 1) (dfl := [.none]) (k := 2) (S := ⟨?sc, [Str.ofString "s", Str.ofString "altchars", Str.ofString "encoded"], []⟩) (pn := [Str.ofString "s", Str.ofString "altchars"]) (rest := [Str.ofString "encoded"]) (dv := [.none]) ?ho ?hcd ?hsc ?hk ?hv ?hvn ?hfree rfl rfl ?hnd ?hkind ?hdv ?hbind ?R ?hco ?hgen
  case ho => rw [hZ]; exact rfl
  case hcd => rw [hZ]; kernel_rfl
  case hsc => exact rfl
  case hk => rfl
  case hv => rfl
  case hvn => decide
  case hfree => decide
  case hnd => decide
  case hkind => decide
  case hco => rfl
  case hgen => rfl
  case hdv => exact fun _ _ _ => (.cons .none .nil)
  case hbind =>
    intro s args kvs h1 h2 hb
    obtain rfl : kvs = [] := List.length_eq_zero_iff.mp h2
    match args, h1 with
    | [a], _ => exact BindsTo.of_defaults rfl (hb _ _ (Z.X _ _ (by rw [hZ]; exact rfl))) rfl rfl rfl
  case R =>
    unfold cB64encode
    repeat' (first
    | (with_reducible exact rss_no)
    | (with_reducible exact rs_nil)
    | (with_reducible refine rs_cons ?_ ?_)
    | ((with_reducible refine rs_assign' ?_ ?b ?c); (case b => kernel_rfl); (case c => first | exact fun _ _ => rfl | exact fun env h => by simp only [swapsWith, Env.blockKind, Env.kindOf, h]; rfl))
    | (with_reducible refine rs_if ?_ ?_ ?_)
    | (with_reducible refine rs_ret ?_)
    | (with_reducible exact rst_no)
    | ((with_reducible refine rp_loc' ?a); case a => kernel_rfl)
    | (with_reducible exact rp_bool)
    | (with_reducible exact rp_none)
    | ((with_reducible refine rp_globK ?a ?b); (case a => kernel_rfl); (case b => assumption))
    | ((with_reducible refine rp_call (by assumption) ?k (by assumption) ?_ ?_ ?_ ?a ?b ?c ?d); (case k => decide); (case a => rfl); (case b => rfl); (case c => exact ⟨.inr ⟨_, _, rfl, fun _ => rfl⟩, fun _ => rfl⟩); (case d => first | exact gl0 | exact gl1))
    | (with_reducible exact rps_nil)
    | ((with_reducible refine rps_cons ?_ ?_ ?c); case c => exact fun _ => rfl)
    | (with_reducible exact rks_nil)
    | (with_reducible refine rks_cons ?_ ?_)
    | ((with_reducible refine rt_cmp ?_ ?_ op_isNot ?c); case c => rfl))


set_option maxHeartbeats 8000000 in
theorem rc_B64decode (hZ : Z.K = KK Z.w.params) : RC Z 3 143 [] dB64decode := by
  have n__bytes_from_decode_data := fact__bytes_from_decode_data hZ
  have n_a2b_base64 := fact_a2b_base64 hZ
  have n_len := fact_len hZ
  have c__bytes_from_decode_data := @rc_BytesFromDecodeData Z hZ
  have k__bytes_from_decode_data := keep__bytes_from_decode_data hZ
  have c_a2b_base64 := @rc_A2bBase64 Z hZ
  have k_a2b_base64 := keep_a2b_base64 hZ
  show RC Z 3 143 [] (runDef 1 0 [.none, .bool false] cB64decode)
  refine' rc_def (n := 1) (m := 0) (dfl := [.none, .bool false]) (k := 2) (S := ⟨?sc, [Str.ofString "s", Str.ofString "altchars", Str.ofString "validate"], []⟩) (pn := [Str.ofString "s", Str.ofString "altchars", Str.ofString "validate"]) (rest := []) (dv := [.none, .bool false]) ?ho ?hcd ?hsc ?hk ?hv ?hvn ?hfree rfl rfl ?hnd ?hkind ?hdv ?hbind ?R ?hco ?hgen
  case ho => rw [hZ]; exact rfl
  case hcd => rw [hZ]; kernel_rfl
  case hsc => exact rfl
  case hk => rfl
  case hv => rfl
  case hvn => decide
  case hfree => decide
  case hnd => decide
  case hkind => decide
  case hco => rfl
  case hgen => rfl
  case hdv => exact fun _ _ _ => (.cons .none (.cons (.bool _) .nil))
  case hbind =>
    intro s args kvs h1 h2 hb
    obtain rfl : kvs = [] := List.length_eq_zero_iff.mp h2
    match args, h1 with
    | [a], _ => exact BindsTo.of_defaults rfl (hb _ _ (Z.X _ _ (by rw [hZ]; exact rfl))) rfl rfl rfl
  case R =>
    unfold cB64decode
    repeat' (first
    | (with_reducible exact rss_no)
    | (with_reducible exact rs_nil)
    | (with_reducible refine rs_cons ?_ ?_)
    | ((with_reducible refine rs_assign' ?_ ?b ?c); (case b => kernel_rfl); (case c => first | exact fun _ _ => rfl | exact fun env h => by simp only [swapsWith, Env.blockKind, Env.kindOf, h]; rfl))
    | (with_reducible refine rs_if ?_ ?_ ?_)
    | (with_reducible refine rs_ret ?_)
    | (with_reducible exact rst_no)
    | ((with_reducible refine rp_loc' ?a); case a => kernel_rfl)
    | (with_reducible exact rp_none)
    | ((with_reducible refine rp_globK ?a ?b); (case a => kernel_rfl); (case b => assumption))
    | ((with_reducible refine rp_call (by assumption) ?k (by assumption) ?_ ?_ ?_ ?a ?b ?c ?d); (case k => decide); (case a => rfl); (case b => rfl); (case c => exact ⟨.inr ⟨_, _, rfl, fun _ => rfl⟩, fun _ => rfl⟩); (case d => first | exact gl0 | exact gl1))
    | (with_reducible exact rps_nil)
    | ((with_reducible refine rps_cons ?_ ?_ ?c); case c => exact fun _ => rfl)
    | (with_reducible exact rks_nil)
    | (with_reducible refine rks_cons ?_ ?_)
    | ((with_reducible refine rt_cmp ?_ ?_ op_isNot ?c); case c => rfl))


set_option maxHeartbeats 8000000 in
theorem rc_LawOctets (hZ : Z.K = KK Z.w.params) : RC Z 1 157 [] dLawOctets := by
  show RC Z 1 157 [] (runDef 1 1 [] cLawOctets)
  refine' rc_def (n := 1) (m := 1) (dfl := []) (k := 0) (S := ⟨?sc, [Str.ofString "number", Str.ofString "octets"], []⟩) (pn := [Str.ofString "number"]) (rest := [Str.ofString "octets"]) (dv := []) ?ho ?hcd ?hsc ?hk ?hv ?hvn ?hfree rfl rfl ?hnd ?hkind ?hdv ?hbind ?R ?hco ?hgen
  case ho => rw [hZ]; exact rfl
  case hcd => rw [hZ]; kernel_rfl
  case hsc => exact rfl
  case hk => rfl
  case hv => rfl
  case hvn => decide
  case hfree => decide
  case hnd => decide
  case hkind => decide
  case hco => rfl
  case hgen => rfl
  case hdv => exact fun _ _ _ => .nil
  case hbind => exact bind1 (fun _ => rfl)
  case R =>
    unfold cLawOctets
    repeat' (first
    | (with_reducible exact rs_nil)
    | (with_reducible refine rs_cons ?_ ?_)
    | ((with_reducible refine rs_assign' ?_ ?b ?c); (case b => kernel_rfl); (case c => first | exact fun _ _ => rfl | exact fun env h => by simp only [swapsWith, Env.blockKind, Env.kindOf, h]; rfl))
    | ((with_reducible refine rs_new' ?_ ?b ?c); (case b => kernel_rfl); (case c => exact fun _ => rfl))
    | (with_reducible refine rn_list ?_)
    | (with_reducible refine rs_while ?_ ?_)
    | ((with_reducible refine rs_meth (kws := []) sc_insert (mo_list F.slot_list_insert F.type_list_insert) ?_ ?_ ?_ ?a ?b ?c ?d ?e); (case a => rfl); (case b => rfl); (case c => exact ⟨.inr ⟨_, _, rfl, fun _ => rfl⟩, fun _ => rfl⟩); (case d => exact gl0); (case e => exact fun _ => rfl))
    | (with_reducible refine rs_ret ?_)
    | ((with_reducible refine rp_loc' ?a); case a => kernel_rfl)
    | (with_reducible exact rp_int)
    | (with_reducible refine rp_bin ?_ ?_ op_add)
    | (with_reducible refine rp_bin ?_ ?_ op_div)
    | (with_reducible refine rp_bin ?_ ?_ op_mod)
    | (with_reducible exact rps_nil)
    | ((with_reducible refine rps_cons ?_ ?_ ?c); case c => exact fun _ => rfl)
    | (with_reducible exact rks_nil)
    | (with_reducible refine rks_cons ?_ ?_)
    | ((with_reducible refine rt_cmp ?_ ?_ op_gt ?c); case c => rfl))


set_option maxHeartbeats 8000000 in
theorem rc_LawText (hZ : Z.K = KK Z.w.params) : RC Z 4 162 [] dLawText := by
  have n_b64encode := fact_b64encode hZ
  have n_bytes := fact_bytes hZ
  have n_sorted := fact_sorted hZ
  have n__law_octets := fact__law_octets hZ
  have c_b64encode := @rc_B64encode Z hZ
  have k_b64encode := keep_b64encode hZ
  have c__law_octets := @rc_LawOctets Z hZ
  have k__law_octets := keep__law_octets hZ
  show RC Z 4 162 [] (runDef 1 1 [] cLawText)
  refine' rc_def (n := 1) (m := 1) (dfl := []) (k := 3) (S := ⟨?sc, [Str.ofString "table", Str.ofString "numbers"], [Str.ofString "table"]⟩) (pn := [Str.ofString "table"]) (rest := [Str.ofString "numbers"]) (dv := []) ?ho ?hcd ?hsc ?hk ?hv ?hvn ?hfree rfl rfl ?hnd ?hkind ?hdv ?hbind ?R ?hco ?hgen
  case ho => rw [hZ]; exact rfl
  case hcd => rw [hZ]; kernel_rfl
  case hsc => exact rfl
  case hk => rfl
  case hv => rfl
  case hvn => decide
  case hfree => decide
  case hnd => decide
  case hkind => decide
  case hco => rfl
  case hgen => rfl
  case hdv => exact fun _ _ _ => .nil
  case hbind => exact bind1 (fun _ => rfl)
  case R =>
    unfold cLawText
    repeat' (first
    | (with_reducible exact rs_nil)
    | (with_reducible refine rs_cons ?_ ?_)
    | ((with_reducible refine rs_lc1 (tup := false) (tg := tgName _) ?n ?_ ?_ ?_ ?_ ?c ?d ?e ?f); (case n => kernel_rfl); (case c => exact fun _ _ => rfl); (case d => exact fun env h => by simp only [swapsWith, Env.blockKind, Env.kindOf, h]; rfl); (case e => rfl); (case f => kernel_rfl))
    | ((with_reducible refine rs_lc2 (tup := false) (tup2 := false) ?n ?_ ?_ ?_ ?_ ?_ ?_ ?_ ?c ?c2 ?d ?e ?f); (case n => kernel_rfl); (case c => exact fun _ _ => rfl); (case c2 => exact fun _ _ => rfl); (case d => exact fun env h => by simp only [swapsWith, Env.blockKind, Env.kindOf, h]; rfl); (case e => rfl); (case f => kernel_rfl))
    | ((with_reducible refine rs_assign' ?_ ?b ?c); (case b => kernel_rfl); (case c => first | exact fun _ _ => rfl | exact fun env h => by simp only [swapsWith, Env.blockKind, Env.kindOf, h]; rfl))
    | (with_reducible refine rs_ret ?_)
    | ((with_reducible refine rp_loc' ?a); case a => kernel_rfl)
    | ((with_reducible refine rp_globK ?a ?b); (case a => kernel_rfl); (case b => assumption))
    | ((with_reducible refine rp_bltK ?a ?b ?c); (case a => kernel_rfl); (case b => assumption); (case c => boot_fact))
    | ((with_reducible refine rp_item ?_ ?_ ?c); case c => exact fun _ _ => rfl)
    | ((with_reducible refine rp_call (by assumption) ?k (by assumption) ?_ ?_ ?_ ?a ?b ?c ?d); (case k => decide); (case a => rfl); (case b => rfl); (case c => exact ⟨.inr ⟨_, _, rfl, fun _ => rfl⟩, fun _ => rfl⟩); (case d => first | exact gl0 | exact gl1))
    | ((with_reducible refine rp_bcall (kws := []) bc_sorted (keep_builtin _) ?_ ?_ ?_ ?a ?b ?c ?d); (case a => rfl); (case b => rfl); (case c => exact ⟨.inr ⟨_, _, rfl, fun _ => rfl⟩, fun _ => rfl⟩); (case d => exact gl0))
    | ((with_reducible refine rp_bcall (kws := []) bc_bytes (keep_type _) ?_ ?_ ?_ ?a ?b ?c ?d); (case a => rfl); (case b => rfl); (case c => exact ⟨.inr ⟨_, _, rfl, fun _ => rfl⟩, fun _ => rfl⟩); (case d => exact gl0))
    | (with_reducible refine rp_lst ?_)
    | ((with_reducible refine rp_lc1 (tup := false) (tg := tgName _) ?n ?_ ?_ ?_ ?_ ?c); (case n => kernel_rfl); (case c => exact fun _ _ => rfl))
    | ((with_reducible refine rp_lc2 (tup := false) (tup2 := false) ?n ?_ ?_ ?_ ?_ ?_ ?_ ?_ ?c ?d); (case n => kernel_rfl); (case c => exact fun _ _ => rfl); (case d => exact fun _ _ => rfl))
    | (with_reducible exact rps_nil)
    | ((with_reducible refine rps_cons ?_ ?_ ?c); case c => exact fun _ => rfl)
    | (with_reducible exact rks_nil)
    | (with_reducible refine rks_cons ?_ ?_)
    | (with_reducible refine ri_lst ?_)
    | ((with_reducible refine tgt_name' ?a); case a => kernel_rfl)
    | (with_reducible exact rifs_nil)
    | (with_reducible refine rifs_one ?_))


set_option maxHeartbeats 8000000 in
theorem rc_LawCome (hZ : Z.K = KK Z.w.params) : RC Z 4 174 [] dLawCome := by
  have n_heapify := fact_heapify hZ
  have n_range := fact_range hZ
  have n_len := fact_len hZ
  have n_heappush := fact_heappush hZ
  have n_heapreplace := fact_heapreplace hZ
  have c_heapify := @rc_Heapify Z hZ
  have k_heapify := keep_heapify hZ
  have c_heappush := @rc_Heappush Z hZ
  have k_heappush := keep_heappush hZ
  have c_heapreplace := @rc_Heapreplace Z hZ
  have k_heapreplace := keep_heapreplace hZ
  show RC Z 4 174 [] (runDef 3 1 [] cLawCome)
  refine' rc_def (n := 3) (m := 1) (dfl := []) (k := 3) (S := ⟨?sc, [Str.ofString "width", Str.ofString "heap", Str.ofString "word", Str.ofString "places"], [Str.ofString "heap", Str.ofString "word"]⟩) (pn := [Str.ofString "width", Str.ofString "heap", Str.ofString "word"]) (rest := [Str.ofString "places"]) (dv := []) ?ho ?hcd ?hsc ?hk ?hv ?hvn ?hfree rfl rfl ?hnd ?hkind ?hdv ?hbind ?R ?hco ?hgen
  case ho => rw [hZ]; exact rfl
  case hcd => rw [hZ]; kernel_rfl
  case hsc => exact rfl
  case hk => rfl
  case hv => rfl
  case hvn => decide
  case hfree => decide
  case hnd => decide
  case hkind => decide
  case hco => rfl
  case hgen => rfl
  case hdv => exact fun _ _ _ => .nil
  case hbind => exact bind3 (fun _ _ _ => rfl)
  case R =>
    unfold cLawCome
    repeat' (first
    | (with_reducible exact rs_nil)
    | (with_reducible refine rs_cons ?_ ?_)
    | ((with_reducible refine rs_lc1 (tup := false) (tg := tgName _) ?n ?_ ?_ ?_ ?_ ?c ?d ?e ?f); (case n => kernel_rfl); (case c => exact fun _ _ => rfl); (case d => exact fun env h => by simp only [swapsWith, Env.blockKind, Env.kindOf, h]; rfl); (case e => rfl); (case f => kernel_rfl))
    | ((with_reducible refine rs_assign' ?_ ?b ?c); (case b => kernel_rfl); (case c => first | exact fun _ _ => rfl | exact fun env h => by simp only [swapsWith, Env.blockKind, Env.kindOf, h]; rfl))
    | (with_reducible refine rs_if ?_ ?_ ?_)
    | ((with_reducible refine rs_set ?_ ?_ ?_ ?c); case c => exact fun _ => rfl)
    | ((with_reducible refine rs_call (by assumption) ?k (by assumption) ?_ ?_ ?c); (case k => decide); (case c => exact ⟨.inr ⟨_, _, rfl, fun _ => rfl⟩, fun _ => rfl⟩))
    | ((with_reducible refine rp_loc' ?a); case a => kernel_rfl)
    | (with_reducible exact rp_int)
    | ((with_reducible refine rp_globK ?a ?b); (case a => kernel_rfl); (case b => assumption))
    | ((with_reducible refine rp_bltK ?a ?b ?c); (case a => kernel_rfl); (case b => assumption); (case c => boot_fact))
    | ((with_reducible refine rp_item ?_ ?_ ?c); case c => exact fun _ _ => rfl)
    | (with_reducible refine rp_bin ?_ ?_ op_add)
    | ((with_reducible refine rp_bcall (kws := []) bc_len (keep_builtin _) ?_ ?_ ?_ ?a ?b ?c ?d); (case a => rfl); (case b => rfl); (case c => exact ⟨.inr ⟨_, _, rfl, fun _ => rfl⟩, fun _ => rfl⟩); (case d => exact gl0))
    | (with_reducible refine rp_tup ?_)
    | (with_reducible refine rp_lst ?_)
    | ((with_reducible refine rp_lc1 (tup := false) (tg := tgName _) ?n ?_ ?_ ?_ ?_ ?c); (case n => kernel_rfl); (case c => exact fun _ _ => rfl))
    | (with_reducible exact rps_nil)
    | ((with_reducible refine rps_cons ?_ ?_ ?c); case c => exact fun _ => rfl)
    | (with_reducible exact rks_nil)
    | (with_reducible refine rks_cons ?_ ?_)
    | ((with_reducible refine ri_range ?_ ?_ ?c); case c => exact fun _ => rfl)
    | ((with_reducible refine tgt_name' ?a); case a => kernel_rfl)
    | (with_reducible refine rifs_one ?_)
    | ((with_reducible refine rt_cmp ?_ ?_ op_le ?c); case c => rfl)
    | ((with_reducible refine rt_cmp ?_ ?_ op_eq ?c); case c => rfl)
    | ((with_reducible refine rt_cmp ?_ ?_ op_ne ?c); case c => rfl))


set_option maxHeartbeats 8000000 in
theorem rc_LawAbove (hZ : Z.K = KK Z.w.params) : RC Z 1 179 [] dLawAbove := by
  have n_len := fact_len hZ
  show RC Z 1 179 [] (runDef 2 1 [] cLawAbove)
  refine' rc_def (n := 2) (m := 1) (dfl := []) (k := 0) (S := ⟨?sc, [Str.ofString "width", Str.ofString "heap", Str.ofString "least"], [Str.ofString "least"]⟩) (pn := [Str.ofString "width", Str.ofString "heap"]) (rest := [Str.ofString "least"]) (dv := []) ?ho ?hcd ?hsc ?hk ?hv ?hvn ?hfree rfl rfl ?hnd ?hkind ?hdv ?hbind ?R ?hco ?hgen
  case ho => rw [hZ]; exact rfl
  case hcd => rw [hZ]; kernel_rfl
  case hsc => exact rfl
  case hk => rfl
  case hv => rfl
  case hvn => decide
  case hfree => decide
  case hnd => decide
  case hkind => decide
  case hco => rfl
  case hgen => rfl
  case hdv => exact fun _ _ _ => .nil
  case hbind => exact bind2 (fun _ _ => rfl)
  case R =>
    unfold cLawAbove
    repeat' (first
    | (with_reducible exact rs_nil)
    | (with_reducible refine rs_cons ?_ ?_)
    | ((with_reducible refine rs_assign' ?_ ?b ?c); (case b => kernel_rfl); (case c => first | exact fun _ _ => rfl | exact fun env h => by simp only [swapsWith, Env.blockKind, Env.kindOf, h]; rfl))
    | (with_reducible refine rs_ret ?_)
    | ((with_reducible refine rp_loc' ?a); case a => kernel_rfl)
    | (with_reducible exact rp_int)
    | ((with_reducible refine rp_bltK ?a ?b ?c); (case a => kernel_rfl); (case b => assumption); (case c => boot_fact))
    | ((with_reducible refine rp_item ?_ ?_ ?c); case c => exact fun _ _ => rfl)
    | (with_reducible refine rp_bin ?_ ?_ op_sub)
    | ((with_reducible refine rp_bcall (kws := []) bc_len (keep_builtin _) ?_ ?_ ?_ ?a ?b ?c ?d); (case a => rfl); (case b => rfl); (case c => exact ⟨.inr ⟨_, _, rfl, fun _ => rfl⟩, fun _ => rfl⟩); (case d => exact gl0))
    | (with_reducible refine rp_if ?_ ?_ ?_)
    | ((with_reducible refine rp_dc1 (tup := false) (tg := tgName _) ?n ?_ ?_ ?_ ?_ ?_ ?c); (case n => kernel_rfl); (case c => exact fun _ _ => rfl))
    | ((with_reducible refine rp_dc1 (tup := true) (tg := tgPair _ _) ?n ?_ ?_ ?_ ?_ ?_ ?c); (case n => kernel_rfl); (case c => exact fun _ _ => rfl))
    | (with_reducible exact rps_nil)
    | ((with_reducible refine rps_cons ?_ ?_ ?c); case c => exact fun _ => rfl)
    | (with_reducible exact rks_nil)
    | (with_reducible refine rks_cons ?_ ?_)
    | (with_reducible refine ri_lst ?_)
    | ((with_reducible refine tgt_pair' ?a ?b); (case a => kernel_rfl); (case b => kernel_rfl))
    | (with_reducible refine rifs_one ?_)
    | ((with_reducible refine rt_cmp ?_ ?_ op_gt ?c); case c => rfl))


set_option maxHeartbeats 8000000 in
theorem rc_LawPlain (hZ : Z.K = KK Z.w.params) : RC Z 1 184 [] dLawPlain := by
  have n_len := fact_len hZ
  have n_list := fact_list hZ
  show RC Z 1 184 [] (runDef 3 0 [] cLawPlain)
  refine' rc_def (n := 3) (m := 0) (dfl := []) (k := 0) (S := ⟨?sc, [Str.ofString "width", Str.ofString "table", Str.ofString "word"], [Str.ofString "table", Str.ofString "word"]⟩) (pn := [Str.ofString "width", Str.ofString "table", Str.ofString "word"]) (rest := []) (dv := []) ?ho ?hcd ?hsc ?hk ?hv ?hvn ?hfree rfl rfl ?hnd ?hkind ?hdv ?hbind ?R ?hco ?hgen
  case ho => rw [hZ]; exact rfl
  case hcd => rw [hZ]; kernel_rfl
  case hsc => exact rfl
  case hk => rfl
  case hv => rfl
  case hvn => decide
  case hfree => decide
  case hnd => decide
  case hkind => decide
  case hco => rfl
  case hgen => rfl
  case hdv => exact fun _ _ _ => .nil
  case hbind => exact bind3 (fun _ _ _ => rfl)
  case R =>
    unfold cLawPlain
    repeat' (first
    | (with_reducible exact rs_nil)
    | (with_reducible refine rs_cons ?_ ?_)
    | (with_reducible refine rs_if ?_ ?_ ?_)
    | (with_reducible refine rs_ret ?_)
    | ((with_reducible refine rp_loc' ?a); case a => kernel_rfl)
    | (with_reducible exact rp_int)
    | ((with_reducible refine rp_bltK ?a ?b ?c); (case a => kernel_rfl); (case b => assumption); (case c => boot_fact))
    | ((with_reducible refine rp_item ?_ ?_ ?c); case c => exact fun _ _ => rfl)
    | (with_reducible refine rp_bin ?_ ?_ op_add)
    | (with_reducible refine rp_bin ?_ ?_ op_sub)
    | ((with_reducible refine rp_meth bc_get (mo_dict F.slot_dict_get F.type_dict_get) ?_ ?_ ?c ?d); (case c => exact ⟨.inr ⟨_, _, rfl, fun _ => rfl⟩, fun _ => rfl⟩); (case d => exact fun _ => rfl))
    | ((with_reducible refine rp_bcall (kws := []) bc_len (keep_builtin _) ?_ ?_ ?_ ?a ?b ?c ?d); (case a => rfl); (case b => rfl); (case c => exact ⟨.inr ⟨_, _, rfl, fun _ => rfl⟩, fun _ => rfl⟩); (case d => exact gl0))
    | ((with_reducible refine rp_bcall (kws := []) bc_list (keep_type _) ?_ ?_ ?_ ?a ?b ?c ?d); (case a => rfl); (case b => rfl); (case c => exact ⟨.inr ⟨_, _, rfl, fun _ => rfl⟩, fun _ => rfl⟩); (case d => exact gl0))
    | (with_reducible refine rp_if ?_ ?_ ?_)
    | (with_reducible refine rp_lst ?_)
    | ((with_reducible refine rp_dc1 (tup := false) (tg := tgName _) ?n ?_ ?_ ?_ ?_ ?_ ?c); (case n => kernel_rfl); (case c => exact fun _ _ => rfl))
    | (with_reducible exact rps_nil)
    | ((with_reducible refine rps_cons ?_ ?_ ?c); case c => exact fun _ => rfl)
    | (with_reducible exact rks_nil)
    | (with_reducible refine rks_cons ?_ ?_)
    | (with_reducible refine ri_lst ?_)
    | (with_reducible refine ri_dct ?_)
    | ((with_reducible refine tgt_name' ?a); case a => kernel_rfl)
    | (with_reducible exact rifs_nil)
    | (with_reducible refine rifs_one ?_)
    | ((with_reducible refine rt_cmp ?_ ?_ op_gt ?c); case c => rfl)
    | ((with_reducible refine rt_cmp ?_ ?_ op_lt ?c); case c => rfl)
    | ((with_reducible refine rt_cmp ?_ ?_ op_eq ?c); case c => rfl)
    | ((with_reducible refine rt_cmp ?_ ?_ op_in ?c); case c => rfl)
    | (with_reducible exact rt_or_nil)
    | (with_reducible refine rt_or ?_ ?_))


set_option maxHeartbeats 8000000 in
theorem rc_LawStream (hZ : Z.K = KK Z.w.params) : RC Z 5 191 [] dLawStream := by
  have n__law_come := fact__law_come hZ
  have n__law_plain := fact__law_plain hZ
  have n__law_text := fact__law_text hZ
  have n__law_above := fact__law_above hZ
  have c__law_come := @rc_LawCome Z hZ
  have k__law_come := keep__law_come hZ
  have c__law_plain := @rc_LawPlain Z hZ
  have k__law_plain := keep__law_plain hZ
  have c__law_text := @rc_LawText Z hZ
  have k__law_text := keep__law_text hZ
  have c__law_above := @rc_LawAbove Z hZ
  have k__law_above := keep__law_above hZ
  show RC Z 5 191 [] (runDef 2 4 [] cLawStream)
  refine' rc_def (n := 2) (m := 4) (dfl := []) (k := 4) (S := ⟨?sc, [Str.ofString "width", Str.ofString "words", Str.ofString "heap", Str.ofString "table", Str.ofString "right", Str.ofString "word"], []⟩) (pn := [Str.ofString "width", Str.ofString "words"]) (rest := [Str.ofString "heap", Str.ofString "table", Str.ofString "right", Str.ofString "word"]) (dv := []) ?ho ?hcd ?hsc ?hk ?hv ?hvn ?hfree rfl rfl ?hnd ?hkind ?hdv ?hbind ?R ?hco ?hgen
  case ho => rw [hZ]; exact rfl
  case hcd => rw [hZ]; kernel_rfl
  case hsc => exact rfl
  case hk => rfl
  case hv => rfl
  case hvn => decide
  case hfree => decide
  case hnd => decide
  case hkind => decide
  case hco => rfl
  case hgen => rfl
  case hdv => exact fun _ _ _ => .nil
  case hbind => exact bind2 (fun _ _ => rfl)
  case R =>
    unfold cLawStream
    repeat' (first
    | (with_reducible exact rs_nil)
    | (with_reducible refine rs_cons ?_ ?_)
    | ((with_reducible refine rs_assign' ?_ ?b ?c); (case b => kernel_rfl); (case c => first | exact fun _ _ => rfl | exact fun env h => by simp only [swapsWith, Env.blockKind, Env.kindOf, h]; rfl))
    | ((with_reducible refine rs_for ?_ ?_ ?_ ?c); case c => exact fun _ _ => rfl)
    | ((with_reducible refine rs_init ?a ?b ?c ?d ?e); (case a => kernel_rfl); (case b => kernel_rfl); (case c => kernel_rfl); (case d => exact fun _ => rfl); (case e => exact fun env h => by simp only [swappedStores, Env.blockKind, Env.kindOf, h]; rfl))
    | ((with_reducible refine rs_call (by assumption) ?k (by assumption) ?_ ?_ ?c); (case k => decide); (case c => exact ⟨.inr ⟨_, _, rfl, fun _ => rfl⟩, fun _ => rfl⟩))
    | (with_reducible refine rs_ret ?_)
    | ((with_reducible refine rp_loc' ?a); case a => kernel_rfl)
    | ((with_reducible refine rp_globK ?a ?b); (case a => kernel_rfl); (case b => assumption))
    | ((with_reducible refine rp_cmp ?_ ?_ op_eq ?c); case c => rfl)
    | ((with_reducible refine rp_call (by assumption) ?k (by assumption) ?_ ?_ ?_ ?a ?b ?c ?d); (case k => decide); (case a => rfl); (case b => rfl); (case c => exact ⟨.inr ⟨_, _, rfl, fun _ => rfl⟩, fun _ => rfl⟩); (case d => first | exact gl0 | exact gl1))
    | ((with_reducible refine rp_callv (by assumption) ?k (by assumption) ?_ ?_ ?_ ?a ?b ?c ?d); (case k => decide); (case a => rfl); (case b => rfl); (case c => exact ⟨.inr ⟨_, _, rfl, fun _ => rfl⟩, fun _ => rfl⟩); (case d => first | exact gl0 | exact gl1))
    | (with_reducible refine rp_and ?_ ?_)
    | (with_reducible refine rp_one ?_)
    | (with_reducible refine rp_tup ?_)
    | (with_reducible exact rps_nil)
    | ((with_reducible refine rps_cons ?_ ?_ ?c); case c => exact fun _ => rfl)
    | (with_reducible exact rks_nil)
    | (with_reducible refine rks_cons ?_ ?_)
    | (with_reducible refine ri_lst ?_)
    | ((with_reducible refine tgt_name' ?a); case a => kernel_rfl))


set_option maxHeartbeats 8000000 in
theorem rc_ParseVarint (hZ : Z.K = KK Z.w.params) : RC Z 1 150 [] dParseVarint := by
  have n_next := fact_next hZ
  show RC Z 1 150 [] (runDef 1 2 [] cParseVarint)
  refine' rc_def (n := 1) (m := 2) (dfl := []) (k := 0) (S := ⟨?sc, [Str.ofString "iterator", Str.ofString "b", Str.ofString "val"], []⟩) (pn := [Str.ofString "iterator"]) (rest := [Str.ofString "b", Str.ofString "val"]) (dv := []) ?ho ?hcd ?hsc ?hk ?hv ?hvn ?hfree rfl rfl ?hnd ?hkind ?hdv ?hbind ?R ?hco ?hgen
  case ho => rw [hZ]; exact rfl
  case hcd => rw [hZ]; kernel_rfl
  case hsc => exact rfl
  case hk => rfl
  case hv => rfl
  case hvn => decide
  case hfree => decide
  case hnd => decide
  case hkind => decide
  case hco => rfl
  case hgen => rfl
  case hdv => exact fun _ _ _ => .nil
  case hbind => exact bind1 (fun _ => rfl)
  case R =>
    unfold cParseVarint
    repeat' (first
    | (with_reducible exact rs_nil)
    | (with_reducible refine rs_cons ?_ ?_)
    | ((with_reducible refine rs_assign' ?_ ?b ?c); (case b => kernel_rfl); (case c => first | exact fun _ _ => rfl | exact fun env h => by simp only [swapsWith, Env.blockKind, Env.kindOf, h]; rfl))
    | (with_reducible refine rs_while ?_ ?_)
    | ((with_reducible refine rs_aug' ?_ op_ishl ?a); case a => kernel_rfl)
    | ((with_reducible refine rs_aug' ?_ op_ior ?a); case a => kernel_rfl)
    | ((with_reducible refine rs_next ?_ ?_ ?a ?b ?c); (case a => exact fun _ => rfl); (case b => kernel_rfl); (case c => exact fun _ => rfl))
    | (with_reducible refine rs_ret ?_)
    | ((with_reducible refine rp_loc' ?a); case a => kernel_rfl)
    | (with_reducible exact rp_int)
    | ((with_reducible refine rp_bltK ?a ?b ?c); (case a => kernel_rfl); (case b => assumption); (case c => boot_fact))
    | (with_reducible refine rp_bin ?_ ?_ op_and)
    | ((with_reducible refine rt_val ?_ ?c); case c => exact fun _ _ => rfl))

set_option maxHeartbeats 8000000 in
theorem rx_ParseVarint (hZ : Z.K = KK Z.w.params) : RX Z 1 150 := by
  have n_next := fact_next hZ
  show RX Z (0 + 1) 150
  refine' rx_def (m := 2) (k := 0) (S := ⟨?sc, [Str.ofString "iterator", Str.ofString "b", Str.ofString "val"], []⟩) (pn := [Str.ofString "iterator"]) (rest := [Str.ofString "b", Str.ofString "val"]) ?ho ?hcd ?hsc ?hk ?hv ?hvn ?hfree rfl rfl ?hnd ?hkind ?hbind ?hco ?hgen rfl ?R1 ?R2 ?R3 ?R4
  case ho => rw [hZ]; exact rfl
  case hcd => rw [hZ]; kernel_rfl
  case hsc => exact rfl
  case hk => rfl
  case hv => rfl
  case hvn => decide
  case hfree => decide
  case hnd => decide
  case hkind => decide
  case hco => rfl
  case hgen => rfl
  case hbind => exact bind1 (fun _ => rfl)
  case R1 => refine rp_bltK ?a ?b ?c; (case a => kernel_rfl); (case b => assumption); (case c => boot_fact)
  case R2 => exact rp_loc' (by kernel_rfl)
  case R3 => exact fun _ => rfl
  case R4 => exact fun _ => rfl


set_option maxHeartbeats 8000000 in
theorem rc_LawRead (hZ : Z.K = KK Z.w.params) : RCW Z 4 169 dLawRead := by
  have n_iter := fact_iter hZ
  have n_b64decode := fact_b64decode hZ
  have n__parse_varint := fact__parse_varint hZ
  have x__parse_varint := @rx_ParseVarint Z hZ
  have n_StopIteration := fact_StopIteration hZ
  have c_b64decode := @rc_B64decode Z hZ
  have k_b64decode := keep_b64decode hZ
  have c__parse_varint := @rc_ParseVarint Z hZ
  have k__parse_varint := keep__parse_varint hZ
  show RCW Z 4 169 (runDef 1 3 [] cLawRead)
  refine' rcw_def (n := 1) (m := 3) (dfl := []) (k := 3) (S := ⟨?sc, [Str.ofString "text", Str.ofString "walker", Str.ofString "table", Str.ofString "word"], []⟩) (pn := [Str.ofString "text"]) (rest := [Str.ofString "walker", Str.ofString "table", Str.ofString "word"]) (dv := []) ?ho ?hcd ?hsc ?hk ?hv ?hvn ?hfree rfl rfl ?hnd ?hkind ?hdv ?hbind ?R ?hco ?hgen
  case ho => rw [hZ]; exact rfl
  case hcd => rw [hZ]; kernel_rfl
  case hsc => exact rfl
  case hk => rfl
  case hv => rfl
  case hvn => decide
  case hfree => decide
  case hnd => decide
  case hkind => decide
  case hco => rfl
  case hgen => rfl
  case hdv => exact fun _ _ _ => .nil
  case hbind => exact bind1 (fun _ => rfl)
  case R =>
    unfold cLawRead
    repeat' (first
    | (with_reducible exact rssw_nil)
    | (with_reducible refine rssw_cons ?_ ?_)
    | ((with_reducible refine rsw_read (by assumption) ?k (by assumption) ?_ ?_ ?_ ?h ?_ ?s ?x (by assumption) ?v ?y); (case k => decide); (case h => exact fun _ => rfl); (case s => exact fun _ => rfl); (case x => kernel_rfl); (case v => exact boot_stop); (case y => kernel_rfl))
    | ((with_reducible refine rsw_unp (rpw_tup (rpsw_cons (rpw_call (by assumption) ?k (by assumption) ?_ ?_ ?c) (rpsw_cons (rpw_call (by assumption) ?k2 (by assumption) ?_ ?_ ?c2) rpsw_nil ?e2) ?e)) ?x ?y ?a ?b); (case k => decide); (case c => exact ⟨.inr ⟨_, _, rfl, fun _ => rfl⟩, fun _ => rfl⟩); (case k2 => decide); (case c2 => exact ⟨.inr ⟨_, _, rfl, fun _ => rfl⟩, fun _ => rfl⟩); (case e2 => exact fun _ => rfl); (case e => exact fun _ => rfl); (case x => kernel_rfl); (case y => kernel_rfl); (case a => exact fun _ => rfl); (case b => first | exact fun _ _ => rfl | exact fun env h => by simp only [swappedStores, Env.blockKind, Env.kindOf, h]; rfl))
    | ((with_reducible refine rsw_unp (rpw_call (by assumption) ?k (by assumption) ?_ ?_ ?c) ?x ?y ?a ?b); (case k => decide); (case c => exact ⟨.inr ⟨_, _, rfl, fun _ => rfl⟩, fun _ => rfl⟩); (case x => kernel_rfl); (case y => kernel_rfl); (case a => exact fun _ => rfl); (case b => first | exact fun _ _ => rfl | exact fun env h => by simp only [swappedStores, Env.blockKind, Env.kindOf, h]; rfl))
    | ((with_reducible refine rsw_assign (rpw_call (by assumption) ?k (by assumption) ?_ ?_ ?c) ?x ?a); (case k => decide); (case c => exact ⟨.inr ⟨_, _, rfl, fun _ => rfl⟩, fun _ => rfl⟩); (case x => kernel_rfl); (case a => first | exact fun _ _ => rfl | exact fun env h => by simp only [swapsWith, Env.blockKind, Env.kindOf, h]; rfl))
    | (with_reducible refine rstw_of ?_)
    | (with_reducible exact rs_nil)
    | (with_reducible refine rs_cons ?_ ?_)
    | ((with_reducible refine rs_new' ?_ ?b ?c); (case b => kernel_rfl); (case c => exact fun _ => rfl))
    | (with_reducible refine rs_try ?_ ?_)
    | (with_reducible exact rn_dict)
    | ((with_reducible refine rn_iter ?_ ?_ ?c); (case c => exact fun _ => rfl))
    | ((with_reducible refine rs_acall (by assumption) ?k (by assumption) ?_ ?_ ?c ?d ?e); (case k => decide); (case c => exact ⟨.inr ⟨_, _, rfl, fun _ => rfl⟩, fun _ => rfl⟩); (case d => kernel_rfl); (case e => exact fun _ => rfl))
    | ((with_reducible refine rs_aset (by assumption) ?k (by assumption) ?_ ?_ ?_ ?_ ?c ?d); (case k => decide); (case c => exact ⟨.inr ⟨_, _, rfl, fun _ => rfl⟩, fun _ => rfl⟩); (case d => exact fun _ => rfl))
    | ((with_reducible refine rp_loc' ?a); case a => kernel_rfl)
    | (with_reducible exact rp_bool)
    | ((with_reducible refine rp_globK ?a ?b); (case a => kernel_rfl); (case b => assumption))
    | ((with_reducible refine rp_bltK ?a ?b ?c); (case a => kernel_rfl); (case b => assumption); (case c => boot_fact))
    | ((with_reducible refine rp_call (by assumption) ?k (by assumption) ?_ ?_ ?_ ?a ?b ?c ?d); (case k => decide); (case a => rfl); (case b => rfl); (case c => exact ⟨.inr ⟨_, _, rfl, fun _ => rfl⟩, fun _ => rfl⟩); (case d => first | exact gl0 | exact gl1))
    | (with_reducible exact rps_nil)
    | ((with_reducible refine rps_cons ?_ ?_ ?c); case c => exact fun _ => rfl)
    | (with_reducible exact rks_nil)
    | (with_reducible refine rks_cons ?_ ?_)
    | ((with_reducible refine rt_val ?_ ?c); case c => exact fun _ _ => rfl))


set_option maxHeartbeats 8000000 in
theorem rc_LawLaid (hZ : Z.K = KK Z.w.params) : RCW Z 5 196 dLawLaid := by
  have n_nlargest := fact_nlargest hZ
  have n__law_read := fact__law_read hZ
  have n_sorted := fact_sorted hZ
  have n_len := fact_len hZ
  have n__law_text := fact__law_text hZ
  have n_list := fact_list hZ
  have c_nlargest := @rc_Nlargest Z hZ
  have k_nlargest := keep_nlargest hZ
  have c__law_read := @rc_LawRead Z hZ
  have k__law_read := keep__law_read hZ
  have c__law_text := @rc_LawText Z hZ
  have k__law_text := keep__law_text hZ
  show RCW Z 5 196 (runDef 3 7 [] cLawLaid)
  refine' rcw_def (n := 3) (m := 7) (dfl := []) (k := 4) (S := ⟨?sc, [Str.ofString "width", Str.ofString "text", Str.ofString "other", Str.ofString "table", Str.ofString "more", Str.ofString "sums", Str.ofString "counts", Str.ofString "row", Str.ofString "cut", Str.ofString "due"], [Str.ofString "table", Str.ofString "more", Str.ofString "sums", Str.ofString "cut"]⟩) (pn := [Str.ofString "width", Str.ofString "text", Str.ofString "other"]) (rest := [Str.ofString "table", Str.ofString "more", Str.ofString "sums", Str.ofString "counts", Str.ofString "row", Str.ofString "cut", Str.ofString "due"]) (dv := []) ?ho ?hcd ?hsc ?hk ?hv ?hvn ?hfree rfl rfl ?hnd ?hkind ?hdv ?hbind ?R ?hco ?hgen
  case ho => rw [hZ]; exact rfl
  case hcd => rw [hZ]; kernel_rfl
  case hsc => exact rfl
  case hk => rfl
  case hv => rfl
  case hvn => decide
  case hfree => decide
  case hnd => decide
  case hkind => decide
  case hco => rfl
  case hgen => rfl
  case hdv => exact fun _ _ _ => .nil
  case hbind => exact bind3 (fun _ _ _ => rfl)
  case R =>
    unfold cLawLaid
    repeat' (first
    | (with_reducible exact rssw_nil)
    | (with_reducible refine rssw_cons ?_ ?_)
    | ((with_reducible refine rsw_read (by assumption) ?k (by assumption) ?_ ?_ ?_ ?h ?_ ?s ?x (by assumption) ?v ?y); (case k => decide); (case h => exact fun _ => rfl); (case s => exact fun _ => rfl); (case x => kernel_rfl); (case v => exact boot_stop); (case y => kernel_rfl))
    | ((with_reducible refine rsw_unp (rpw_tup (rpsw_cons (rpw_call (by assumption) ?k (by assumption) ?_ ?_ ?c) (rpsw_cons (rpw_call (by assumption) ?k2 (by assumption) ?_ ?_ ?c2) rpsw_nil ?e2) ?e)) ?x ?y ?a ?b); (case k => decide); (case c => exact ⟨.inr ⟨_, _, rfl, fun _ => rfl⟩, fun _ => rfl⟩); (case k2 => decide); (case c2 => exact ⟨.inr ⟨_, _, rfl, fun _ => rfl⟩, fun _ => rfl⟩); (case e2 => exact fun _ => rfl); (case e => exact fun _ => rfl); (case x => kernel_rfl); (case y => kernel_rfl); (case a => exact fun _ => rfl); (case b => first | exact fun _ _ => rfl | exact fun env h => by simp only [swappedStores, Env.blockKind, Env.kindOf, h]; rfl))
    | ((with_reducible refine rsw_unp (rpw_call (by assumption) ?k (by assumption) ?_ ?_ ?c) ?x ?y ?a ?b); (case k => decide); (case c => exact ⟨.inr ⟨_, _, rfl, fun _ => rfl⟩, fun _ => rfl⟩); (case x => kernel_rfl); (case y => kernel_rfl); (case a => exact fun _ => rfl); (case b => first | exact fun _ _ => rfl | exact fun env h => by simp only [swappedStores, Env.blockKind, Env.kindOf, h]; rfl))
    | ((with_reducible refine rsw_assign (rpw_call (by assumption) ?k (by assumption) ?_ ?_ ?c) ?x ?a); (case k => decide); (case c => exact ⟨.inr ⟨_, _, rfl, fun _ => rfl⟩, fun _ => rfl⟩); (case x => kernel_rfl); (case a => first | exact fun _ _ => rfl | exact fun env h => by simp only [swapsWith, Env.blockKind, Env.kindOf, h]; rfl))
    | (with_reducible refine rstw_of ?_)
    | (with_reducible exact rs_nil)
    | (with_reducible refine rs_cons ?_ ?_)
    | ((with_reducible refine rs_lc1 (tup := false) (tg := tgName _) ?n ?_ ?_ ?_ ?_ ?c ?d ?e ?f); (case n => kernel_rfl); (case c => exact fun _ _ => rfl); (case d => exact fun env h => by simp only [swapsWith, Env.blockKind, Env.kindOf, h]; rfl); (case e => rfl); (case f => kernel_rfl))
    | ((with_reducible refine rs_assign' ?_ ?b ?c); (case b => kernel_rfl); (case c => first | exact fun _ _ => rfl | exact fun env h => by simp only [swapsWith, Env.blockKind, Env.kindOf, h]; rfl))
    | ((with_reducible refine rs_unp' ?_ ?a ?b ?c ?d); (case a => kernel_rfl); (case b => kernel_rfl); (case c => exact fun _ => rfl); (case d => first | exact fun _ _ => rfl | exact fun env h => by simp only [swappedStores, Env.blockKind, Env.kindOf, h]; rfl))
    | (with_reducible refine rs_ret ?_)
    | ((with_reducible refine rp_loc' ?a); case a => kernel_rfl)
    | (with_reducible exact rp_int)
    | ((with_reducible refine rp_globK ?a ?b); (case a => kernel_rfl); (case b => assumption))
    | ((with_reducible refine rp_bltK ?a ?b ?c); (case a => kernel_rfl); (case b => assumption); (case c => boot_fact))
    | ((with_reducible refine rp_item ?_ ?_ ?c); case c => exact fun _ _ => rfl)
    | (with_reducible refine rp_bin ?_ ?_ op_add)
    | (with_reducible refine rp_bin ?_ ?_ op_sub)
    | (with_reducible refine rp_bin ?_ ?_ op_mul)
    | ((with_reducible refine rp_cmp ?_ ?_ op_eq ?c); case c => rfl)
    | ((with_reducible refine rp_meth bc_get (mo_dict F.slot_dict_get F.type_dict_get) ?_ ?_ ?c ?d); (case c => exact ⟨.inr ⟨_, _, rfl, fun _ => rfl⟩, fun _ => rfl⟩); (case d => exact fun _ => rfl))
    | ((with_reducible refine rp_call (by assumption) ?k (by assumption) ?_ ?_ ?_ ?a ?b ?c ?d); (case k => decide); (case a => rfl); (case b => rfl); (case c => exact ⟨.inr ⟨_, _, rfl, fun _ => rfl⟩, fun _ => rfl⟩); (case d => first | exact gl0 | exact gl1))
    | ((with_reducible refine rp_bcall (kws := []) bc_len (keep_builtin _) ?_ ?_ ?_ ?a ?b ?c ?d); (case a => rfl); (case b => rfl); (case c => exact ⟨.inr ⟨_, _, rfl, fun _ => rfl⟩, fun _ => rfl⟩); (case d => exact gl0))
    | ((with_reducible refine rp_bcall (kws := []) bc_sorted (keep_builtin _) ?_ ?_ ?_ ?a ?b ?c ?d); (case a => rfl); (case b => rfl); (case c => exact ⟨.inr ⟨_, _, rfl, fun _ => rfl⟩, fun _ => rfl⟩); (case d => exact gl0))
    | ((with_reducible refine rp_bcall (kws := []) bc_list (keep_type _) ?_ ?_ ?_ ?a ?b ?c ?d); (case a => rfl); (case b => rfl); (case c => exact ⟨.inr ⟨_, _, rfl, fun _ => rfl⟩, fun _ => rfl⟩); (case d => exact gl0))
    | (with_reducible refine rp_if ?_ ?_ ?_)
    | (with_reducible refine rp_tup ?_)
    | (with_reducible refine rp_lst ?_)
    | ((with_reducible refine rp_lc1 (tup := false) (tg := tgName _) ?n ?_ ?_ ?_ ?_ ?c); (case n => kernel_rfl); (case c => exact fun _ _ => rfl))
    | ((with_reducible refine rp_dc1 (tup := false) (tg := tgName _) ?n ?_ ?_ ?_ ?_ ?_ ?c); (case n => kernel_rfl); (case c => exact fun _ _ => rfl))
    | (with_reducible exact rps_nil)
    | ((with_reducible refine rps_cons ?_ ?_ ?c); case c => exact fun _ => rfl)
    | (with_reducible exact rks_nil)
    | (with_reducible refine rks_cons ?_ ?_)
    | (with_reducible refine ri_lst ?_)
    | (with_reducible refine ri_dct ?_)
    | ((with_reducible refine tgt_name' ?a); case a => kernel_rfl)
    | (with_reducible exact rifs_nil)
    | (with_reducible refine rifs_one ?_)
    | ((with_reducible refine rt_cmp ?_ ?_ op_gt ?c); case c => rfl))


set_option maxHeartbeats 8000000 in
theorem rc_Law (hZ : Z.K = KK Z.w.params) : RCW Z 6 201 dLaw := by
  have n__law_laid := fact__law_laid hZ
  have n__law_read := fact__law_read hZ
  have n__law_stream := fact__law_stream hZ
  have n_len := fact_len hZ
  have n_sum := fact_sum hZ
  have n_range := fact_range hZ
  have n_min := fact_min hZ
  have n_list := fact_list hZ
  have n_max := fact_max hZ
  have c__law_laid := @rc_LawLaid Z hZ
  have k__law_laid := keep__law_laid hZ
  have c__law_read := @rc_LawRead Z hZ
  have k__law_read := keep__law_read hZ
  have c__law_stream := @rc_LawStream Z hZ
  have k__law_stream := keep__law_stream hZ
  show RCW Z 6 201 (runDef 1 14 [] cLaw)
  refine' rcw_def (n := 1) (m := 14) (dfl := []) (k := 5) (S := ⟨?sc, [Str.ofString "script", Str.ofString "first", Str.ofString "width", Str.ofString "numbers", Str.ofString "words", Str.ofString "streams", Str.ofString "told", Str.ofString "texts", Str.ofString "two", Str.ofString "even", Str.ofString "three", Str.ofString "last", Str.ofString "table", Str.ofString "lost", Str.ofString "lacks"], [Str.ofString "first", Str.ofString "width", Str.ofString "numbers", Str.ofString "words", Str.ofString "told", Str.ofString "table"]⟩) (pn := [Str.ofString "script"]) (rest := [Str.ofString "first", Str.ofString "width", Str.ofString "numbers", Str.ofString "words", Str.ofString "streams", Str.ofString "told", Str.ofString "texts", Str.ofString "two", Str.ofString "even", Str.ofString "three", Str.ofString "last", Str.ofString "table", Str.ofString "lost", Str.ofString "lacks"]) (dv := []) ?ho ?hcd ?hsc ?hk ?hv ?hvn ?hfree rfl rfl ?hnd ?hkind ?hdv ?hbind ?R ?hco ?hgen
  case ho => rw [hZ]; exact rfl
  case hcd => rw [hZ]; kernel_rfl
  case hsc => exact rfl
  case hk => rfl
  case hv => rfl
  case hvn => decide
  case hfree => decide
  case hnd => decide
  case hkind => decide
  case hco => rfl
  case hgen => rfl
  case hdv => exact fun _ _ _ => .nil
  case hbind => exact bind1 (fun _ => rfl)
  case R =>
    unfold cLaw
    repeat' (first
    | (with_reducible exact rssw_nil)
    | (with_reducible refine rssw_cons ?_ ?_)
    | ((with_reducible refine rsw_read (by assumption) ?k (by assumption) ?_ ?_ ?_ ?h ?_ ?s ?x (by assumption) ?v ?y); (case k => decide); (case h => exact fun _ => rfl); (case s => exact fun _ => rfl); (case x => kernel_rfl); (case v => exact boot_stop); (case y => kernel_rfl))
    | ((with_reducible refine rsw_unp (rpw_tup (rpsw_cons (rpw_call (by assumption) ?k (by assumption) ?_ ?_ ?c) (rpsw_cons (rpw_call (by assumption) ?k2 (by assumption) ?_ ?_ ?c2) rpsw_nil ?e2) ?e)) ?x ?y ?a ?b); (case k => decide); (case c => exact ⟨.inr ⟨_, _, rfl, fun _ => rfl⟩, fun _ => rfl⟩); (case k2 => decide); (case c2 => exact ⟨.inr ⟨_, _, rfl, fun _ => rfl⟩, fun _ => rfl⟩); (case e2 => exact fun _ => rfl); (case e => exact fun _ => rfl); (case x => kernel_rfl); (case y => kernel_rfl); (case a => exact fun _ => rfl); (case b => first | exact fun _ _ => rfl | exact fun env h => by simp only [swappedStores, Env.blockKind, Env.kindOf, h]; rfl))
    | ((with_reducible refine rsw_unp (rpw_call (by assumption) ?k (by assumption) ?_ ?_ ?c) ?x ?y ?a ?b); (case k => decide); (case c => exact ⟨.inr ⟨_, _, rfl, fun _ => rfl⟩, fun _ => rfl⟩); (case x => kernel_rfl); (case y => kernel_rfl); (case a => exact fun _ => rfl); (case b => first | exact fun _ _ => rfl | exact fun env h => by simp only [swappedStores, Env.blockKind, Env.kindOf, h]; rfl))
    | ((with_reducible refine rsw_assign (rpw_call (by assumption) ?k (by assumption) ?_ ?_ ?c) ?x ?a); (case k => decide); (case c => exact ⟨.inr ⟨_, _, rfl, fun _ => rfl⟩, fun _ => rfl⟩); (case x => kernel_rfl); (case a => first | exact fun _ _ => rfl | exact fun env h => by simp only [swapsWith, Env.blockKind, Env.kindOf, h]; rfl))
    | (with_reducible refine rstw_of ?_)
    | (with_reducible exact rs_nil)
    | (with_reducible refine rs_cons ?_ ?_)
    | ((with_reducible refine rs_lc1 (tup := false) (tg := tgName _) ?n ?_ ?_ ?_ ?_ ?c ?d ?e ?f); (case n => kernel_rfl); (case c => exact fun _ _ => rfl); (case d => exact fun env h => by simp only [swapsWith, Env.blockKind, Env.kindOf, h]; rfl); (case e => rfl); (case f => kernel_rfl))
    | ((with_reducible refine rs_lc1 (tup := true) (tg := tgPair _ _) ?n ?_ ?_ ?_ ?_ ?c ?d ?e ?f); (case n => kernel_rfl); (case c => exact fun _ _ => rfl); (case d => exact fun env h => by simp only [swapsWith, Env.blockKind, Env.kindOf, h]; rfl); (case e => rfl); (case f => kernel_rfl))
    | ((with_reducible refine rs_assign' ?_ ?b ?c); (case b => kernel_rfl); (case c => first | exact fun _ _ => rfl | exact fun env h => by simp only [swapsWith, Env.blockKind, Env.kindOf, h]; rfl))
    | (with_reducible refine rs_if ?_ ?_ ?_)
    | ((with_reducible refine rs_unp' ?_ ?a ?b ?c ?d); (case a => kernel_rfl); (case b => kernel_rfl); (case c => exact fun _ => rfl); (case d => first | exact fun _ _ => rfl | exact fun env h => by simp only [swappedStores, Env.blockKind, Env.kindOf, h]; rfl))
    | (with_reducible refine rs_ret ?_)
    | ((with_reducible refine rp_loc' ?a); case a => kernel_rfl)
    | (with_reducible exact rp_int)
    | (with_reducible exact rp_bool)
    | ((with_reducible refine rp_globK ?a ?b); (case a => kernel_rfl); (case b => assumption))
    | ((with_reducible refine rp_bltK ?a ?b ?c); (case a => kernel_rfl); (case b => assumption); (case c => boot_fact))
    | ((with_reducible refine rp_item ?_ ?_ ?c); case c => exact fun _ _ => rfl)
    | (with_reducible refine rp_bin ?_ ?_ op_add)
    | (with_reducible refine rp_bin ?_ ?_ op_sub)
    | (with_reducible refine rp_bin ?_ ?_ op_mul)
    | (with_reducible refine rp_bin ?_ ?_ op_div)
    | (with_reducible refine rp_bin ?_ ?_ op_mod)
    | ((with_reducible refine rp_cmp ?_ ?_ op_eq ?c); case c => rfl)
    | ((with_reducible refine rp_meth bc_get (mo_dict F.slot_dict_get F.type_dict_get) ?_ ?_ ?c ?d); (case c => exact ⟨.inr ⟨_, _, rfl, fun _ => rfl⟩, fun _ => rfl⟩); (case d => exact fun _ => rfl))
    | ((with_reducible refine rp_meth bc_count (mo_list F.slot_list_count F.type_list_count) ?_ ?_ ?c ?d); (case c => exact ⟨.inr ⟨_, _, rfl, fun _ => rfl⟩, fun _ => rfl⟩); (case d => exact fun _ => rfl))
    | ((with_reducible refine rp_call (by assumption) ?k (by assumption) ?_ ?_ ?_ ?a ?b ?c ?d); (case k => decide); (case a => rfl); (case b => rfl); (case c => exact ⟨.inr ⟨_, _, rfl, fun _ => rfl⟩, fun _ => rfl⟩); (case d => first | exact gl0 | exact gl1))
    | ((with_reducible refine rp_bcall (kws := []) bc_len (keep_builtin _) ?_ ?_ ?_ ?a ?b ?c ?d); (case a => rfl); (case b => rfl); (case c => exact ⟨.inr ⟨_, _, rfl, fun _ => rfl⟩, fun _ => rfl⟩); (case d => exact gl0))
    | ((with_reducible refine rp_bcall (kws := []) bc_sum (keep_builtin _) ?_ ?_ ?_ ?a ?b ?c ?d); (case a => rfl); (case b => rfl); (case c => exact ⟨.inr ⟨_, _, rfl, fun _ => rfl⟩, fun _ => rfl⟩); (case d => exact gl0))
    | ((with_reducible refine rp_bcall (kws := []) bc_max (keep_builtin _) ?_ ?_ ?_ ?a ?b ?c ?d); (case a => rfl); (case b => rfl); (case c => exact ⟨.inr ⟨_, _, rfl, fun _ => rfl⟩, fun _ => rfl⟩); (case d => exact gl0))
    | ((with_reducible refine rp_bcall (kws := []) bc_min (keep_builtin _) ?_ ?_ ?_ ?a ?b ?c ?d); (case a => rfl); (case b => rfl); (case c => exact ⟨.inr ⟨_, _, rfl, fun _ => rfl⟩, fun _ => rfl⟩); (case d => exact gl0))
    | ((with_reducible refine rp_bcall (kws := []) bc_list (keep_type _) ?_ ?_ ?_ ?a ?b ?c ?d); (case a => rfl); (case b => rfl); (case c => exact ⟨.inr ⟨_, _, rfl, fun _ => rfl⟩, fun _ => rfl⟩); (case d => exact gl0))
    | (with_reducible refine rp_and ?_ ?_)
    | (with_reducible refine rp_one ?_)
    | (with_reducible refine rp_lst ?_)
    | ((with_reducible refine rp_slice ?_ ?_ ?c); case c => exact fun _ _ => rfl)
    | (with_reducible refine rp_sliceT ?_ ?_)
    | ((with_reducible refine rp_lc1 (tup := false) (tg := tgName _) ?n ?_ ?_ ?_ ?_ ?c); (case n => kernel_rfl); (case c => exact fun _ _ => rfl))
    | ((with_reducible refine rp_lc1 (tup := true) (tg := tgPair _ _) ?n ?_ ?_ ?_ ?_ ?c); (case n => kernel_rfl); (case c => exact fun _ _ => rfl))
    | (with_reducible exact rps_nil)
    | ((with_reducible refine rps_cons ?_ ?_ ?c); case c => exact fun _ => rfl)
    | (with_reducible exact rks_nil)
    | (with_reducible refine rks_cons ?_ ?_)
    | ((with_reducible refine ri_range ?_ ?_ ?c); case c => exact fun _ => rfl)
    | (with_reducible refine ri_lst ?_)
    | (with_reducible refine ri_dct ?_)
    | ((with_reducible refine tgt_name' ?a); case a => kernel_rfl)
    | ((with_reducible refine tgt_pair' ?a ?b); (case a => kernel_rfl); (case b => kernel_rfl))
    | (with_reducible exact rifs_nil)
    | (with_reducible refine rifs_one ?_)
    | ((with_reducible refine rt_cmp ?_ ?_ op_gt ?c); case c => rfl)
    | ((with_reducible refine rt_cmp ?_ ?_ op_lt ?c); case c => rfl)
    | ((with_reducible refine rt_cmp ?_ ?_ op_eq ?c); case c => rfl)
    | (with_reducible exact rt_or_nil)
    | (with_reducible refine rt_or ?_ ?_))


end
end Mine

end
section
set_option maxRecDepth 100000
set_option maxHeartbeats 0
namespace Mine
theorem leftRun : ∀ (w : World) (os : OsState), (topFrom treeTable pw w 2300 ⟨boot_heap w.params, Array.mk [], boot_drawn, boot_toks, os⟩).map (fun s => (openSeen hQ hL (importedModules pw.main.body) hX true s, hH.obs s)) = some (openGood hQ hL, hH.val w) := fun w os => by
  unfold topFrom
  rw [PySem.W.Fast.te14082659384304107361, PySem.W.Fast.te14364793385576792824, PySem.W.Fast.te4187177175401517315]
  kernel_rfl
end Mine

end
section
set_option maxRecDepth 100000
set_option maxHeartbeats 0
namespace Mine
theorem bootRun : ∀ w : World, (fencedOpening treeTable pw w 2300).map (fun s => (s.heap, s.gens, s.drawn, s.toks)) = some (boot_heap w.params, Array.mk [], boot_drawn, boot_toks) :=
  boot_open (by kernel_rfl) (by decide) (fun s => by kernel_rfl)
theorem head (walk : WalkO hQ hL (XL hQ []) hH.says rw'.row.toRowW hD [] (fun f vs => call f vs)) : rw'.Holds := by
  refine holds_law (by rw [PySem.W.Fast.te9446332074065402090]; kernel_rfl) fun said => ?_
  refine holds_open (q := hQ) (loose := hL) (Xt := hX) (XP := XL hQ []) (Yf := hH.obs) (Ya := hH.val) (YP := hH.says) (N := 2300) (d := hD) (kwd := []) (leftO_of bootRun leftRun) hH.of hH.keeps
    (fun s e => xl_of s (Bool.and_eq_true_iff.mp e).1) XL.keeps (by kernel_rfl) (by kernel_rfl) (by kernel_rfl) (fun s e => recFacts_of (Bool.and_eq_true_iff.mp e).2) (by kernel_rfl) said (by decide +kernel) ⟨rfl, rfl, rfl, rfl, rfl, by decide +kernel⟩
    ⟨[.list [.int 3, .int 1]], by decide +kernel, by decide +kernel⟩ walk
end Mine

end
section
set_option maxRecDepth 100000

namespace Mine
theorem ints_of : ∀ {ds : List WData}, WShape.hasItems ([] : WRecords) ds .int = true → ∃ ns : List Int, ds = ns.map WData.int
  | [], _ => ⟨[], rfl⟩
  | d :: ds, h => by
    have h' : WShape.has ([] : WRecords) d .int = true ∧ WShape.hasItems ([] : WRecords) ds .int = true := by simpa [WShape.hasItems] using h
    obtain ⟨i, rfl⟩ := hasW_int h'.1
    obtain ⟨ns, rfl⟩ := ints_of h'.2
    exact ⟨i :: ns, rfl⟩
theorem well_ints {Z : Amb} {P : Params} {h : Heap} {D : List Addr} : ∀ {vs : List Value} {ns : List Int}, WellAll P h vs (ns.map WData.int) → VRels Z h D [] vs (ns.map AVal.int)
  | _, [], .nil => .nil
  | _, _ :: _, .cons (.int _ _) r => .cons (.int _ _) (well_ints r)
theorem law_pre {args : List WData} (h : rw'.row.toRowW.claim.pre args = true) : ∃ ns : List Int, args = [.list (ns.map .int)] ∧ ns.length ≤ 63 := by
  have hsh := (pre_splitW h).1
  have hc := (pre_splitW h).2
  obtain ⟨d, r, rfl, h1, h2⟩ := hasAllW_cons (R := []) (e := .list .int) (es := []) hsh
  obtain rfl := hasAllW_nil h2
  obtain ⟨xs, rfl, h3⟩ := hasW_list h1
  obtain ⟨ns, rfl⟩ := ints_of h3
  refine ⟨ns, rfl, ?_⟩
  have hl := condW_of (holds_andW hc).1 (w_not (w_lt (w_lit (d := .int 63)) (w_len_list (w_arg rfl))))
  simp only [List.length_map] at hl
  simp at hl
  omega

theorem joined (law : ∀ ns : List Int, ns.length ≤ 63 → ∃ cs', dLaw [] [.lst (ns.map AVal.int)] = some (.bool true, cs')) : rw'.Holds := by
  refine head ?_
  intro w s₀ s₁ mg mb G Y a o pm cd doc dV kV ho hd hcd hDf hmg hg args vals as hpre hlay hrd hwl hlo
  obtain ⟨ns, rfl, hlen⟩ := law_pre hpre
  have KX := kIn_of Y
  let Z : Amb := ⟨pw, w, KK w.params, s₁.heap, mg, mb, KX, G.T.g, G.T.b, G.T.nolimit, G.T.builtins⟩
  have ha : a = 201 := by
    have e1 := mg_of KX G.T.g (show nsIn (KK w.params) mainGlobals (Str.ofString "law") = some (some (.ref 201)) by kernel_rfl)
    rw [show hD.name = Str.ofString "law" by kernel_rfl, e1] at hmg
    cases hmg; rfl
  subst ha
  obtain ⟨cs', hlaw⟩ := law ns hlen
  cases hwl with
  | cons hw hn =>
  cases hn
  cases hw with
  | list hob hvs =>
  rename_i l vs
  have hv : VRels Z s₁.heap [] [] [.ref l] [.lst (ns.map AVal.int)] := .cons (.lst (by simp) ⟨_, hob⟩ (well_ints hvs)) .nil
  have hwd : Wd Z [] [] [] s₁.heap := ⟨fun _ _ e => e, by simp, by simp, by simp, rfl, fun i a c h => by simp at h⟩
  refine wpAny_mono (rc_Law (Z := Z) rfl (l := []) (E := fun _ _ => False) hlaw hv hwd ⟨rfl, by decide +kernel, by decide +kernel⟩ rfl (fun e he => nomatch he)) (fun v s' h => ?_) fun _ _ e => False.elim e
  obtain ⟨⟨h', tk, rfl, k⟩, hvr⟩ := h
  cases hvr
  refine GoodW.toG ⟨.inl ⟨_, .bool true, [], rfl, fun cls => rfl, .bool _, ?_, fun _ => ⟨by simp, by simp⟩⟩, fun b o e => (k b o (by simp) e).1 (by simp [frs]), rfl, hg⟩
  exact postW_of rfl (w_eq_bool (w_res rfl) w_lit) rfl
end Mine

end
section
set_option maxRecDepth 100000

namespace Mine
/-! one path through a def's code -/
theorem seq_n {f g : AS} {st st1 : ASt} {r : Option (AFlow × ASt)} (h : f st = some (.next, st1)) (k : g st1 = r) : sSeq f g st = r := by unfold sSeq; rw [h]; exact k
theorem seq_c {f g : AS} {st st1 : ASt} (h : f st = some (.cont, st1)) : sSeq f g st = some (.cont, st1) := by unfold sSeq; rw [h]
theorem seq_b {f g : AS} {st st1 : ASt} (h : f st = some (.brk, st1)) : sSeq f g st = some (.brk, st1) := by unfold sSeq; rw [h]
theorem seq_r {f g : AS} {st st1 : ASt} {v : AVal} (h : f st = some (.ret v, st1)) : sSeq f g st = some (.ret v, st1) := by unfold sSeq; rw [h]
theorem if_t {c : ASt → Option Bool} {f g : AS} {st : ASt} {r : Option (AFlow × ASt)} (h : c st = some true) (k : f st = r) : sIf c f g st = r := by unfold sIf; rw [h]; exact k
theorem if_f {c : ASt → Option Bool} {f g : AS} {st : ASt} {r : Option (AFlow × ASt)} (h : c st = some false) (k : g st = r) : sIf c f g st = r := by unfold sIf; rw [h]; exact k
theorem wh_f {c : ASt → Option Bool} {b : AS} {n : Nat} {st : ASt} (h : c st = some false) : sWhile c b (n + 1) st = some (.next, st) := by unfold sWhile; rw [h]
theorem wh_n {c : ASt → Option Bool} {b : AS} {n : Nat} {st st1 : ASt} {r : Option (AFlow × ASt)} (h : c st = some true) (k : b st = some (.next, st1)) (m : sWhile c b n st1 = r) : sWhile c b (n + 1) st = r := by unfold sWhile; rw [h, k]; exact m
theorem wh_c {c : ASt → Option Bool} {b : AS} {n : Nat} {st st1 : ASt} {r : Option (AFlow × ASt)} (h : c st = some true) (k : b st = some (.cont, st1)) (m : sWhile c b n st1 = r) : sWhile c b (n + 1) st = r := by unfold sWhile; rw [h, k]; exact m
theorem wh_b {c : ASt → Option Bool} {b : AS} {n : Nat} {st st1 : ASt} (h : c st = some true) (k : b st = some (.brk, st1)) : sWhile c b (n + 1) st = some (.next, st1) := by unfold sWhile; rw [h, k]
theorem run_of {n m : Nat} {dfl : List AVal} {f : AS} {cs : List ACell} {avs : List AVal} {fl : AFlow} {st' : ASt} {r : Option (AVal × List ACell)} (h : avs.length = n) (k : f { loc := (avs ++ dfl).map some ++ List.replicate m none, cells := cs } = some (fl, st')) (e : finish cs.length (afVal fl) st'.cells = r) : runDef n m dfl f cs avs = r := by
  unfold runDef; rw [if_pos h, k]; exact e

noncomputable abbrev P := Int × Int
noncomputable def eP (p : P) : AVal := .tup [.int p.1, .int p.2]
noncomputable def lt (p q : P) : Bool := ltPair p.1 p.2 q.1 q.2
noncomputable def ctx : Option ACell → List P → List ACell
  | none, H => [.lst (H.map eP)]
  | some d, H => [d, .lst (H.map eP)]
noncomputable def ix : Option ACell → Nat
  | none => 0
  | some _ => 1

noncomputable def okO : Option ACell → Prop
  | none => True
  | some d => ∃ (xs : List Int) (k : Nat), d = .itL (xs.map AVal.int) k
theorem under_ints (n : Nat) : ∀ l : List Int, underAllB n (l.map AVal.int) = true
  | [] => rfl
  | _ :: l => under_ints n l
theorem under_prs (n : Nat) : ∀ l : List P, underAllB n (l.map eP) = true
  | [] => rfl
  | _ :: l => under_prs n l
theorem fin_ctx {o : Option ACell} (ho : okO o) (H H' : List P) : finish (ctx o H).length .none (ctx o H') = some (.none, ctx o H') := by
  cases o with
  | none =>
    show (if (([ACell.lst (H'.map eP)].take 1).all (·.underB 1)) = true then _ else _) = _
    rw [if_pos (show _ from by show (underAllB 1 (H'.map eP) && true) = true; rw [under_prs]; rfl)]
    rfl
  | some d =>
    obtain ⟨xs, k, rfl⟩ := ho
    show (if (([ACell.itL (xs.map .int) k, ACell.lst (H'.map eP)].take 2).all (·.underB 2)) = true then _ else _) = _
    rw [if_pos (show _ from by show (underAllB 2 (xs.map .int) && (underAllB 2 (H'.map eP) && true)) = true; rw [under_prs, under_ints]; rfl)]
    rfl

theorem sd1 {o : Option ACell} (ho : okO o) (x : P) : dSiftdown (ctx o [x]) [.cell (ix o), .int 0, .int 0] = some (.none, ctx o [x]) := by
  cases o
  all_goals exact run_of rfl (seq_n rfl (seq_n (wh_f rfl) (seq_n rfl rfl))) (fin_ctx ho [x] [x])

theorem sd2 {o : Option ACell} (ho : okO o) (a x : P) : dSiftdown (ctx o [a, x]) [.cell (ix o), .int 0, .int 1] = some (.none, ctx o (bif lt x a then [x, a] else [a, x])) := by
  cases h0 : lt x a
  · cases o
    all_goals exact run_of rfl (seq_n rfl (seq_n (wh_b rfl (seq_n rfl (seq_n rfl (seq_n (if_f (congrArg some h0) rfl) (seq_b rfl))))) (seq_n rfl rfl))) (fin_ctx ho [a, x] [a, x])
  · cases o
    all_goals exact run_of rfl (seq_n rfl (seq_n (wh_c rfl (seq_n rfl (seq_n rfl (seq_c (if_t (congrArg some h0) (seq_n rfl (seq_n rfl (seq_c rfl))))))) (wh_f rfl)) (seq_n rfl rfl))) (fin_ctx ho [a, x] [x, a])

theorem sd3_1 {o : Option ACell} (ho : okO o) (a x c : P) : dSiftdown (ctx o [a, x, c]) [.cell (ix o), .int 0, .int 1] = some (.none, ctx o (bif lt x a then [x, a, c] else [a, x, c])) := by
  cases h0 : lt x a
  · cases o
    all_goals exact run_of rfl (seq_n rfl (seq_n (wh_b rfl (seq_n rfl (seq_n rfl (seq_n (if_f (congrArg some h0) rfl) (seq_b rfl))))) (seq_n rfl rfl))) (fin_ctx ho [a, x, c] [a, x, c])
  · cases o
    all_goals exact run_of rfl (seq_n rfl (seq_n (wh_c rfl (seq_n rfl (seq_n rfl (seq_c (if_t (congrArg some h0) (seq_n rfl (seq_n rfl (seq_c rfl))))))) (wh_f rfl)) (seq_n rfl rfl))) (fin_ctx ho [a, x, c] [x, a, c])

theorem sd3_2 {o : Option ACell} (ho : okO o) (a b x : P) : dSiftdown (ctx o [a, b, x]) [.cell (ix o), .int 0, .int 2] = some (.none, ctx o (bif lt x a then [x, b, a] else [a, b, x])) := by
  cases h0 : lt x a
  · cases o
    all_goals exact run_of rfl (seq_n rfl (seq_n (wh_b rfl (seq_n rfl (seq_n rfl (seq_n (if_f (congrArg some h0) rfl) (seq_b rfl))))) (seq_n rfl rfl))) (fin_ctx ho [a, b, x] [a, b, x])
  · cases o
    all_goals exact run_of rfl (seq_n rfl (seq_n (wh_c rfl (seq_n rfl (seq_n rfl (seq_c (if_t (congrArg some h0) (seq_n rfl (seq_n rfl (seq_c rfl))))))) (wh_f rfl)) (seq_n rfl rfl))) (fin_ctx ho [a, b, x] [x, b, a])

theorem sd4_2 {o : Option ACell} (ho : okO o) (a b x d : P) : dSiftdown (ctx o [a, b, x, d]) [.cell (ix o), .int 0, .int 2] = some (.none, ctx o (bif lt x a then [x, b, a, d] else [a, b, x, d])) := by
  cases h0 : lt x a
  · cases o
    all_goals exact run_of rfl (seq_n rfl (seq_n (wh_b rfl (seq_n rfl (seq_n rfl (seq_n (if_f (congrArg some h0) rfl) (seq_b rfl))))) (seq_n rfl rfl))) (fin_ctx ho [a, b, x, d] [a, b, x, d])
  · cases o
    all_goals exact run_of rfl (seq_n rfl (seq_n (wh_c rfl (seq_n rfl (seq_n rfl (seq_c (if_t (congrArg some h0) (seq_n rfl (seq_n rfl (seq_c rfl))))))) (wh_f rfl)) (seq_n rfl rfl))) (fin_ctx ho [a, b, x, d] [x, b, a, d])

theorem sd4_3 {o : Option ACell} (ho : okO o) (a b c x : P) : dSiftdown (ctx o [a, b, c, x]) [.cell (ix o), .int 0, .int 3] = some (.none, ctx o (bif lt x b then (bif lt x a then [x, a, c, b] else [a, x, c, b]) else [a, b, c, x])) := by
  cases h0 : lt x b
  · cases o
    all_goals exact run_of rfl (seq_n rfl (seq_n (wh_b rfl (seq_n rfl (seq_n rfl (seq_n (if_f (congrArg some h0) rfl) (seq_b rfl))))) (seq_n rfl rfl))) (fin_ctx ho [a, b, c, x] [a, b, c, x])
  · cases h1 : lt x a
    · cases o
      all_goals exact run_of rfl (seq_n rfl (seq_n (wh_c rfl (seq_n rfl (seq_n rfl (seq_c (if_t (congrArg some h0) (seq_n rfl (seq_n rfl (seq_c rfl))))))) (wh_b rfl (seq_n rfl (seq_n rfl (seq_n (if_f (congrArg some h1) rfl) (seq_b rfl)))))) (seq_n rfl rfl))) (fin_ctx ho [a, b, c, x] [a, x, c, b])
    · cases o
      all_goals exact run_of rfl (seq_n rfl (seq_n (wh_c rfl (seq_n rfl (seq_n rfl (seq_c (if_t (congrArg some h0) (seq_n rfl (seq_n rfl (seq_c rfl))))))) (wh_c rfl (seq_n rfl (seq_n rfl (seq_c (if_t (congrArg some h1) (seq_n rfl (seq_n rfl (seq_c rfl))))))) (wh_f rfl))) (seq_n rfl rfl))) (fin_ctx ho [a, b, c, x] [x, a, c, b])

theorem sd4_13 {o : Option ACell} (ho : okO o) (a b c x : P) : dSiftdown (ctx o [a, b, c, x]) [.cell (ix o), .int 1, .int 3] = some (.none, ctx o (bif lt x b then [a, x, c, b] else [a, b, c, x])) := by
  cases h0 : lt x b
  · cases o
    all_goals exact run_of rfl (seq_n rfl (seq_n (wh_b rfl (seq_n rfl (seq_n rfl (seq_n (if_f (congrArg some h0) rfl) (seq_b rfl))))) (seq_n rfl rfl))) (fin_ctx ho [a, b, c, x] [a, b, c, x])
  · cases o
    all_goals exact run_of rfl (seq_n rfl (seq_n (wh_c rfl (seq_n rfl (seq_n rfl (seq_c (if_t (congrArg some h0) (seq_n rfl (seq_n rfl (seq_c rfl))))))) (wh_f rfl)) (seq_n rfl rfl))) (fin_ctx ho [a, b, c, x] [a, x, c, b])

theorem call_n {fa : Nat} {F : DefF} {ff : ASt → Option AVal} {f : ASt → Option (List AVal)} {st : ASt} {as : List AVal} {r : AVal} {cs' : List ACell} (h0 : ff st = some (.cst (.ref fa))) (h1 : f st = some as) (hF : F st.cells as = some (r, cs')) : sCall fa F ff f st = some (.next, { st with cells := cs' }) := by
  unfold sCall; rw [h0, h1]; simp only [if_true, hF]; rfl
/-- siftup at the top -/
noncomputable def suL : List P → List P
  | [a, b] => bif lt a b then [a, b] else [b, a]
  | [a, b, c] => bif lt b c then (bif lt a b then [a, b, c] else [b, a, c]) else (bif lt a c then [a, b, c] else [c, b, a])
  | [a, b, c, d] => bif lt b c then (bif lt a d then (bif lt a b then [a, b, c, d] else [b, a, c, d]) else [b, d, c, a]) else (bif lt a c then [a, b, c, d] else [c, b, a, d])
  | H => H
noncomputable def su1 (a b c d : P) : List P := bif lt b d then [a, b, c, d] else [a, d, c, b]

theorem su_2 {o : Option ACell} (ho : okO o) (a b : P) : dSiftup (ctx o [a, b]) [.cell (ix o), .int 0] = some (.none, ctx o (suL [a, b])) := by
  cases o
  all_goals exact run_of rfl (seq_n rfl (seq_n rfl (seq_n rfl (seq_n rfl (seq_n (wh_n rfl rfl (wh_f rfl)) (seq_n rfl (seq_n (call_n rfl rfl (sd2 ho b a)) rfl))))))) (fin_ctx ho [a, b] (suL [a, b]))

theorem su_3 {o : Option ACell} (ho : okO o) (a b c : P) : dSiftup (ctx o [a, b, c]) [.cell (ix o), .int 0] = some (.none, ctx o (suL [a, b, c])) := by
  cases h : lt b c
  · have e : suL [a, b, c] = bif lt a c then [a, b, c] else [c, b, a] := by show (bif lt b c then _ else _) = _; rw [h]; rfl
    rw [e]
    cases o
    all_goals exact run_of rfl (seq_n rfl (seq_n rfl (seq_n rfl (seq_n rfl (seq_n (wh_n rfl (seq_n rfl (seq_n (if_t (by show (match some (!lt b c) with | some true => some true | r => r) = some true; rw [h]; rfl) rfl) rfl)) (wh_f rfl)) (seq_n rfl (seq_n (call_n rfl rfl (sd3_2 ho c b a)) rfl))))))) (fin_ctx ho [a, b, c] (bif lt a c then [a, b, c] else [c, b, a]))
  · have e : suL [a, b, c] = bif lt a b then [a, b, c] else [b, a, c] := by show (bif lt b c then _ else _) = _; rw [h]; rfl
    rw [e]
    cases o
    all_goals exact run_of rfl (seq_n rfl (seq_n rfl (seq_n rfl (seq_n rfl (seq_n (wh_n rfl (seq_n rfl (seq_n (if_f (by show (match some (!lt b c) with | some true => some true | r => r) = some false; rw [h]; rfl) rfl) rfl)) (wh_f rfl)) (seq_n rfl (seq_n (call_n rfl rfl (sd3_1 ho b a c)) rfl))))))) (fin_ctx ho [a, b, c] (bif lt a b then [a, b, c] else [b, a, c]))

theorem su_4 {o : Option ACell} (ho : okO o) (a b c d : P) : dSiftup (ctx o [a, b, c, d]) [.cell (ix o), .int 0] = some (.none, ctx o (suL [a, b, c, d])) := by
  cases h : lt b c
  · have e : suL [a, b, c, d] = bif lt a c then [a, b, c, d] else [c, b, a, d] := by show (bif lt b c then _ else _) = _; rw [h]; rfl
    rw [e]
    cases o
    all_goals exact run_of rfl (seq_n rfl (seq_n rfl (seq_n rfl (seq_n rfl (seq_n (wh_n rfl (seq_n rfl (seq_n (if_t (by show (match some (!lt b c) with | some true => some true | r => r) = some true; rw [h]; rfl) rfl) rfl)) (wh_f rfl)) (seq_n rfl (seq_n (call_n rfl rfl (sd4_2 ho c b a d)) rfl))))))) (fin_ctx ho [a, b, c, d] (bif lt a c then [a, b, c, d] else [c, b, a, d]))
  · have e : suL [a, b, c, d] = bif lt a d then (bif lt a b then [a, b, c, d] else [b, a, c, d]) else [b, d, c, a] := by show (bif lt b c then _ else _) = _; rw [h]; rfl
    rw [e]
    match o, ho with
    | none, ho => exact run_of rfl (seq_n rfl (seq_n rfl (seq_n rfl (seq_n rfl (seq_n (wh_n (st1 := ⟨[some (.cell (ix (none))), some (.int 1), some (.int 4), some (.int 0), some (eP a), some (.int 3), some (.int 2)], ctx (none) [b, b, c, d]⟩) rfl (seq_n rfl (seq_n (if_f (by show (match some (!lt b c) with | some true => some true | r => r) = some false; rw [h]; rfl) rfl) rfl)) (wh_n (st1 := ⟨[some (.cell (ix (none))), some (.int 3), some (.int 4), some (.int 0), some (eP a), some (.int 7), some (.int 4)], ctx (none) [b, d, c, d]⟩) rfl rfl (wh_f rfl))) (seq_n rfl (seq_n (call_n rfl rfl (sd4_3 ho b d c a)) rfl))))))) (fin_ctx ho [a, b, c, d] (bif lt a d then (bif lt a b then [a, b, c, d] else [b, a, c, d]) else [b, d, c, a]))
    | some d0, ho => exact run_of rfl (seq_n rfl (seq_n rfl (seq_n rfl (seq_n rfl (seq_n (wh_n (st1 := ⟨[some (.cell (ix (some d0))), some (.int 1), some (.int 4), some (.int 0), some (eP a), some (.int 3), some (.int 2)], ctx (some d0) [b, b, c, d]⟩) rfl (seq_n rfl (seq_n (if_f (by show (match some (!lt b c) with | some true => some true | r => r) = some false; rw [h]; rfl) rfl) rfl)) (wh_n (st1 := ⟨[some (.cell (ix (some d0))), some (.int 3), some (.int 4), some (.int 0), some (eP a), some (.int 7), some (.int 4)], ctx (some d0) [b, d, c, d]⟩) rfl rfl (wh_f rfl))) (seq_n rfl (seq_n (call_n rfl rfl (sd4_3 ho b d c a)) rfl))))))) (fin_ctx ho [a, b, c, d] (bif lt a d then (bif lt a b then [a, b, c, d] else [b, a, c, d]) else [b, d, c, a]))
theorem su_41 {o : Option ACell} (ho : okO o) (a b c d : P) : dSiftup (ctx o [a, b, c, d]) [.cell (ix o), .int 1] = some (.none, ctx o (su1 a b c d)) := by
  cases o
  all_goals exact run_of rfl (seq_n rfl (seq_n rfl (seq_n rfl (seq_n rfl (seq_n (wh_n rfl rfl (wh_f rfl)) (seq_n rfl (seq_n (call_n rfl rfl (sd4_13 ho a d c b)) rfl))))))) (fin_ctx ho [a, b, c, d] (su1 a b c d))

end Mine

end
section
set_option maxRecDepth 100000

namespace Mine
theorem for_of {f : ASt → Option (List AVal)} {tg : AVal → ASt → Option ASt} {b : AS} {st : ASt} {xs : List AVal} {r : Option (AFlow × ASt)} (h : f st = some xs) (k : forL tg b xs st = r) : sFor f tg b st = r := by unfold sFor; rw [h]; exact k
theorem for_n {tg : AVal → ASt → Option ASt} {b : AS} {st st1 st2 : ASt} {x : AVal} {xs : List AVal} {r : Option (AFlow × ASt)} (h : tg x st = some st1) (k : b st1 = some (.next, st2)) (m : forL tg b xs st2 = r) : forL tg b (x :: xs) st = r := by unfold forL; rw [h]; simp only [k]; exact m
theorem for_c {tg : AVal → ASt → Option ASt} {b : AS} {st st1 st2 : ASt} {x : AVal} {xs : List AVal} {r : Option (AFlow × ASt)} (h : tg x st = some st1) (k : b st1 = some (.cont, st2)) (m : forL tg b xs st2 = r) : forL tg b (x :: xs) st = r := by unfold forL; rw [h]; simp only [k]; exact m

noncomputable def pushL : List P → P → List P
  | [], x => [x]
  | [a], x => bif lt x a then [x, a] else [a, x]
  | [a, b], x => bif lt x a then [x, b, a] else [a, b, x]
  | [a, b, c], x => bif lt x b then (bif lt x a then [x, a, c, b] else [a, x, c, b]) else [a, b, c, x]
  | H, _ => H
noncomputable def hfL : List P → List P
  | [a, b, c, d] => suL (su1 a b c d)
  | H => suL H

theorem push_eval : ∀ (H : List P) (x : P), H.length ≤ 3 → dHeappush (ctx none H) [.cell 0, eP x] = some (.none, ctx none (pushL H x))
  | [], x, _ => run_of rfl (seq_n rfl (seq_n (call_n rfl rfl (sd1 (o := none) trivial x)) rfl)) (fin_ctx (o := none) trivial [] [x])
  | [a], x, _ => run_of rfl (seq_n rfl (seq_n (call_n rfl rfl (sd2 (o := none) trivial a x)) rfl)) (fin_ctx (o := none) trivial [a] (pushL [a] x))
  | [a, b], x, _ => run_of rfl (seq_n rfl (seq_n (call_n rfl rfl (sd3_2 (o := none) trivial a b x)) rfl)) (fin_ctx (o := none) trivial [a, b] (pushL [a, b] x))
  | [a, b, c], x, _ => run_of rfl (seq_n rfl (seq_n (call_n rfl rfl (sd4_3 (o := none) trivial a b c x)) rfl)) (fin_ctx (o := none) trivial [a, b, c] (pushL [a, b, c] x))
  | _ :: _ :: _ :: _ :: _, _, h => absurd h (by simp)

theorem fin_ctxR {o : Option ACell} (ho : okO o) (H H' : List P) (p : P) : finish (ctx o H).length (eP p) (ctx o H') = some (eP p, ctx o H') := by
  cases o with
  | none =>
    show (if (([ACell.lst (H'.map eP)].take 1).all (·.underB 1)) = true then _ else _) = _
    rw [if_pos (show _ from by show (underAllB 1 (H'.map eP) && true) = true; rw [under_prs]; rfl)]
    rfl
  | some d =>
    obtain ⟨xs, k, rfl⟩ := ho
    show (if (([ACell.itL (xs.map .int) k, ACell.lst (H'.map eP)].take 2).all (·.underB 2)) = true then _ else _) = _
    rw [if_pos (show _ from by show (underAllB 2 (xs.map .int) && (underAllB 2 (H'.map eP) && true)) = true; rw [under_prs, under_ints]; rfl)]
    rfl
theorem su_eval {o : Option ACell} (ho : okO o) : ∀ (H : List P), 2 ≤ H.length → H.length ≤ 4 → dSiftup (ctx o H) [.cell (ix o), .int 0] = some (.none, ctx o (suL H))
  | [a, b], _, _ => su_2 ho a b
  | [a, b, c], _, _ => su_3 ho a b c
  | [a, b, c, d], _, _ => su_4 ho a b c d
  | [], h, _ => absurd h (by simp)
  | [_], h, _ => absurd h (by simp)
  | _ :: _ :: _ :: _ :: _ :: _, _, h => absurd h (by simp)
theorem repl_eval {o : Option ACell} (ho : okO o) (a x : P) (r : List P) (h1 : 1 ≤ r.length) (h3 : r.length ≤ 3) : dHeapreplace (ctx o (a :: r)) [.cell (ix o), eP x] = some (eP a, ctx o (suL (x :: r))) := by
  have s := su_eval ho (x :: r) (by simpa using h1) (by simpa using h3)
  match r, h1, h3 with
  | [b], _, _ => cases o <;> exact run_of rfl (seq_n rfl (seq_n rfl (seq_n (call_n rfl rfl s) (seq_r rfl)))) (fin_ctxR ho [a, b] _ a)
  | [b, c], _, _ => cases o <;> exact run_of rfl (seq_n rfl (seq_n rfl (seq_n (call_n rfl rfl s) (seq_r rfl)))) (fin_ctxR ho [a, b, c] _ a)
  | [b, c, d], _, _ => cases o <;> exact run_of rfl (seq_n rfl (seq_n rfl (seq_n (call_n rfl rfl s) (seq_r rfl)))) (fin_ctxR ho [a, b, c, d] _ a)
  | [], h, _ => exact absurd h (by simp)
  | _ :: _ :: _ :: _ :: _, _, h => exact absurd h (by simp)
theorem hf_eval {o : Option ACell} (ho : okO o) : ∀ (H : List P), 1 ≤ H.length → H.length ≤ 4 → dHeapify (ctx o H) [.cell (ix o)] = some (.none, ctx o (hfL H))
  | [a], _, _ => by cases o <;> exact run_of rfl (seq_n rfl (seq_n (for_of (xs := []) (by kernel_rfl) rfl) rfl)) (fin_ctx ho [a] [a])
  | [a, b], _, _ => by cases o <;> exact run_of rfl (seq_n rfl (seq_n (for_of (xs := [.int 0]) (by kernel_rfl) (for_n rfl (seq_n (call_n rfl rfl (su_2 ho a b)) rfl) rfl)) rfl)) (fin_ctx ho [a, b] _)
  | [a, b, c], _, _ => by cases o <;> exact run_of rfl (seq_n rfl (seq_n (for_of (xs := [.int 0]) (by kernel_rfl) (for_n rfl (seq_n (call_n rfl rfl (su_3 ho a b c)) rfl) rfl)) rfl)) (fin_ctx ho [a, b, c] _)
  | [a, b, c, d], _, _ => by
    have s1 := su_41 ho a b c d
    show _ = some (AVal.none, ctx o (suL (su1 a b c d)))
    have s2 : dSiftup (ctx o (su1 a b c d)) [.cell (ix o), .int 0] = some (.none, ctx o (suL (su1 a b c d))) := by
      unfold su1; cases lt b d
      · exact su_4 ho a d c b
      · exact su_4 ho a b c d
    cases o <;> exact run_of rfl (seq_n rfl (seq_n (for_of (xs := [.int 1, .int 0]) (by kernel_rfl) (for_n rfl (seq_n (call_n rfl rfl s1) rfl) (for_n rfl (seq_n (call_n rfl rfl s2) rfl) rfl))) rfl)) (fin_ctx ho [a, b, c, d] _)
  | [], h, _ => absurd h (by simp)
  | _ :: _ :: _ :: _ :: _ :: _, _, h => absurd h (by simp)
end Mine

end
section
set_option maxRecDepth 100000

namespace Mine
/-! order of pairs, heaps -/
noncomputable abbrev le (p q : P) : Prop := lt q p = false
theorem lt_iff {p q : P} : lt p q = true ↔ p.1 < q.1 ∨ (p.1 = q.1 ∧ p.2 < q.2) := by
  unfold lt ltPair; split
  · simp only [decide_eq_true_eq]; omega
  · simp only [decide_eq_true_eq]; omega
theorem le_iff {p q : P} : le p q ↔ p.1 < q.1 ∨ (p.1 = q.1 ∧ p.2 ≤ q.2) := by
  unfold le
  rw [← Bool.not_eq_true, lt_iff]; omega
theorem le_of_lt' {p q : P} (h : lt p q = true) : le p q := by rw [lt_iff] at h; rw [le_iff]; omega
theorem le_tr {p q r : P} (h : le p q) (k : le q r) : le p r := by rw [le_iff] at *; omega
theorem le_fst {p q : P} (h : le p q) : p.1 ≤ q.1 := by rw [le_iff] at h; omega
noncomputable def isHp : List P → Prop
  | [a, b] => le a b
  | [a, b, c] => le a b ∧ le a c
  | [a, b, c, d] => le a b ∧ le a c ∧ le b d
  | _ => True
theorem isHp_top {a : P} : ∀ {r : List P}, r.length ≤ 3 → isHp (a :: r) → ∀ p ∈ r, le a p
  | [], _, _, p, hp => nomatch hp
  | [b], _, h, p, hp => by obtain rfl := List.mem_singleton.mp hp; exact h
  | [b, c], _, h, p, hp => by
    rcases List.mem_cons.mp hp with rfl | hp
    · exact h.1
    · obtain rfl := List.mem_singleton.mp hp; exact h.2
  | [b, c, d], _, h, p, hp => by
    rcases List.mem_cons.mp hp with rfl | hp
    · exact h.1
    rcases List.mem_cons.mp hp with rfl | hp
    · exact h.2.1
    · obtain rfl := List.mem_singleton.mp hp; exact le_tr h.1 h.2.2
  | _ :: _ :: _ :: _ :: _, h, _, _, _ => absurd h (by simp)
theorem p02 {a b c : P} {r : List P} : (c :: b :: a :: r).Perm (a :: b :: c :: r) := ((List.Perm.swap b c (a :: r)).trans ((List.Perm.swap a c r).cons b)).trans (List.Perm.swap a b (c :: r))
theorem suL_ok : ∀ (H : List P), 2 ≤ H.length → H.length ≤ 4 → (∀ a b c d, H = [a, b, c, d] → le b d) → isHp (suL H) ∧ (suL H).Perm H
  | [a, b], _, _, _ => by
    rw [show suL [a, b] = bif lt a b then [a, b] else [b, a] from rfl]; cases h : lt a b
    · exact ⟨h, .swap _ _ _⟩
    · exact ⟨le_of_lt' h, .refl _⟩
  | [a, b, c], _, _, _ => by
    rw [show suL [a, b, c] = bif lt b c then (bif lt a b then [a, b, c] else [b, a, c]) else (bif lt a c then [a, b, c] else [c, b, a]) from rfl]; cases h : lt b c
    · cases k : lt a c
      · exact ⟨⟨h, k⟩, p02⟩
      · exact ⟨⟨le_tr (le_of_lt' k) h, le_of_lt' k⟩, .refl _⟩
    · cases k : lt a b
      · exact ⟨⟨k, le_of_lt' h⟩, .swap _ _ _⟩
      · exact ⟨⟨le_of_lt' k, le_tr (le_of_lt' k) (le_of_lt' h)⟩, .refl _⟩
  | [a, b, c, d], _, _, hd => by
    have hd := hd a b c d rfl
    rw [show suL [a, b, c, d] = bif lt b c then (bif lt a d then (bif lt a b then [a, b, c, d] else [b, a, c, d]) else [b, d, c, a]) else (bif lt a c then [a, b, c, d] else [c, b, a, d]) from rfl]; cases h : lt b c
    · cases k : lt a c
      · exact ⟨⟨h, k, hd⟩, p02⟩
      · exact ⟨⟨le_tr (le_of_lt' k) h, le_of_lt' k, hd⟩, .refl _⟩
    · cases k : lt a d
      · exact ⟨⟨hd, le_of_lt' h, k⟩, (p02.cons b).trans (.swap _ _ _)⟩
      · cases l : lt a b
        · exact ⟨⟨l, le_of_lt' h, le_of_lt' k⟩, .swap _ _ _⟩
        · exact ⟨⟨le_of_lt' l, le_tr (le_of_lt' l) (le_of_lt' h), hd⟩, .refl _⟩
  | [], h, _, _ => absurd h (by simp)
  | [_], h, _, _ => absurd h (by simp)
  | _ :: _ :: _ :: _ :: _ :: _, _, h, _ => absurd h (by simp)
theorem hfL_ok : ∀ (H : List P), 1 ≤ H.length → H.length ≤ 4 → isHp (hfL H) ∧ (hfL H).Perm H
  | [a], _, _ => ⟨trivial, .refl _⟩
  | [a, b], _, _ => suL_ok [a, b] (by simp) (by simp) (fun _ _ _ _ h => nomatch h)
  | [a, b, c], _, _ => suL_ok [a, b, c] (by simp) (by simp) (fun _ _ _ _ h => nomatch h)
  | [a, b, c, d], _, _ => by
    show isHp (suL (su1 a b c d)) ∧ (suL (su1 a b c d)).Perm _
    unfold su1; cases h : lt b d
    · have := suL_ok [a, d, c, b] (by simp) (by simp) (fun _ _ _ _ e => by cases e; exact h)
      exact ⟨this.1, this.2.trans (p02.cons a)⟩
    · exact suL_ok [a, b, c, d] (by simp) (by simp) (fun _ _ _ _ e => by cases e; exact le_of_lt' h)
  | [], h, _ => absurd h (by simp)
  | _ :: _ :: _ :: _ :: _ :: _, _, h => absurd h (by simp)
theorem repl_ok {a x : P} {r : List P} (h : isHp (a :: r)) (h1 : 1 ≤ r.length) (h3 : r.length ≤ 3) : isHp (suL (x :: r)) ∧ (suL (x :: r)).Perm (x :: r) :=
  suL_ok (x :: r) (by simpa using h1) (by simpa using h3) fun _ _ _ _ e => by cases e; exact h.2.2
theorem pushL_ok : ∀ (H : List P) (x : P), isHp H → H.length ≤ 3 → isHp (pushL H x) ∧ (pushL H x).Perm (x :: H)
  | [], x, _, _ => ⟨trivial, .refl _⟩
  | [a], x, _, _ => by
    rw [show pushL [a] x = bif lt x a then [x, a] else [a, x] from rfl]; cases h : lt x a
    · exact ⟨h, .swap _ _ _⟩
    · exact ⟨le_of_lt' h, .refl _⟩
  | [a, b], x, hh, _ => by
    rw [show pushL [a, b] x = bif lt x a then [x, b, a] else [a, b, x] from rfl]; cases h : lt x a
    · exact ⟨⟨hh, h⟩, List.perm_append_comm (l₁ := [a, b]) (l₂ := [x])⟩
    · exact ⟨⟨le_tr (le_of_lt' h) hh, le_of_lt' h⟩, (List.Perm.swap _ _ _).cons x⟩
  | [a, b, c], x, hh, _ => by
    rw [show pushL [a, b, c] x = bif lt x b then (bif lt x a then [x, a, c, b] else [a, x, c, b]) else [a, b, c, x] from rfl]; cases h : lt x b
    · exact ⟨⟨hh.1, hh.2, h⟩, List.perm_append_comm (l₁ := [a, b, c]) (l₂ := [x])⟩
    · cases k : lt x a
      · exact ⟨⟨k, hh.2, le_of_lt' h⟩, (List.Perm.swap _ _ _).trans (((List.Perm.swap _ _ _).cons a).cons x)⟩
      · exact ⟨⟨le_of_lt' k, le_tr (le_of_lt' k) hh.2, hh.1⟩, ((List.Perm.swap _ _ _).cons a).cons x⟩
  | _ :: _ :: _ :: _ :: _, _, _, h => absurd h (by simp)

/-! comprehensions -/
theorem comp_list {α : Type} {tg : AVal → ASt → Option ASt} {ci : ASt → Option Bool} {body : CStep} {enc : α → AVal} {R : ASt → Prop} {Pr : α → Bool} {F : α → List AVal} : ∀ (xs : List α) (acc : List AVal) (st : ASt), R st →
    (∀ x ∈ xs, ∀ st, R st → ∃ st1, tg (enc x) st = some st1 ∧ ci st1 = some (Pr x) ∧ R st1 ∧ (Pr x = true → ∀ acc : List AVal, acc.length + (F x).length ≤ 1000 → ∃ st', body st1 (.lst acc) = some (.lst (acc ++ F x), st') ∧ R st')) →
    acc.length + ((xs.filter Pr).flatMap F).length ≤ 1000 → ∃ st', compF tg ci body (xs.map enc) st (.lst acc) = some (.lst (acc ++ (xs.filter Pr).flatMap F), st') ∧ R st'
  | [], acc, st, hR, _, _ => ⟨st, by simp [compF], hR⟩
  | x :: xs, acc, st, hR, h, hl => by
    obtain ⟨st1, h1, h2, h3, h4⟩ := h x (.head _) st hR
    rw [List.map_cons, compF, h1, Option.bind_some, h2]
    rw [List.filter_cons] at hl ⊢
    cases hp : Pr x
    · rw [hp] at hl
      exact comp_list xs acc st1 h3 (fun y hy => h y (.tail _ hy)) hl
    · rw [hp] at hl
      rw [if_pos rfl, List.flatMap_cons, List.length_append] at hl
      obtain ⟨st2, h5, h6⟩ := h4 hp acc (by omega)
      obtain ⟨st3, h7, h8⟩ := comp_list xs (acc ++ F x) st2 h6 (fun y hy => h y (.tail _ hy)) (by rw [List.length_append]; omega)
      refine ⟨st3, ?_, h8⟩
      show (body st1 (.lst acc)).bind _ = _
      rw [h5, Option.bind_some, if_pos rfl, List.flatMap_cons, ← List.append_assoc]
      exact h7
theorem emit_ok {fe : ASt → Option AVal} {st : ASt} {v : AVal} (h : fe st = some v) (acc : List AVal) (hl : acc.length + [v].length ≤ 1000) : emitL fe st (.lst acc) = some (.lst (acc ++ [v]), st) := by
  unfold emitL; rw [h]
  show (if acc.length < 1000 then _ else _) = _
  rw [if_pos (by have : acc.length + 1 ≤ 1000 := hl; omega)]
theorem pcomp_l {α : Type} {a b : List Str} {fi : ASt → Option (List AVal)} {nt : Nat} {caps : List Nat} {tg : AVal → ASt → Option ASt} {ci : ASt → Option Bool} {body : CStep} {enc : α → AVal} {R : ASt → Prop} {Pr : α → Bool} {F : α → List AVal} {st : ASt} (xs : List α) (hfi : fi st = some (xs.map enc)) (hR : R (capSt nt caps st))
    (h : ∀ x ∈ xs, ∀ st, R st → ∃ st1, tg (enc x) st = some st1 ∧ ci st1 = some (Pr x) ∧ R st1 ∧ (Pr x = true → ∀ acc : List AVal, acc.length + (F x).length ≤ 1000 → ∃ st', body st1 (.lst acc) = some (.lst (acc ++ F x), st') ∧ R st'))
    (hl : ((xs.filter Pr).flatMap F).length ≤ 1000) : pCompN a b fi nt caps (.lst []) tg ci body st = some (.lst ((xs.filter Pr).flatMap F)) := by
  unfold pCompN pComp
  obtain ⟨st', h1, _⟩ := comp_list xs [] (capSt nt caps st) hR h (by simpa using hl)
  rw [hfi, Option.bind_some, h1]; rfl
theorem dput_len (es : List (Int × Int)) (k v : Int) : (dput es k v).length ≤ es.length + 1 := by
  unfold dput; split <;> simp
theorem comp_dict {α : Type} {tg : AVal → ASt → Option ASt} {ci : ASt → Option Bool} {fk fv : ASt → Option AVal} {enc : α → AVal} {R : ASt → Prop} {Pr : α → Bool} {k v : α → Int} : ∀ (xs : List α) (es : List (Int × Int)) (st : ASt), R st →
    (∀ x ∈ xs, ∀ st, R st → ∃ st1, tg (enc x) st = some st1 ∧ ci st1 = some (Pr x) ∧ R st1 ∧ (Pr x = true → fk st1 = some (.int (k x)) ∧ fv st1 = some (.int (v x)))) →
    es.length + xs.length ≤ 1000 → ∃ st', compF tg ci (emitD fk fv) (xs.map enc) st (.dct es) = some (.dct ((xs.filter Pr).foldl (fun es x => dput es (k x) (v x)) es), st')
  | [], es, st, hR, _, _ => ⟨st, by simp [compF]⟩
  | x :: xs, es, st, hR, h, hl => by
    obtain ⟨st1, h1, h2, h3, h4⟩ := h x (.head _) st hR
    rw [List.map_cons, compF, h1, Option.bind_some, h2]
    rw [List.length_cons] at hl
    rw [List.filter_cons]
    cases hp : Pr x
    · exact comp_dict xs es st1 h3 (fun y hy => h y (.tail _ hy)) (by omega)
    · obtain ⟨h5, h6⟩ := h4 hp
      have hd := dput_len es (k x) (v x)
      obtain ⟨st3, h7⟩ := comp_dict xs (dput es (k x) (v x)) st1 h3 (fun y hy => h y (.tail _ hy)) (by omega)
      refine ⟨st3, ?_⟩
      show (emitD fk fv st1 (.dct es)).bind _ = _
      unfold emitD
      rw [h5, h6]
      show (if es.length < 1000 then some (ACell.dct (dput es (k x) (v x)), st1) else none).bind _ = _
      rw [if_pos (by omega)]
      exact h7
theorem pcomp_d {α : Type} {a b : List Str} {fi : ASt → Option (List AVal)} {nt : Nat} {caps : List Nat} {tg : AVal → ASt → Option ASt} {ci : ASt → Option Bool} {fk fv : ASt → Option AVal} {enc : α → AVal} {R : ASt → Prop} {Pr : α → Bool} {k v : α → Int} {st : ASt} (xs : List α) (hfi : fi st = some (xs.map enc)) (hR : R (capSt nt caps st))
    (h : ∀ x ∈ xs, ∀ st, R st → ∃ st1, tg (enc x) st = some st1 ∧ ci st1 = some (Pr x) ∧ R st1 ∧ (Pr x = true → fk st1 = some (.int (k x)) ∧ fv st1 = some (.int (v x))))
    (hl : xs.length ≤ 1000) : pCompN a b fi nt caps (.dct []) tg ci (emitD fk fv) st = some (.dct ((xs.filter Pr).foldl (fun es x => dput es (k x) (v x)) [])) := by
  unfold pCompN pComp
  obtain ⟨st', h1⟩ := comp_dict xs [] (capSt nt caps st) hR h (by simpa using hl)
  rw [hfi, Option.bind_some, h1]; rfl
end Mine

end
section
set_option maxRecDepth 100000

namespace Mine
theorem two60 : (2 : Int) ^ 60 = 1152921504606846976 := by decide
theorem cast_ok {k : Nat} (h : k < 1000) : (0 : Int) ≤ (k : Int) ∧ (k : Int) < 2 ^ 60 := by rw [two60]; omega
theorem nthI_ok {xs : List AVal} {k : Nat} {a : AVal} (h : k < 1000) (e : xs[k]? = some a) : nthI xs (k : Int) = some a := by
  unfold nthI; rw [if_pos (cast_ok h), Int.toNat_natCast]; exact e
theorem ei_l {g g' : Op2} {cs : List ACell} {a b c : AVal} (h : g cs a b = some c) : gEither g g' cs a b = some c := by unfold gEither; rw [h]
theorem ei_r {g g' : Op2} {cs : List ACell} {a b : AVal} {r : Option AVal} (h : g cs a b = none) (k : g' cs a b = r) : gEither g g' cs a b = r := by unfold gEither; rw [h]; exact k
theorem lstOf_cell {cs : List ACell} {i : Nat} {xs : List AVal} (hc : cs[i]? = some (.lst xs)) : lstOf cs (.cell i) = some xs := by unfold lstOf; simp only [AVal.lst?, AVal.cell?, Option.bind_some, hc, ACell.lst?]
theorem int_q (i : Int) : (AVal.int i).int? = some i := rfl
theorem cell_q (i : Nat) : (AVal.cell i).cell? = some i := rfl
theorem itemA {cs : List ACell} {b : AVal} {k : Nat} {xs : List AVal} {a : AVal} (hc : lstOf cs b = some xs) (h : k < 1000) (e : xs[k]? = some a) : gItemL cs b (.int (k : Int)) = some a := by
  unfold gItemL
  rw [hc, Option.bind_some, int_q, Option.bind_some]
  exact nthI_ok h e
/-- an item of a list that is a cell, or a list -/
theorem item_L {cs : List ACell} {b : AVal} {k : Nat} {xs : List AVal} {a : AVal} (hc : lstOf cs b = some xs) (h : k < 1000) (e : xs[k]? = some a) : gItem cs b (.int (k : Int)) = some a := by
  unfold gItem
  exact ei_l (itemA hc h e)
theorem item_p0 {cs : List ACell} (p : P) : gItem cs (eP p) (.int 0) = some (.int p.1) := rfl
theorem item_p1 {cs : List ACell} (p : P) : gItem cs (eP p) (.int 1) = some (.int p.2) := rfl
theorem bin_of {g : Op2} {f1 f2 : ASt → Option AVal} {st : ASt} {a b : AVal} {r : Option AVal} (h1 : f1 st = some a) (h2 : f2 st = some b) (h : g st.cells a b = r) : bin2 g f1 f2 st = r := by
  unfold bin2; rw [h1, h2]; exact h
theorem tc_of {g : Op2} {f1 f2 : ASt → Option AVal} {st : ASt} {a b : AVal} {r : Bool} (h1 : f1 st = some a) (h2 : f2 st = some b) (h : g st.cells a b = some (.bool r)) : tcmp g f1 f2 st = some r := by
  unfold tcmp; rw [bin_of h1 h2 h]
theorem as_of {i : Nat} {f : ASt → Option AVal} {st : ASt} {a : AVal} (h : f st = some a) : sAssign i f st = some (.next, stv i a st) := by unfold sAssign; rw [h]; rfl
theorem ret_of {f : ASt → Option AVal} {st : ASt} {a : AVal} (h : f st = some a) : sRet f st = some (.ret a, st) := by unfold sRet; rw [h]; rfl
theorem setCell_ok {cs : List ACell} {j k : Nat} {xs : List AVal} {a : AVal} (hc : cs[j]? = some (.lst xs)) (hk : k < xs.length) (hl : xs.length < 1000) : setCell cs j (k : Int) a = some (cs.set j (.lst (xs.set k a))) := by
  unfold setCell
  rw [hc, Option.bind_some, show (ACell.lst xs).lst? = some xs from rfl]
  dsimp only
  rw [if_pos ⟨(cast_ok (by omega)).1, (cast_ok (by omega)).2, by omega⟩, Int.toNat_natCast]
theorem set_of {fv fo fi : ASt → Option AVal} {st : ASt} {a : AVal} {j k : Nat} {xs : List AVal} (h1 : fv st = some a) (h2 : fo st = some (.cell j)) (h3 : fi st = some (.int (k : Int))) (hc : st.cells[j]? = some (.lst xs)) (hk : k < xs.length) (hl : xs.length < 1000) :
    sSet fv fo fi st = some (.next, { st with cells := st.cells.set j (.lst (xs.set k a)) }) := by
  unfold sSet
  rw [h1, Option.bind_some, h2, Option.bind_some, h3, Option.bind_some, cell_q, Option.bind_some, int_q, Option.bind_some, setCell_ok hc hk hl, Option.bind_some]
theorem len_lst {cs : List ACell} {a : AVal} {xs : List AVal} (h : lstOf cs a = some xs) (hl : xs.length < 1000) : fun1 lenA cs [a] = some (.int xs.length) := by
  show lenA cs a = _
  unfold lenA; rw [h]; simp only [if_pos hl]
theorem pB_1 {g : BFn} {f : ASt → Option AVal} {st : ASt} {a : AVal} {r : Option AVal} (h : f st = some a) (k : g st.cells [a] = r) : pB g (consF f nilF) nilF st = r := by
  unfold pB consF nilF; rw [h]; exact k

theorem flat1 {α β : Type} (f : α → β) : ∀ l : List α, (l.flatMap fun x => [f x]) = l.map f
  | [] => rfl
  | x :: l => congrArg (f x :: ·) (flat1 f l)
noncomputable def hit (H : List P) (x : Int) (k : Nat) : Bool := ((H[k]?).map fun p => p.2 == x).getD false
noncomputable def comeL (w : Nat) (H : List P) (x : Int) : List P := match (List.range H.length).filter (hit H x) with
  | k :: _ => hfL (H.set k (((H[k]?).map fun p => p.1 + 1).getD 0, x))
  | [] => if H.length ≤ w then pushL H (1, x) else match H with
    | a :: r => suL ((a.1 + 1, x) :: r)
    | [] => []

theorem come_places (w : Nat) (H : List P) (x : Int) (hl : H.length ≤ 4) : pCompN [Str.ofString "k", Str.ofString "heap", Str.ofString "word"] [] (iRange (pB (fun1 lenA) (consF (ldv 1) nilF) nilF)) 1 [1, 2] (.lst []) (tgName 0) (tcmp gEq (bin2 gItem (bin2 gItem (ldv 1) (ldv 0)) (kI 1)) (ldv 2)) (emitL (ldv 0)) ⟨[some (.int w), some (.cell 0), some (.int x), none], ctx none H⟩ =
    some (.lst (((List.range H.length).filter (hit H x)).map fun k : Nat => AVal.int (k : Int))) := by
  have hml : (H.map eP).length = H.length := List.length_map ..
  rw [← flat1]
  refine pcomp_l (enc := fun k : Nat => AVal.int (k : Int)) (R := fun st => ∃ t, st = ⟨[t, some (.cell 0), some (.int x)], ctx none H⟩) (List.range H.length) ?_ ⟨none, rfl⟩ ?_ ?_
  · unfold iRange
    rw [pB_1 (r := some (.int H.length)) (a := .cell 0) rfl ((len_lst (xs := H.map eP) rfl (by omega)).trans (by rw [hml])), Option.bind_some, int_q, Option.bind_some, if_pos ⟨by omega, by omega⟩, Int.toNat_natCast]
  · rintro k hk st ⟨t, rfl⟩
    have hk' : k < H.length := List.mem_range.mp hk
    have hp : H[k]? = some H[k] := List.getElem?_eq_getElem hk'
    refine ⟨_, rfl, ?_, ⟨_, rfl⟩, fun _ acc ha => ⟨_, emit_ok rfl acc ha, ⟨_, rfl⟩⟩⟩
    refine tc_of (bin_of (bin_of rfl rfl (item_L (lstOf_cell (i := 0) rfl) (by omega) (by rw [List.getElem?_map, hp]; rfl))) rfl (item_p1 _)) rfl ?_
    unfold hit; rw [hp]; rfl
  · have := List.length_filter_le (hit H x) (List.range H.length)
    rw [List.length_range] at this
    rw [flat1, List.length_map]; omega
theorem come_cond (w : Nat) (H : List P) (v : Option AVal) (x : AVal) (hl : H.length ≤ 4) : tcmp gLe (pB (fun1 lenA) (consF (ldv 1) nilF) nilF) (ldv 0) ⟨[some (.int w), some (.cell 0), some x, v], ctx none H⟩ = some (decide (H.length ≤ w)) := by
  have hml : (H.map eP).length = H.length := List.length_map ..
  refine tc_of (pB_1 rfl (len_lst (xs := H.map eP) rfl (by omega))) rfl ?_
  show some (AVal.bool (decide (((H.map eP).length : Int) ≤ (w : Int)))) = _
  rw [hml]
  exact congrArg (fun b => some (AVal.bool b)) (decide_eq_decide.mpr (by omega))
theorem come_push (w : Nat) (H : List P) (x : Int) (hle : H.length ≤ w) (hw : w ≤ 3) (hp : (List.range H.length).filter (hit H x) = []) : dLawCome (ctx none H) [.int w, .cell 0, .int x] = some (.none, ctx none (pushL H (1, x))) := by
  have hpl := come_places w H x (by omega)
  rw [hp] at hpl
  have hc := come_cond w H (some (.lst [])) (.int x) (by omega)
  rw [decide_eq_true hle] at hc
  exact run_of rfl (seq_n (as_of hpl) (seq_n (if_f rfl (seq_n (if_t hc (seq_n (call_n rfl rfl (push_eval H (1, x) (by omega))) rfl)) rfl)) rfl)) (fin_ctx (o := none) trivial H _)
theorem come_repl (w : Nat) (a : P) (r : List P) (x : Int) (hr : r.length = w) (hw : 1 ≤ w) (hw3 : w ≤ 3) (hp : (List.range (a :: r).length).filter (hit (a :: r) x) = []) : dLawCome (ctx none (a :: r)) [.int w, .cell 0, .int x] = some (.none, ctx none (suL ((a.1 + 1, x) :: r))) := by
  have hpl := come_places w (a :: r) x (by rw [List.length_cons]; omega)
  rw [hp] at hpl
  have hc := come_cond w (a :: r) (some (.lst [])) (.int x) (by rw [List.length_cons]; omega)
  rw [decide_eq_false (by rw [List.length_cons]; omega)] at hc
  exact run_of rfl (seq_n (as_of hpl) (seq_n (if_f rfl (seq_n (if_f hc (seq_n (call_n rfl rfl (repl_eval (o := none) trivial a (a.1 + 1, x) r (by omega) (by omega))) rfl)) rfl)) rfl)) (fin_ctx (o := none) trivial (a :: r) _)
noncomputable abbrev stH (w : Nat) (H : List P) (x : Int) (k : Nat) (rest : List Nat) : ASt := ⟨[some (.int w), some (.cell 0), some (.int x), some (.lst ((k :: rest).map fun k : Nat => .int (k : Int)))], ctx none H⟩
theorem comeA1 (w : Nat) (H : List P) (x : Int) (k : Nat) (rest : List Nat) : bin2 gItem (ldv 3) (kI 0) (stH w H x k rest) = some (.int (k : Int)) := rfl
theorem comeA2 (w : Nat) (H : List P) (x : Int) (k : Nat) (rest : List Nat) (hk : k < 4) (p : P) (hH : H[k]? = some p) : bin2 gItem (ldv 1) (bin2 gItem (ldv 3) (kI 0)) (stH w H x k rest) = some (eP p) :=
    bin_of (a := .cell 0) rfl (comeA1 w H x k rest) (item_L (lstOf_cell (i := 0) rfl) (by omega) (by rw [List.getElem?_map, hH]; rfl))
theorem comeA3 (w : Nat) (H : List P) (x : Int) (k : Nat) (rest : List Nat) (hk : k < 4) (p : P) (hH : H[k]? = some p) : bin2 gAdd (bin2 gItem (bin2 gItem (ldv 1) (bin2 gItem (ldv 3) (kI 0))) (kI 0)) (kI 1) (stH w H x k rest) = some (.int (p.1 + 1)) :=
  bin_of (g := gAdd) (f2 := kI 1) (bin_of (g := gItem) (f2 := kI 0) (comeA2 w H x k rest hk p hH) rfl (item_p0 _)) rfl rfl
theorem cons_of {f : ASt → Option AVal} {g : ASt → Option (List AVal)} {st : ASt} {a : AVal} {as : List AVal} (h1 : f st = some a) (h2 : g st = some as) : consF f g st = some (a :: as) := by unfold consF; rw [h1, h2]; rfl
theorem tup_of {f : ASt → Option (List AVal)} {st : ASt} {as : List AVal} (h : f st = some as) (hl : as.length < 1000) : pTup f st = some (.tup as) := by unfold pTup; rw [h]; exact if_pos hl
theorem comeA4 (w : Nat) (H : List P) (x : Int) (k : Nat) (rest : List Nat) (hk : k < 4) (p : P) (hH : H[k]? = some p) : pTup (consF (bin2 gAdd (bin2 gItem (bin2 gItem (ldv 1) (bin2 gItem (ldv 3) (kI 0))) (kI 0)) (kI 1)) (consF (ldv 2) nilF)) (stH w H x k rest) = some (eP (p.1 + 1, x)) :=
  tup_of (cons_of (comeA3 w H x k rest hk p hH) rfl) (by simp)
theorem comeA6 (w : Nat) (H : List P) (x : Int) (k : Nat) (rest : List Nat) : tcmp gNe (ldv 3) (pLst nilF) (stH w H x k rest) = some true := rfl
theorem come_hit (w : Nat) (H : List P) (x : Int) (k : Nat) (rest : List Nat) (hl : H.length ≤ 4) (hp : (List.range H.length).filter (hit H x) = k :: rest) (p : P) (hH : H[k]? = some p) : dLawCome (ctx none H) [.int w, .cell 0, .int x] = some (.none, ctx none (hfL (H.set k (p.1 + 1, x)))) := by
  have hml : (H.map eP).length = H.length := List.length_map ..
  have hkn : k < H.length := (List.getElem?_eq_some_iff.mp hH).1
  have hpl := come_places w H x hl
  rw [hp] at hpl
  have es : (ctx none H).set 0 (.lst ((H.map eP).set k (eP (p.1 + 1, x)))) = ctx none (H.set k (p.1 + 1, x)) := by rw [← List.map_set]; rfl
  have hs := set_of (fo := ldv 1) (j := 0) (xs := H.map eP) (comeA4 w H x k rest (by omega) p hH) rfl (comeA1 w H x k rest) rfl (by rw [hml]; exact hkn) (by omega)
  rw [es] at hs
  have hn : (H.set k (p.1 + 1, x)).length = H.length := List.length_set
  exact run_of rfl (seq_n (as_of hpl) (seq_n (if_t (comeA6 w H x k rest) (seq_n hs (seq_n (call_n rfl rfl (hf_eval (o := none) trivial (H.set k (p.1 + 1, x)) (by omega) (by omega))) rfl))) rfl)) (fin_ctx (o := none) trivial H _)
theorem come_eval (w : Nat) (H : List P) (x : Int) (hw : 1 ≤ w) (hw3 : w ≤ 3) (hl : H.length ≤ w + 1) : dLawCome (ctx none H) [.int w, .cell 0, .int x] = some (.none, ctx none (comeL w H x)) := by
  unfold comeL
  cases hp : (List.range H.length).filter (hit H x) with
  | nil =>
    dsimp only
    by_cases hle : H.length ≤ w
    · rw [if_pos hle]; exact come_push w H x hle hw3 hp
    · rw [if_neg hle]
      match H, hl, hle, hp with
      | [], _, hle, _ => exact absurd (Nat.zero_le _) hle
      | a :: r, hl, hle, hp =>
        rw [List.length_cons] at hl hle
        exact come_repl w a r x (by omega) hw hw3 hp
  | cons k rest =>
    have hk : k ∈ (List.range H.length).filter (hit H x) := by rw [hp]; exact .head _
    have hkn : k < H.length := List.mem_range.mp (List.mem_filter.mp hk).1
    have hH : H[k]? = some H[k] := List.getElem?_eq_getElem hkn
    dsimp only
    rw [hH]
    exact come_hit w H x k rest (by omega) hp _ hH
end Mine

end
section
set_option maxRecDepth 100000

namespace Mine
/-! tables as lists -/
noncomputable abbrev Tb := List (Int × Int)
noncomputable def keys (T : Tb) : List Int := T.map (·.1)
noncomputable def tg (T : Tb) (x : Int) : Int := (dget T x).getD 0
theorem dget_cons (p : Int × Int) (T : Tb) (x : Int) : dget (p :: T) x = if p.1 = x then some p.2 else dget T x := by
  unfold dget
  rw [List.find?_cons]
  by_cases h : p.1 = x
  · rw [decide_eq_true h, if_pos h]; rfl
  · rw [decide_eq_false h, if_neg h]
theorem dget_mem {T : Tb} (hn : (keys T).Nodup) {x v : Int} (h : (x, v) ∈ T) : dget T x = some v := by
  induction T with
  | nil => cases h
  | cons p T ih =>
    rw [dget_cons]
    rcases List.mem_cons.mp h with e | h
    · subst e; rw [if_pos rfl]
    · have hn' := List.nodup_cons.mp hn
      rw [if_neg fun e => hn'.1 (by show p.1 ∈ _; rw [e]; exact List.mem_map_of_mem (f := Prod.fst) h)]
      exact ih hn'.2 h
theorem mem_dget {T : Tb} {x v : Int} (h : dget T x = some v) : (x, v) ∈ T := by
  induction T with
  | nil => cases h
  | cons p T ih =>
    rw [dget_cons] at h
    split at h
    · rename_i e; cases h; subst e; exact .head _
    · exact .tail _ (ih h)
theorem dget_none {T : Tb} {x : Int} (h : x ∉ keys T) : dget T x = none := by
  cases e : dget T x with
  | none => rfl
  | some v => exact absurd (List.mem_map_of_mem (f := Prod.fst) (mem_dget e)) h
theorem dget_key {T : Tb} {x : Int} (h : x ∈ keys T) : ∃ v, dget T x = some v := by
  induction T with
  | nil => cases h
  | cons q T ih =>
    rw [dget_cons]
    split
    · exact ⟨_, rfl⟩
    · rename_i hne
      exact ih ((List.mem_cons.mp h).resolve_left fun e => hne e.symm)
theorem dput_fresh {T : Tb} {k v : Int} (h : k ∉ keys T) : dput T k v = T ++ [(k, v)] := by
  unfold dput
  rw [if_neg]
  intro e
  obtain ⟨p, hp, hk⟩ := List.any_eq_true.mp e
  exact h (of_decide_eq_true hk ▸ List.mem_map_of_mem (f := Prod.fst) hp)
theorem dput_same {T : Tb} {k v : Int} (hn : (keys T).Nodup) (h : (k, v) ∈ T) : dput T k v = T := by
  unfold dput
  rw [if_pos (List.any_eq_true.mpr ⟨_, h, decide_eq_true rfl⟩)]
  have : ∀ p ∈ T, (if p.1 = k then (p.1, v) else p) = p := fun p hp => by
    split
    · rename_i e
      have h1 := dget_mem hn (x := p.1) (v := p.2) hp
      rw [e, dget_mem hn h] at h1
      cases h1; rfl
    · rfl
  exact (List.map_congr_left this).trans (List.map_id' T)
theorem fold_fresh {α : Type} (k v : α → Int) : ∀ (xs : List α) (T : Tb), (xs.map k).Nodup → (∀ x ∈ xs, k x ∉ keys T) → xs.foldl (fun T x => dput T (k x) (v x)) T = T ++ xs.map fun x => (k x, v x)
  | [], T, _, _ => by simp
  | x :: xs, T, hn, h => by
    obtain ⟨n1, n2⟩ := List.nodup_cons.mp hn
    rw [List.foldl_cons, dput_fresh (h x (.head _)), fold_fresh k v xs _ n2 fun y hy hm => ?_, List.append_assoc]
    · rfl
    · rw [keys, List.map_append] at hm
      rcases List.mem_append.mp hm with hm | hm
      · exact h y (.tail _ hy) hm
      · exact n1 (by rw [← show k y = k x from List.mem_singleton.mp hm]; exact List.mem_map_of_mem (f := k) hy)

theorem itemsL_ok {xs : List AVal} (h : xs.length < 1000) : itemsL (.lst xs) = some xs := by
  unfold itemsL; exact if_pos h

/-! _law_above -/
noncomputable def least (w : Nat) (H : List P) : Int := if w < H.length then (H.head?.map (·.1)).getD 0 else 0
noncomputable def abv (w : Nat) (H : List P) : Tb := (H.filter fun p => decide (least w H < p.1)).map fun p => (p.2, p.1 - least w H)
theorem above_least (w : Nat) (H : List P) (hl : H.length ≤ 4) : pIf (tcmp gGt (pB (fun1 lenA) (consF (ldv 1) nilF) nilF) (ldv 0)) (bin2 gItem (bin2 gItem (ldv 1) (kI 0)) (kI 0)) (kI 0) ⟨[some (.int w), some (.lst (H.map eP)), none], []⟩ = some (.int (least w H)) := by
  have hml : (H.map eP).length = H.length := List.length_map ..
  have hc : tcmp gGt (pB (fun1 lenA) (consF (ldv 1) nilF) nilF) (ldv 0) ⟨[some (.int w), some (.lst (H.map eP)), none], []⟩ = some (decide (w < H.length)) := by
    refine tc_of (pB_1 rfl (len_lst (xs := H.map eP) rfl (by omega))) rfl ?_
    show some (AVal.bool (decide ((w : Int) < ((H.map eP).length : Int)))) = _
    rw [hml]
    exact congrArg (fun b => some (AVal.bool b)) (decide_eq_decide.mpr (by omega))
  unfold pIf least
  rw [hc]
  by_cases h : w < H.length
  · rw [decide_eq_true h, if_pos h]
    match H, h with
    | a :: r, _ => rfl
  · rw [decide_eq_false h, if_neg h]
theorem above_eval (w : Nat) (H : List P) (hl : H.length ≤ 4) (hn : (H.map (·.2)).Nodup) : dLawAbove [] [.int w, .lst (H.map eP)] = some (.dct (abv w H), []) := by
  have hml : (H.map eP).length = H.length := List.length_map ..
  have hr : pCompN [Str.ofString "count", Str.ofString "word", Str.ofString "least"] [] (fun st => ((ldv 1) st).bind itemsL) 2 [2] (.dct []) (tgPair 0 1) (tcmp gGt (ldv 0) (ldv 2)) (emitD (ldv 1) (bin2 gSub (ldv 0) (ldv 2))) ⟨[some (.int w), some (.lst (H.map eP)), some (.int (least w H))], []⟩ =
      some (.dct (abv w H)) := by
    rw [pcomp_d (enc := eP) (Pr := fun p => decide (least w H < p.1)) (k := fun p => p.2) (v := fun p => p.1 - least w H) (R := fun st => ∃ t u, st = ⟨[t, u, some (.int (least w H))], []⟩) H (itemsL_ok (by omega)) ⟨none, none, rfl⟩ ?_ (by omega)]
    · rw [fold_fresh _ _ _ _ (List.Nodup.sublist (List.Sublist.map _ (List.filter_sublist)) hn) (by simp [keys])]; rfl
    · rintro p _ st ⟨t, u, rfl⟩
      exact ⟨_, rfl, rfl, ⟨_, _, rfl⟩, fun _ => ⟨rfl, rfl⟩⟩
  exact run_of rfl (seq_n (as_of (above_least w H hl)) (seq_r (ret_of hr))) rfl

theorem or_t {f g : ASt → Option Bool} {st : ASt} (h : f st = some true) : tOr f g st = some true := by unfold tOr; rw [h]
theorem or_f {f g : ASt → Option Bool} {st : ASt} {r : Option Bool} (h : f st = some false) (k : g st = r) : tOr f g st = r := by unfold tOr; rw [h]; exact k
/-! _law_plain -/
noncomputable def plainL (w : Nat) (T : Tb) (x : Int) : Tb :=
  if x ∈ keys T then T.map fun p => (p.1, p.2 + if p.1 = x then 1 else 0)
  else if T.length < w then T ++ [(x, 1)]
  else (T.filter fun p => decide (1 < p.2)).map fun p => (p.1, p.2 - 1)
theorem plain_in (w : Nat) (T : Tb) (x : Int) (hl : T.length ≤ 3) (hn : (keys T).Nodup) : pCompN [Str.ofString "one", Str.ofString "table", Str.ofString "word"] [] (fun st => ((bin2 gAdd (pB (fun1 listA) (consF (ldv 1) nilF) nilF) (pLst (consF (ldv 2) nilF))) st).bind itemsL) 1 [1, 2] (.dct []) (tgName 0) (fun _ => some true)
      (emitD (ldv 0) (bin2 gAdd (pM isDct getA (ldv 1) (consF (ldv 0) (consF (kI 0) nilF))) (pIf (tcmp gEq (ldv 0) (ldv 2)) (kI 1) (kI 0)))) ⟨[some (.int w), some (.dct T), some (.int x)], []⟩ =
    some (.dct (if x ∈ keys T then T.map fun p => (p.1, p.2 + if p.1 = x then 1 else 0) else T.map (fun p => (p.1, p.2 + if p.1 = x then 1 else 0)) ++ [(x, 1)])) := by
  have hkl : (keys T).length = T.length := List.length_map ..
  have hsrc : bin2 gAdd (pB (fun1 listA) (consF (ldv 1) nilF) nilF) (pLst (consF (ldv 2) nilF)) ⟨[some (.int w), some (.dct T), some (.int x)], []⟩ = some (.lst ((keys T ++ [x]).map .int)) := by
    have h1 : pB (fun1 listA) (consF (ldv 1) nilF) nilF ⟨[some (.int w), some (.dct T), some (.int x)], []⟩ = some (.lst ((keys T).map .int)) := by
      refine pB_1 rfl (show listA [] (.dct T) = _ from ?_)
      unfold listA
      rw [show dctOf [] (.dct T) = some T from rfl, Option.bind_some, if_pos (by omega), keys, List.map_map]; rfl
    refine bin_of h1 (b := .lst [.int x]) rfl (ei_r rfl ?_)
    unfold gAddL
    rw [show lstOf ([] : List ACell) (.lst ((keys T).map .int)) = some ((keys T).map .int) from rfl, Option.bind_some, show lstOf ([] : List ACell) (.lst [.int x]) = some [.int x] from rfl, Option.bind_some, if_pos (by rw [List.length_map, List.length_singleton]; omega), List.map_append]; rfl
  have hv : ∀ y : Int, ∃ v, v = tg T y + (if y = x then 1 else 0) := fun y => ⟨_, rfl⟩
  rw [pcomp_d (enc := AVal.int) (Pr := fun _ => true) (k := fun y => y) (v := fun y => tg T y + if y = x then 1 else 0) (R := fun st => ∃ t, st = ⟨[t, some (.dct T), some (.int x)], []⟩) (keys T ++ [x]) ?_ ⟨none, rfl⟩ ?_ (by rw [List.length_append, List.length_singleton]; omega)]
  · rw [List.filter_eq_self.mpr fun _ _ => rfl, List.foldl_append, fold_fresh (fun y : Int => y) (fun y => tg T y + if y = x then 1 else 0) (keys T) [] (by rw [List.map_id']; exact hn) (fun _ _ h => (nomatch h))]
    have hT : ((keys T).map fun y => (y, tg T y + if y = x then 1 else 0)) = T.map fun p => (p.1, p.2 + if p.1 = x then 1 else 0) := by
      rw [keys, List.map_map]
      refine List.map_congr_left fun p hp => ?_
      show (p.1, tg T p.1 + _) = _
      unfold tg; rw [dget_mem hn (x := p.1) (v := p.2) hp]; rfl
    rw [List.nil_append, hT, List.foldl_cons, List.foldl_nil]
    have hk : keys (T.map fun p => (p.1, p.2 + if p.1 = x then 1 else 0)) = keys T := by rw [keys, keys, List.map_map]; rfl
    by_cases hx : x ∈ keys T
    · rw [if_pos hx, dput_same (by rw [hk]; exact hn)]
      obtain ⟨v, e⟩ := dget_key hx
      refine List.mem_map.mpr ⟨(x, v), mem_dget e, ?_⟩
      unfold tg; rw [e]; rfl
    · rw [if_neg hx, dput_fresh (by rw [hk]; exact hx)]
      unfold tg; rw [dget_none hx, if_pos rfl]; rfl
  · show (bin2 gAdd _ _ _).bind itemsL = _
    rw [hsrc, Option.bind_some, itemsL_ok (by rw [List.length_map, List.length_append, List.length_singleton]; omega)]
  · rintro y _ st ⟨t, rfl⟩
    refine ⟨_, rfl, rfl, ⟨_, rfl⟩, fun _ => ⟨rfl, ?_⟩⟩
    refine bin_of (a := .int (tg T y)) rfl (b := .int (if y = x then 1 else 0)) ?_ rfl
    unfold pIf
    rw [show tcmp gEq (ldv 0) (ldv 2) _ = some (y == x) from rfl]
    by_cases h : y = x
    · rw [beq_iff_eq.mpr h, if_pos h]
    · rw [beq_eq_false_iff_ne.mpr h, if_neg h]
theorem plain_out (w : Nat) (T : Tb) (x : Int) (hl : T.length ≤ 3) (hn : (keys T).Nodup) : pCompN [Str.ofString "one", Str.ofString "table"] [] (fun st => ((ldv 1) st).bind itemsD) 1 [1] (.dct []) (tgName 0) (tcmp gGt (bin2 gItem (ldv 1) (ldv 0)) (kI 1)) (emitD (ldv 0) (bin2 gSub (bin2 gItem (ldv 1) (ldv 0)) (kI 1))) ⟨[some (.int w), some (.dct T), some (.int x)], []⟩ =
    some (.dct ((T.filter fun p => decide (1 < p.2)).map fun p => (p.1, p.2 - 1))) := by
  rw [pcomp_d (enc := fun p : Int × Int => AVal.int p.1) (Pr := fun p => decide (1 < p.2)) (k := fun p => p.1) (v := fun p => p.2 - 1) (R := fun st => ∃ t, st = ⟨[t, some (.dct T)], []⟩) T (if_pos (by omega)) ⟨none, rfl⟩ ?_ (by omega)]
  · rw [fold_fresh _ _ _ _ (List.Nodup.sublist (List.Sublist.map _ (List.filter_sublist)) hn) (by simp [keys])]; rfl
  · rintro p hp st ⟨t, rfl⟩
    have e : bin2 gItem (ldv 1) (ldv 0) ⟨[some (.int p.1), some (.dct T)], []⟩ = some (.int p.2) := by
      refine bin_of (a := .dct T) rfl (b := .int p.1) rfl (ei_r rfl (ei_r rfl (ei_l ?_)))
      unfold gItemD
      rw [show dctOf [] (.dct T) = some T from rfl, Option.bind_some, int_q, Option.bind_some, dget_mem hn (x := p.1) (v := p.2) hp, Option.bind_some]
    exact ⟨_, rfl, tc_of e rfl rfl, ⟨_, rfl⟩, fun _ => ⟨rfl, bin_of e rfl rfl⟩⟩
theorem plain_eval (w : Nat) (T : Tb) (x : Int) (hl : T.length ≤ 3) (hn : (keys T).Nodup) : dLawPlain [] [.int w, .dct T, .int x] = some (.dct (plainL w T x), []) := by
  have h1 : tcmp gIn (ldv 2) (ldv 1) ⟨[some (.int w), some (.dct T), some (.int x)], []⟩ = some (decide (x ∈ keys T)) := by
    refine tc_of (a := .int x) rfl (b := .dct T) rfl (show some (AVal.bool (dget T x).isSome) = _ from ?_)
    by_cases hx : x ∈ keys T
    · obtain ⟨v, e⟩ := dget_key hx
      rw [e, decide_eq_true hx]; rfl
    · rw [dget_none hx, decide_eq_false hx]; rfl
  have h2 : tcmp gLt (pB (fun1 lenA) (consF (ldv 1) nilF) nilF) (ldv 0) ⟨[some (.int w), some (.dct T), some (.int x)], []⟩ = some (decide (T.length < w)) := by
    refine tc_of (a := .int T.length) (pB_1 (a := .dct T) rfl (show lenA [] (.dct T) = _ from if_pos (by omega))) (b := .int w) rfl ?_
    show some (AVal.bool (decide ((T.length : Int) < (w : Int)))) = _
    exact congrArg (fun b => some (AVal.bool b)) (decide_eq_decide.mpr (by omega))
  have hin := plain_in w T x hl hn
  have hout := plain_out w T x hl hn
  unfold plainL
  by_cases hx : x ∈ keys T
  · rw [if_pos hx] at hin ⊢
    rw [decide_eq_true hx] at h1
    exact run_of rfl (seq_r (if_t (or_t h1) (seq_r (ret_of hin)))) rfl
  · rw [if_neg hx] at hin ⊢
    rw [decide_eq_false hx] at h1
    by_cases hw : T.length < w
    · rw [if_pos hw]
      rw [decide_eq_true hw] at h2
      have e : T.map (fun p => (p.1, p.2 + if p.1 = x then 1 else 0)) = T := by
        refine (List.map_congr_left fun p hp => ?_).trans (List.map_id' T)
        rw [if_neg fun e => hx (by rw [← e]; exact List.mem_map_of_mem (f := Prod.fst) hp), Int.add_zero]
      rw [e] at hin
      exact run_of rfl (seq_r (if_t (or_f h1 (or_t h2)) (seq_r (ret_of hin)))) rfl
    · rw [if_neg hw]
      rw [decide_eq_false hw] at h2
      exact run_of rfl (seq_n (if_f (or_f h1 (or_f h2 rfl)) rfl) (seq_r (ret_of hout))) rfl
end Mine

end
section
set_option maxRecDepth 100000

namespace Mine
/-! what stands above the least -/
noncomputable def U (m : Int) (R : List P) : Tb := (R.filter fun p => decide (m < p.1)).map fun p => (p.2, p.1 - m)
noncomputable def cutT (c : Int) (T : Tb) : Tb := (T.filter fun p => decide (c < p.2)).map fun p => (p.1, p.2 - c)
theorem U_perm {m : Int} {R R' : List P} (h : R.Perm R') : (U m R).Perm (U m R') := (h.filter _).map _
theorem U_hd {m : Int} {p : P} {R : List P} (h : m < p.1) : U m (p :: R) = (p.2, p.1 - m) :: U m R := by
  unfold U; rw [List.filter_cons, if_pos (decide_eq_true h)]; rfl
theorem U_no {m : Int} {p : P} {R : List P} (h : ¬ m < p.1) : U m (p :: R) = U m R := by
  unfold U; rw [List.filter_cons, if_neg (by rw [decide_eq_false h]; decide)]
theorem U_len {m : Int} {R : List P} : (U m R).length ≤ R.length := by unfold U; rw [List.length_map]; exact List.length_filter_le ..
theorem U_keys {m : Int} {R : List P} {x : Int} (h : x ∈ keys (U m R)) : x ∈ R.map (·.2) := by
  rw [keys, U, List.map_map] at h
  obtain ⟨p, hp, rfl⟩ := List.mem_map.mp h
  exact List.mem_map_of_mem (f := fun p : P => p.2) (List.mem_filter.mp hp).1
theorem U_cut (m : Int) (R : List P) : cutT 1 (U m R) = U (m + 1) R := by
  unfold cutT
  induction R with
  | nil => rfl
  | cons p R ih =>
    by_cases h : m < p.1
    · rw [U_hd h, List.filter_cons]
      by_cases k : m + 1 < p.1
      · rw [U_hd k, if_pos (decide_eq_true (show 1 < p.1 - m by omega)), List.map_cons, ih, show (p.1 - m - 1 : Int) = p.1 - (m + 1) by omega]
      · rw [U_no k, if_neg (by rw [decide_eq_false (show ¬ 1 < p.1 - m by omega)]; decide), ih]
    · rw [U_no h, U_no (show ¬ m + 1 < p.1 by omega), ih]
theorem least_full {w : Nat} {H : List P} (hh : isHp H) (hw : w < H.length) (h4 : H.length ≤ 4) : (∃ p ∈ H, p.1 = least w H) ∧ ∀ p ∈ H, least w H ≤ p.1 := by
  unfold least
  rw [if_pos hw]
  match H, hh, hw, h4 with
  | a :: r, hh, _, h4 =>
    refine ⟨⟨a, .head _, rfl⟩, fun p hp => ?_⟩
    rcases List.mem_cons.mp hp with rfl | hp
    · exact Int.le_refl _
    · exact le_fst (isHp_top (by simpa using h4) hh p hp)

theorem plain_app {w : Nat} {T : Tb} {x : Int} (h : x ∉ keys T) (hl : T.length < w) : plainL w T x = T ++ [(x, 1)] := by unfold plainL; rw [if_neg h, if_pos hl]
theorem plain_cut {w : Nat} {T : Tb} {x : Int} (h : x ∉ keys T) (hl : ¬ T.length < w) : plainL w T x = cutT 1 T := by unfold plainL; rw [if_neg h, if_neg hl]; rfl
theorem cut_perm {c : Int} {T T' : Tb} (h : T.Perm T') : (cutT c T).Perm (cutT c T') := (h.filter _).map _
theorem keys_perm {T T' : Tb} (h : T.Perm T') : (keys T).Perm (keys T') := h.map _

/-- a word that comes in behind the least -/
theorem step_new {w : Nat} {R H' : List P} {T : Tb} {m x : Int} (hR : R.length = w) (hw : w ≤ 3) (hm : ∀ r ∈ R, m ≤ r.1) (hT : T.Perm (U m R)) (hx : x ∉ R.map (·.2)) (hp : H'.Perm ((m + 1, x) :: R)) (hh : isHp H') : (plainL w T x).Perm (abv w H') := by
  have hxT : x ∉ keys T := fun h => hx (U_keys ((keys_perm hT).mem_iff.mp h))
  have hl : H'.length = w + 1 := by rw [hp.length_eq, List.length_cons, hR]
  obtain ⟨⟨q, hq, hq1⟩, hmin⟩ := least_full hh (w := w) (by omega) (by omega)
  have hq' := hp.mem_iff.mp hq
  have hxm := hmin (m + 1, x) (hp.mem_iff.mpr (.head _))
  have hxm' : least w H' ≤ m + 1 := hxm
  show (plainL w T x).Perm (U (least w H') H')
  by_cases hall : ∀ r ∈ R, m < r.1
  · have hlen : (U m R).length = w := by unfold U; rw [List.length_map, List.filter_eq_self.mpr fun r hr => decide_eq_true (hall r hr), hR]
    have hle : least w H' = m + 1 := by
      rcases List.mem_cons.mp hq' with e | hr
      · rw [← hq1, e]
      · have := hall q hr; omega
    rw [plain_cut hxT (by rw [hT.length_eq, hlen]; omega), hle]
    refine (cut_perm hT).trans ?_
    rw [U_cut]
    refine ((U_perm hp).trans ?_).symm
    rw [U_no (p := (m + 1, x)) (Int.lt_irrefl _)]
  · obtain ⟨r, hr, hr1⟩ : ∃ r ∈ R, r.1 = m := by
      apply Classical.byContradiction
      intro hno
      exact hall fun r hr => by
        have h1 := hm r hr
        have h2 : r.1 ≠ m := fun e => hno ⟨r, hr, e⟩
        omega
    have hle : least w H' = m := by
      have h1 := hmin r (hp.mem_iff.mpr (.tail _ hr))
      rcases List.mem_cons.mp hq' with e | hr'
      · rw [e] at hq1
        have : m + 1 = least w H' := hq1
        omega
      · have := hm q hr'; omega
    have hlen : (U m R).length < w := by
      unfold U
      rw [List.length_map, ← hR]
      exact List.length_filter_lt_length_iff_exists.mpr ⟨r, hr, by rw [decide_eq_false (by omega)]; decide⟩
    rw [plain_app hxT (by rw [hT.length_eq]; exact hlen), hle]
    refine (List.perm_append_comm.trans ?_).trans (U_perm hp).symm
    rw [U_hd (show m < m + 1 by omega), show (((m + 1, x) : P).1 - m) = 1 by show m + 1 - m = 1; omega]
    exact hT.cons _

theorem step_push {w : Nat} {H H' : List P} {T : Tb} {x : Int} (hl : H.length < w) (hT : T.Perm (U 0 H)) (hx : x ∉ H.map (·.2)) (hp : H'.Perm ((1, x) :: H)) : (plainL w T x).Perm (abv w H') := by
  have hxT : x ∉ keys T := fun h => hx (U_keys ((keys_perm hT).mem_iff.mp h))
  have hle : least w H' = 0 := by unfold least; rw [if_neg (by rw [hp.length_eq, List.length_cons]; omega)]
  show (plainL w T x).Perm (U (least w H') H')
  rw [plain_app hxT (by rw [hT.length_eq]; exact Nat.lt_of_le_of_lt U_len hl), hle]
  refine (List.perm_append_comm.trans ?_).trans (U_perm hp).symm
  rw [U_hd (show (0 : Int) < 1 by decide)]
  exact hT.cons _

theorem step_inc {w : Nat} {H H' R : List P} {T : Tb} {c x : Int} (hp0 : H.Perm ((c, x) :: R)) (hh : isHp H) (hh' : isHp H') (h4 : H.length ≤ 4) (hT : T.Perm (abv w H)) (hx : x ∉ R.map (·.2)) (hc : least w H < c) (hp : H'.Perm ((c + 1, x) :: R)) : (plainL w T x).Perm (abv w H') := by
  have hl : H'.length = H.length := by rw [hp.length_eq, hp0.length_eq]; rfl
  have hle : least w H' = least w H := by
    by_cases hw : w < H.length
    · obtain ⟨⟨q, hq, hq1⟩, hmin⟩ := least_full hh hw h4
      obtain ⟨⟨q', hq', hq1'⟩, hmin'⟩ := least_full hh' (w := w) (by omega) (by omega)
      have hqR : q ∈ R := by
        rcases List.mem_cons.mp (hp0.mem_iff.mp hq) with e | h
        · rw [e] at hq1; have : c = least w H := hq1; omega
        · exact h
      have h2 := hmin' q (hp.mem_iff.mpr (.tail _ hqR))
      have h3 : least w H ≤ least w H' := by
        rw [← hq1']
        rcases List.mem_cons.mp (hp.mem_iff.mp hq') with e | h
        · rw [e]; show least w H ≤ c + 1; omega
        · exact hmin q' (hp0.mem_iff.mpr (.tail _ h))
      omega
    · unfold least; rw [if_neg hw, if_neg (by omega)]
  have hT' : T.Perm ((x, c - least w H) :: U (least w H) R) := by
    refine (hT.trans (U_perm hp0)).trans ?_
    rw [U_hd hc]
  have hxT : x ∈ keys T := (keys_perm hT').mem_iff.mpr (.head _)
  show (plainL w T x).Perm (U (least w H') H')
  unfold plainL
  rw [if_pos hxT, hle]
  refine (hT'.map _).trans ((?_ : List.Perm _ _).trans (U_perm hp).symm)
  rw [U_hd (show least w H < c + 1 by omega), List.map_cons, if_pos rfl, show c - least w H + 1 = c + 1 - least w H by omega]
  refine List.Perm.cons _ (.of_eq ((List.map_congr_left fun p hp => ?_).trans (List.map_id' _)))
  rw [if_neg fun e => hx (U_keys (by rw [← e]; exact List.mem_map_of_mem (f := Prod.fst) hp)), Int.add_zero]

structure Inv (w : Nat) (H : List P) (T : Tb) : Prop where
  hp : isHp H
  len : H.length ≤ w + 1
  nd : (H.map (·.2)).Nodup
  pos : ∀ p ∈ H, 1 ≤ p.1
  tab : T.Perm (abv w H)

theorem inv_of {w : Nat} {H' : List P} {T' : Tb} {c x : Int} {R : List P} (hh : isHp H') (hp : H'.Perm ((c, x) :: R)) (hR : R.length ≤ w) (hn : (R.map (·.2)).Nodup) (hx : x ∉ R.map (·.2)) (h1 : ∀ p ∈ R, 1 ≤ p.1) (hc : 1 ≤ c) (ht : T'.Perm (abv w H')) : Inv w H' T' :=
  ⟨hh, by rw [hp.length_eq, List.length_cons]; omega, (hp.map _).nodup_iff.mpr (List.nodup_cons.mpr ⟨hx, hn⟩), fun p hp' => by
    rcases List.mem_cons.mp (hp.mem_iff.mp hp') with rfl | h
    · exact hc
    · exact h1 p h, ht⟩

theorem inv_step {w : Nat} {H : List P} {T : Tb} (x : Int) (hw : 1 ≤ w) (hw3 : w ≤ 3) (I : Inv w H T) : Inv w (comeL w H x) (plainL w T x) := by
  obtain ⟨hh, hl, hn, h1, hT⟩ := I
  unfold comeL
  cases hp : (List.range H.length).filter (hit H x) with
  | cons k rest =>
    have hk : k ∈ (List.range H.length).filter (hit H x) := by rw [hp]; exact .head _
    have hkn : k < H.length := List.mem_range.mp (List.mem_filter.mp hk).1
    have hH : H[k]? = some H[k] := List.getElem?_eq_getElem hkn
    have hit' := (List.mem_filter.mp hk).2
    unfold hit at hit'
    rw [hH] at hit'
    have hx2 : H[k].2 = x := beq_iff_eq.mp hit'
    dsimp only
    rw [hH]
    show Inv w (hfL (H.set k (H[k].1 + 1, x))) _
    have hsl : (H.set k (H[k].1 + 1, x)).length = H.length := List.length_set
    obtain ⟨g1, g2⟩ := hfL_ok (H.set k (H[k].1 + 1, x)) (by omega) (by omega)
    have hP : H.Perm ((H[k].1, x) :: (H.take k ++ H.drop (k + 1))) := by
      have e : H = H.take k ++ (H[k].1, x) :: H.drop (k + 1) := by
        conv => lhs; rw [← List.take_append_drop k H, List.drop_eq_getElem_cons hkn]
        rw [← hx2]
      conv => lhs; rw [e]
      exact List.perm_middle
    have hP' : (hfL (H.set k (H[k].1 + 1, x))).Perm ((H[k].1 + 1, x) :: (H.take k ++ H.drop (k + 1))) := by
      refine g2.trans ?_
      rw [List.set_eq_take_append_cons_drop, if_pos hkn]
      exact List.perm_middle
    generalize hR : H.take k ++ H.drop (k + 1) = R at hP hP'
    generalize hc : H[k].1 = c at hP hP' g1 ⊢
    have hnd := List.nodup_cons.mp ((hP.map (·.2)).nodup_iff.mp hn)
    have hposR : ∀ p ∈ R, 1 ≤ p.1 := fun p hp => h1 p (hP.mem_iff.mpr (.tail _ hp))
    have hc1 : 1 ≤ c := h1 (c, x) (hP.mem_iff.mpr (.head _))
    have hRl : R.length + 1 = H.length := by rw [hP.length_eq]; rfl
    refine inv_of g1 hP' (by omega) hnd.2 hnd.1 hposR (by omega) ?_
    by_cases hlt : least w H < c
    · exact step_inc hP hh g1 (by omega) hT hnd.1 hlt hP'
    · have hful : w < H.length := by
        apply Classical.byContradiction
        intro hno
        have : least w H = 0 := by unfold least; rw [if_neg hno]
        omega
      have hmin := (least_full hh hful (by omega)).2
      have hcm : c = least w H := by have : least w H ≤ c := hmin (c, x) (hP.mem_iff.mpr (.head _)); omega
      refine step_new (m := c) (by omega) hw3 (fun r hr => by have := hmin r (hP.mem_iff.mpr (.tail _ hr)); omega) ?_ hnd.1 hP' g1
      refine (hT.trans (show (abv w H).Perm _ from ?_)).trans (.of_eq (U_no (p := (c, x)) (Int.lt_irrefl _)))
      rw [hcm]
      exact U_perm (hcm ▸ hP)
  | nil =>
    have hx : x ∉ H.map (·.2) := fun hm => by
      obtain ⟨p, hpm, rfl⟩ := List.mem_map.mp hm
      obtain ⟨k, hk, e⟩ := List.mem_iff_getElem.mp hpm
      have : k ∈ (List.range H.length).filter (hit H p.2) := List.mem_filter.mpr ⟨List.mem_range.mpr hk, by unfold hit; rw [List.getElem?_eq_getElem hk, e]; exact beq_iff_eq.mpr rfl⟩
      rw [hp] at this; cases this
    dsimp only
    by_cases hle : H.length ≤ w
    · rw [if_pos hle]
      obtain ⟨g1, g2⟩ := pushL_ok H (1, x) hh (by omega)
      have hT0 : T.Perm (U 0 H) := by
        have : least w H = 0 := by unfold least; rw [if_neg (by omega)]
        have h := hT; unfold abv at h; rw [this] at h; exact h
      refine inv_of g1 g2 hle hn hx h1 (by decide) ?_
      by_cases hlt : H.length < w
      · exact step_push hlt hT0 hx g2
      · exact step_new (m := 0) (by omega) hw3 (fun r hr => by have := h1 r hr; omega) hT0 hx g2 g1
    · rw [if_neg hle]
      match H, hh, hl, hn, h1, hT, hx, hle with
      | [], _, _, _, _, _, _, hle => exact absurd (Nat.zero_le _) hle
      | a :: r, hh, hl, hn, h1, hT, hx, hle =>
        rw [List.length_cons] at hl hle
        obtain ⟨g1, g2⟩ := repl_ok (x := (a.1 + 1, x)) hh (by omega) (by omega)
        have hm := (least_full hh (w := w) (by rw [List.length_cons]; omega) (by rw [List.length_cons]; omega)).2
        have hla : least w (a :: r) = a.1 := by unfold least; rw [if_pos (by rw [List.length_cons]; omega)]; rfl
        rw [hla] at hm
        have hn' := List.nodup_cons.mp hn
        have ha1 := h1 a (.head _)
        refine inv_of g1 g2 (by omega) hn'.2 (fun h => hx (.tail _ h)) (fun p hp => h1 p (.tail _ hp)) (by omega) ?_
        refine step_new (m := a.1) (by omega) hw3 (fun p hp => hm p (.tail _ hp)) ?_ (fun h => hx (.tail _ h)) g2 g1
        have h := hT; unfold abv at h; rw [hla] at h
        exact h.trans (.of_eq (U_no (Int.lt_irrefl _)))
end Mine

end
section
set_option maxRecDepth 100000

namespace Mine
/-! bounds of a table -/
noncomputable def total (T : Tb) : Int := (T.map (·.2)).sum
theorem total_cons (p : Int × Int) (T : Tb) : total (p :: T) = p.2 + total T := by unfold total; rw [List.map_cons, List.sum_cons]
theorem total_app (S T : Tb) : total (S ++ T) = total S + total T := by unfold total; rw [List.map_append, List.sum_append]
theorem tg_cons (p : Int × Int) (T : Tb) (x : Int) : tg (p :: T) x = if p.1 = x then p.2 else tg T x := by
  unfold tg; rw [dget_cons]; split <;> rfl
theorem tg_not {T : Tb} {x : Int} (h : x ∉ keys T) : tg T x = 0 := by unfold tg; rw [dget_none h]; rfl
theorem tg_mem {T : Tb} (hn : (keys T).Nodup) {x v : Int} (h : (x, v) ∈ T) : tg T x = v := by unfold tg; rw [dget_mem hn h]; rfl
theorem tg_ge {T : Tb} {c : Int} (h : ∀ p ∈ T, c ≤ p.2) {x : Int} (hx : x ∈ keys T) : c ≤ tg T x := by
  obtain ⟨v, e⟩ := dget_key hx
  unfold tg; rw [e]; exact h _ (mem_dget e)
theorem tg_nn {T : Tb} (h : ∀ p ∈ T, 1 ≤ p.2) (x : Int) : 0 ≤ tg T x := by
  by_cases hx : x ∈ keys T
  · have := tg_ge h hx; omega
  · rw [tg_not hx]; exact Int.le_refl _
theorem tg_app {S T : Tb} {x : Int} : tg (S ++ T) x = if x ∈ keys S then tg S x else tg T x := by
  induction S with
  | nil => rw [if_neg (fun h => nomatch h)]; rfl
  | cons p S ih =>
    rw [List.cons_append, tg_cons, tg_cons, ih]
    by_cases h : p.1 = x
    · rw [if_pos h, if_pos h, if_pos (by rw [← h]; exact .head _)]
    · rw [if_neg h, if_neg h]
      by_cases hx : x ∈ keys S
      · rw [if_pos hx, if_pos (show x ∈ keys (p :: S) from List.mem_cons_of_mem _ hx)]
      · rw [if_neg hx, if_neg (show x ∉ keys (p :: S) from fun hm => (List.mem_cons.mp hm).elim (fun e => h e.symm) hx)]
theorem tg_perm {S T : Tb} (hn : (keys S).Nodup) (h : S.Perm T) (x : Int) : tg S x = tg T x := by
  by_cases hx : x ∈ keys S
  · obtain ⟨v, e⟩ := dget_key hx
    rw [tg_mem hn (mem_dget e), tg_mem ((keys_perm h).nodup_iff.mp hn) (h.mem_iff.mp (mem_dget e))]
  · rw [tg_not hx, tg_not fun hm => hx ((keys_perm h).mem_iff.mpr hm)]
theorem total_perm {S T : Tb} (h : S.Perm T) : total S = total T := by
  induction h with
  | nil => rfl
  | cons p _ ih => rw [total_cons, total_cons, ih]
  | swap p q r => rw [total_cons, total_cons, total_cons, total_cons]; omega
  | trans _ _ h1 h2 => exact h1.trans h2

theorem cut_cons (c : Int) (p : Int × Int) (T : Tb) : cutT c (p :: T) = if c < p.2 then (p.1, p.2 - c) :: cutT c T else cutT c T := by
  unfold cutT
  rw [List.filter_cons]
  by_cases h : c < p.2
  · rw [if_pos (decide_eq_true h), if_pos h]; rfl
  · rw [if_neg (by rw [decide_eq_false h]; decide), if_neg h]
theorem cut_sub (c : Int) (T : Tb) : (keys (cutT c T)).Sublist (keys T) := by
  unfold keys cutT; rw [List.map_map]; exact List.Sublist.map _ (List.filter_sublist)
theorem cut_pos (c : Int) (T : Tb) : ∀ p ∈ cutT c T, 1 ≤ p.2 := by
  intro p hp
  obtain ⟨q, hq, rfl⟩ := List.mem_map.mp hp
  have := of_decide_eq_true (List.mem_filter.mp hq).2
  show 1 ≤ q.2 - c
  omega
theorem tg_cut {c : Int} {T : Tb} (hc : 0 ≤ c) (hn : (keys T).Nodup) (x : Int) : tg (cutT c T) x = if c < tg T x then tg T x - c else 0 := by
  induction T with
  | nil => rw [if_neg (by show ¬ c < 0; omega)]; rfl
  | cons p T ih =>
    obtain ⟨h1, h2⟩ := List.nodup_cons.mp hn
    rw [cut_cons, tg_cons]
    by_cases hx : p.1 = x
    · rw [if_pos hx]
      by_cases h : c < p.2
      · rw [if_pos h, if_pos h, tg_cons, if_pos hx]
      · rw [if_neg h, if_neg h]
        exact tg_not fun hm => h1 (by show p.1 ∈ _; rw [hx]; exact (cut_sub c T).subset hm)
    · rw [if_neg hx, ← ih h2]
      by_cases h : c < p.2
      · rw [if_pos h, tg_cons, if_neg hx]
      · rw [if_neg h]
noncomputable def geq (c : Int) (T : Tb) : Nat := (T.filter fun p => decide (c ≤ p.2)).length
theorem total_cut {c : Int} {T : Tb} (h : ∀ p ∈ T, 0 ≤ p.2) : total (cutT c T) + c * geq c T ≤ total T := by
  induction T with
  | nil => show (0 : Int) + c * 0 ≤ 0; omega
  | cons p T ih =>
    have ih := ih fun q hq => h q (.tail _ hq)
    have hp := h p (.head _)
    rw [cut_cons, total_cons]
    unfold geq at ih ⊢
    rw [List.filter_cons]
    by_cases h1 : c ≤ p.2
    · rw [if_pos (decide_eq_true h1), List.length_cons]
      have e : c * (((T.filter fun p => decide (c ≤ p.2)).length + 1 : Nat) : Int) = c * ((T.filter fun p => decide (c ≤ p.2)).length : Int) + c := by rw [Int.natCast_add, Int.mul_add]; show _ + c * 1 = _; rw [Int.mul_one]
      rw [e]
      by_cases h2 : c < p.2
      · rw [if_pos h2, total_cons]
        show p.2 - c + _ + _ ≤ _
        omega
      · rw [if_neg h2]; omega
    · rw [if_neg (show ¬ c < p.2 by omega), if_neg (show ¬ decide (c ≤ p.2) = true by rw [decide_eq_false h1]; decide)]; omega

structure Bd (w : Nat) (T : Tb) (f : Int → Int) (N e : Int) : Prop where
  nd : (keys T).Nodup
  pos : ∀ p ∈ T, 1 ≤ p.2
  len : T.length ≤ w
  lo : ∀ x, tg T x ≤ f x
  hi : ∀ x, f x ≤ tg T x + e
  e0 : 0 ≤ e
  tot : ((w : Int) + 1) * e + total T ≤ N

theorem Bd.perm {w : Nat} {T T' : Tb} {f : Int → Int} {N e : Int} (B : Bd w T f N e) (h : T.Perm T') : Bd w T' f N e :=
  ⟨(keys_perm h).nodup_iff.mp B.nd, fun p hp => B.pos p (h.mem_iff.mpr hp), h.length_eq ▸ B.len, fun x => tg_perm B.nd h x ▸ B.lo x, fun x => tg_perm B.nd h x ▸ B.hi x, B.e0, total_perm h ▸ B.tot⟩
theorem Bd.nil (w : Nat) : Bd w [] (fun _ => 0) 0 0 := ⟨.nil, fun _ h => (nomatch h), Nat.zero_le _, fun _ => Int.le_refl _, fun _ => Int.le_refl _, Int.le_refl _, by show ((w : Int) + 1) * 0 + 0 ≤ 0; omega⟩

theorem inc_tg {T : Tb} {x : Int} (hx : x ∈ keys T) (y : Int) : tg (T.map fun p => (p.1, p.2 + if p.1 = x then 1 else 0)) y = tg T y + if y = x then 1 else 0 := by
  induction T with
  | nil => cases hx
  | cons p T ih =>
    rw [List.map_cons, tg_cons, tg_cons]
    by_cases hy : p.1 = y
    · rw [if_pos hy, if_pos hy, hy]
    · rw [if_neg hy, if_neg hy]
      rcases List.mem_cons.mp hx with e | hx
      · have hyx : y ≠ x := fun q => hy (q.trans e).symm
        rw [if_neg hyx, Int.add_zero]
        clear ih hx
        induction T with
        | nil => rfl
        | cons q T ih =>
          rw [List.map_cons, tg_cons, tg_cons, ih]
          by_cases hq : q.1 = y
          · rw [if_pos hq, if_pos hq]
            show q.2 + (if q.1 = x then 1 else 0) = _
            rw [if_neg fun e => hyx (hq.symm.trans e), Int.add_zero]
          · rw [if_neg hq, if_neg hq]
      · exact ih hx
theorem inc_total {T : Tb} {x : Int} (hn : (keys T).Nodup) (hx : x ∈ keys T) : total (T.map fun p => (p.1, p.2 + if p.1 = x then 1 else 0)) = total T + 1 := by
  induction T with
  | nil => cases hx
  | cons p T ih =>
    obtain ⟨h1, h2⟩ := List.nodup_cons.mp hn
    rw [List.map_cons, total_cons, total_cons]
    rcases List.mem_cons.mp hx with e | hx
    · rw [if_pos e.symm, (List.map_congr_left fun q hq => ?_).trans (List.map_id' T)]
      · show p.2 + 1 + _ = _; omega
      · rw [if_neg fun e' => h1 (by show p.1 ∈ _; rw [show p.1 = q.1 from e.symm.trans e'.symm]; exact List.mem_map_of_mem (f := Prod.fst) hq), Int.add_zero]
    · rw [ih h2 hx, if_neg fun e => h1 (by show p.1 ∈ _; rw [e]; exact hx), Int.add_zero]
      omega

theorem Bd.step {w : Nat} {T : Tb} {f : Int → Int} {N e : Int} (x : Int) (B : Bd w T f N e) (hT : ∀ c, c ∈ [plainL w T x] → c.length ≤ w) : ∃ e', Bd w (plainL w T x) (fun y => f y + if y = x then 1 else 0) (N + 1) e' := by
  have hlen := hT _ (.head _)
  by_cases hx : x ∈ keys T
  · have e0 : plainL w T x = T.map fun p => (p.1, p.2 + if p.1 = x then 1 else 0) := by unfold plainL; rw [if_pos hx]
    rw [e0] at hlen ⊢
    refine ⟨e, ⟨by rw [keys, List.map_map]; exact B.nd, fun p hp => ?_, hlen, fun y => ?_, fun y => ?_, B.e0, ?_⟩⟩
    · obtain ⟨q, hq, rfl⟩ := List.mem_map.mp hp
      have := B.pos q hq
      show 1 ≤ q.2 + _
      split <;> omega
    · rw [inc_tg hx]; have := B.lo y; split <;> omega
    · rw [inc_tg hx]; have := B.hi y; split <;> omega
    · rw [inc_total B.nd hx]; have := B.tot; omega
  · by_cases hw : T.length < w
    · have e0 : plainL w T x = T ++ [(x, 1)] := plain_app hx hw
      rw [e0] at hlen ⊢
      have ht : ∀ y, tg (T ++ [(x, 1)]) y = tg T y + if y = x then 1 else 0 := fun y => by
        rw [tg_app]
        by_cases hy : y ∈ keys T
        · rw [if_pos hy, if_neg fun e => hx (by rw [← e]; exact hy), Int.add_zero]
        · rw [if_neg hy, tg_not hy, tg_cons]
          by_cases e : x = y
          · rw [if_pos e, if_pos e.symm]; rfl
          · rw [if_neg e, if_neg fun q => e q.symm]; rfl
      refine ⟨e, ⟨?_, fun p hp => ?_, hlen, fun y => ?_, fun y => ?_, B.e0, ?_⟩⟩
      · rw [keys, List.map_append]
        exact List.nodup_append.mpr ⟨B.nd, List.nodup_cons.mpr ⟨fun h => (nomatch h), .nil⟩, fun a ha b hb q => hx (by rw [← show b = x from List.mem_singleton.mp hb, ← q]; exact ha)⟩
      · rcases List.mem_append.mp hp with h | h
        · exact B.pos p h
        · rw [List.mem_singleton.mp h]; exact Int.le_refl 1
      · rw [ht]; have := B.lo y; omega
      · rw [ht]; have := B.hi y; omega
      · rw [total_app, show total [(x, 1)] = 1 from rfl]; have := B.tot; omega
    · have e0 : plainL w T x = cutT 1 T := plain_cut hx hw
      rw [e0] at hlen ⊢
      have htot := total_cut (c := 1) (T := T) fun p hp => by have := B.pos p hp; omega
      have hg : geq 1 T = T.length := by unfold geq; rw [List.filter_eq_self.mpr fun p hp => decide_eq_true (B.pos p hp)]
      rw [hg] at htot
      refine ⟨e + 1, ⟨(cut_sub 1 T).nodup B.nd, cut_pos 1 T, hlen, fun y => ?_, fun y => ?_, by have := B.e0; omega, ?_⟩⟩
      · rw [tg_cut (by decide) B.nd]; have := B.lo y; have h0 := tg_nn B.pos y; split <;> split <;> omega
      · rw [tg_cut (by decide) B.nd]
        have h1 := B.hi y
        have h0 := tg_nn B.pos y
        by_cases hy : y = x
        · rw [if_pos hy]
          rw [hy, tg_not hx] at h1
          rw [hy, tg_not hx]
          split <;> omega
        · rw [if_neg hy]
          split <;> omega
      · have h1 := B.tot
        have h2 := B.len
        have : T.length = w := by omega
        rw [this] at htot
        rw [Int.mul_add]
        omega
end Mine

end
section
set_option maxRecDepth 100000

namespace Mine
/-! bits -/
theorem and_shl (a k b : Nat) (hb : b < 2 ^ k) : (a * 2 ^ k) &&& b = 0 := by
  apply Nat.eq_of_testBit_eq
  intro i
  rw [Nat.testBit_and, Nat.zero_testBit, ← Nat.shiftLeft_eq, Nat.testBit_shiftLeft]
  by_cases h : k ≤ i
  · rw [Nat.testBit_lt_two_pow (Nat.lt_of_lt_of_le hb (Nat.pow_le_pow_right (by decide) h)), Bool.and_false]
  · rw [decide_eq_false (by omega)]; rfl
theorem or_shl {a b : Int} {k : Nat} (ha : 0 ≤ a) (hb : 0 ≤ b) (hk : b < ((2 ^ k : Nat) : Int)) : Builtin.bitOr (a * ((2 ^ k : Nat) : Int)) b = a * ((2 ^ k : Nat) : Int) + b := by
  obtain ⟨m, rfl⟩ := Int.eq_ofNat_of_zero_le ha
  obtain ⟨n, rfl⟩ := Int.eq_ofNat_of_zero_le hb
  rw [bitOr_and, ← Int.natCast_mul, bitAnd_pp (Int.natCast_nonneg _) (Int.natCast_nonneg _), Int.toNat_natCast, Int.toNat_natCast, and_shl m k n (by omega)]
  omega
theorem two62 : (2 : Nat) ^ 62 = 4611686018427387904 := by decide
theorem shl_ok {cs : List ACell} {a : Int} {k : Nat} (h : 0 ≤ a) (h2 : a < 1000000) (hk : k ≤ 64) : gShl cs (.int a) (.int (k : Int)) = some (.int (a * ((2 ^ k : Nat) : Int))) := by
  unfold gShl g2i
  rw [int_q, Option.bind_some, int_q, Option.bind_some]
  show (if (0 : Int) ≤ (k : Int) ∧ (k : Int) ≤ 64 ∧ a.natAbs < 2 ^ 62 then _ else _) = _
  rw [if_pos ⟨Int.natCast_nonneg _, by omega, by rw [two62]; omega⟩, Int.toNat_natCast, Int.natCast_pow]; rfl
theorem shr_ok {cs : List ACell} {a : Int} {k : Nat} : gShr cs (.int a) (.int (k : Int)) = some (.int (a / ((2 ^ k : Nat) : Int))) := by
  unfold gShr g2i
  rw [int_q, Option.bind_some, int_q, Option.bind_some]
  show (if (0 : Int) ≤ (k : Int) then _ else _) = _
  rw [if_pos (Int.natCast_nonneg _), Int.toNat_natCast, Int.natCast_pow, Int.fdiv_eq_ediv_of_nonneg _ (Int.pow_nonneg (by decide))]; rfl

/-! octets of a number -/
noncomputable def hs : Nat → Int → List Int
  | 0, _ => []
  | f + 1, n => if 63 < n then hs f (n / 64) ++ [n / 64 % 64 + 64] else []
noncomputable def octL (n : Int) : List Int := hs 15 n ++ [n % 64]
theorem appendA_ok {cs : List ACell} {i : Nat} {xs : List AVal} {a : AVal} (hc : cs[i]? = some (.lst xs)) (hl : xs.length < 1000) : appendA cs [.cell i, a] = some (cs.set i (.lst (xs ++ [a]))) := by
  show (some i).bind (fun i => cs[i]?.bind fun c => c.lst?.bind fun xs => if xs.length < 1000 then some (cs.set i (.lst (xs ++ [a]))) else none) = _
  rw [Option.bind_some, hc, Option.bind_some, show (ACell.lst xs).lst? = some xs from rfl, Option.bind_some, if_pos hl]
theorem insertA_ok {cs : List ACell} {i : Nat} {xs : List AVal} {a : AVal} (hc : cs[i]? = some (.lst xs)) (hl : xs.length < 1000) : insertA cs [.cell i, .int 0, a] = some (cs.set i (.lst (a :: xs))) := by
  show (some i).bind (fun i => cs[i]?.bind fun c => c.lst?.bind fun xs => if xs.length < 1000 then some (cs.set i (.lst (a :: xs))) else none) = _
  rw [Option.bind_some, hc, Option.bind_some, show (ACell.lst xs).lst? = some xs from rfl, Option.bind_some, if_pos hl]
theorem sM_of {ok : List ACell → AVal → Bool} {g : CFn} {fo : ASt → Option AVal} {f : ASt → Option (List AVal)} {st : ASt} {a : AVal} {as : List AVal} {cs' : List ACell} (h1 : fo st = some a) (h2 : f st = some as) (h3 : ok st.cells a = true) (h4 : g st.cells (a :: as) = some cs') : sM ok g fo f nilF st = some (.next, { st with cells := cs' }) := by
  unfold sM
  rw [h1, Option.bind_some, h2, Option.bind_some, show nilF st = some [] from rfl, Option.bind_some, if_pos h3, List.append_nil, h4, Option.bind_some]
theorem isLst_ok {cs : List ACell} {i : Nat} {xs : List AVal} (hc : cs[i]? = some (.lst xs)) : isLst cs (.cell i) = true := by unfold isLst; rw [lstOf_cell hc]; rfl
theorem app_cell {i : Nat} {xs : List AVal} {a : AVal} {fo f : ASt → Option AVal} {st : ASt} (h1 : fo st = some (.cell i)) (h2 : f st = some a) (hc : st.cells[i]? = some (.lst xs)) (hl : xs.length < 1000) :
    sM isLst appendA fo (consF f nilF) nilF st = some (.next, { st with cells := st.cells.set i (.lst (xs ++ [a])) }) := sM_of h1 (cons_of h2 rfl) (isLst_ok hc) (appendA_ok hc hl)
theorem ins_cell {i : Nat} {xs : List AVal} {a : AVal} {fo f : ASt → Option AVal} {st : ASt} (h1 : fo st = some (.cell i)) (h2 : f st = some a) (hc : st.cells[i]? = some (.lst xs)) (hl : xs.length < 1000) :
    sM isLst insertA fo (consF (kI 0) (consF f nilF)) nilF st = some (.next, { st with cells := st.cells.set i (.lst (a :: xs)) }) := sM_of h1 (cons_of (f := kI 0) rfl (cons_of h2 rfl)) (isLst_ok hc) (insertA_ok hc hl)
theorem oct_while : ∀ (f : Nat) (n : Int) (acc : List Int), 0 ≤ n → n < 64 ^ (f + 1) → acc.length + f < 1000 → ∃ n', sWhile (tcmp gGt (ldv 0) (kI 63)) (sSeq (sAssign 0 (bin2 gDiv (ldv 0) (kI 64))) (sSeq (sM isLst insertA (ldv 1) (consF (kI 0) (consF (bin2 gAdd (bin2 gMod (ldv 0) (kI 64)) (kI 64)) nilF)) nilF) sNil)) (f + 1)
      ⟨[some (.int n), some (.cell 0)], [.lst (acc.map .int)]⟩ = some (.next, ⟨[some (.int n'), some (.cell 0)], [.lst ((hs f n ++ acc).map .int)]⟩)
  | 0, n, acc, h0, h1, _ => ⟨n, wh_f (show some (decide ((63 : Int) < n)) = some false by rw [decide_eq_false (by omega)])⟩
  | f + 1, n, acc, h0, h1, hl => by
    by_cases h : 63 < n
    · have hb : sSeq (sAssign 0 (bin2 gDiv (ldv 0) (kI 64))) (sSeq (sM isLst insertA (ldv 1) (consF (kI 0) (consF (bin2 gAdd (bin2 gMod (ldv 0) (kI 64)) (kI 64)) nilF)) nilF) sNil) ⟨[some (.int n), some (.cell 0)], [.lst (acc.map .int)]⟩ = some (.next, ⟨[some (.int (n / 64)), some (.cell 0)], [.lst (((n / 64 % 64 + 64) :: acc).map AVal.int)]⟩) :=
        seq_n (st1 := ⟨[some (.int (n / 64)), some (.cell 0)], [.lst (acc.map .int)]⟩) rfl (seq_n (ins_cell (i := 0) (xs := acc.map .int) rfl (a := .int (n / 64 % 64 + 64)) rfl rfl (by rw [List.length_map]; omega)) rfl)
      obtain ⟨n', e⟩ := oct_while f (n / 64) ((n / 64 % 64 + 64) :: acc) (by omega) (by rw [Int.pow_succ] at h1; omega) (by rw [List.length_cons]; omega)
      refine ⟨n', wh_n (show some (decide ((63 : Int) < n)) = some true by rw [decide_eq_true h]) hb ?_⟩
      rw [e, hs, if_pos h, List.append_assoc]; rfl
    · refine ⟨n, wh_f (show some (decide ((63 : Int) < n)) = some false by rw [decide_eq_false h]) |>.trans ?_⟩
      rw [hs, if_neg h]; rfl
theorem hs_len : ∀ (f : Nat) (n : Int), (hs f n).length ≤ f
  | 0, _ => Nat.le_refl _
  | f + 1, n => by
    rw [hs]; split
    · rw [List.length_append, List.length_singleton]; have := hs_len f (n / 64); omega
    · exact Nat.zero_le _
theorem fin_cell {cells : List ACell} {i : Nat} {xs : List AVal} (h : cells[i]? = some (.lst xs)) (hu : underAllB 0 xs = true) : finish 0 (.cell i) cells = some (.lst xs, []) := by
  unfold finish
  rw [List.take_zero, if_pos (by rfl)]
  dsimp only
  rw [if_neg (Nat.not_lt_zero _), h]
  dsimp only
  rw [if_pos hu]
theorem oct_eval (n : Int) (h0 : 0 ≤ n) (h1 : n < 1000000) : dLawOctets [] [.int n] = some (.lst ((octL n).map .int), []) := by
  obtain ⟨n', e⟩ := oct_while 15 n [n % 64] h0 (by rw [show (64 : Int) ^ (15 + 1) = 79228162514264337593543950336 from by decide]; omega) (by rw [List.length_singleton]; decide)
  exact run_of rfl (seq_n (st1 := ⟨[some (.int n), some (.cell 0)], [.lst ([n % 64].map .int)]⟩) rfl (seq_n e (seq_r rfl))) (fin_cell rfl (under_ints _ _))
theorem oct_byte : ∀ (f : Nat) (n : Int), 0 ≤ n → ∀ c ∈ hs f n, 64 ≤ c ∧ c < 128
  | 0, _, _, _, h => nomatch h
  | f + 1, n, h0, c, h => by
    rw [hs] at h
    split at h
    · rcases List.mem_append.mp h with h | h
      · exact oct_byte f (n / 64) (by omega) c h
      · rw [List.mem_singleton.mp h]; omega
    · cases h
end Mine

end
section
set_option maxRecDepth 100000

namespace Mine
/-! base64 -/
noncomputable def tbL : List Nat := toNats b64A
noncomputable def tbI (v : Int) : Int := (((tbL[v.toNat]?).getD 0 : Nat) : Int)
noncomputable def chk64 (v : Nat) : Bool := match tbL[v]? with
  | some n => !(n == 61) && decide (n < 256) && (match dB64Value [] [.int n] with
    | some (.int i, []) => i == (v : Int)
    | _ => false)
  | none => false
theorem chk_all : (List.range 64).all chk64 = true := by kernel_rfl
theorem tb_len : tbL.length = 64 := by kernel_rfl
theorem tb_at {v : Int} (h0 : 0 ≤ v) (h1 : v < 64) : ∃ n : Nat, tbL[v.toNat]? = some n ∧ tbI v = (n : Int) ∧ n ≠ 61 ∧ n < 256 ∧ dB64Value [] [.int (n : Int)] = some (.int v, []) := by
  have h := List.all_eq_true.mp chk_all v.toNat (List.mem_range.mpr (by omega))
  unfold chk64 at h
  cases e : tbL[v.toNat]? with
  | none => rw [e] at h; cases h
  | some n =>
    rw [e] at h
    simp only [Bool.and_eq_true, Bool.not_eq_true', beq_eq_false_iff_ne, decide_eq_true_eq] at h
    obtain ⟨⟨h2, h3⟩, h4⟩ := h
    refine ⟨n, rfl, by unfold tbI; rw [e]; rfl, h2, h3, ?_⟩
    split at h4
    · rename_i i q
      rw [q, beq_iff_eq.mp h4, Int.toNat_of_nonneg h0]
    · cases h4
theorem item_B {cs : List ACell} {k n : Nat} {b : List Nat} (h : k < 1000) (hl : b.length < 1000) (e : b[k]? = some n) : gItem cs (.bytes b) (.int (k : Int)) = some (.int (n : Int)) := by
  unfold gItem
  refine ei_r rfl (ei_r rfl (ei_r rfl ?_))
  unfold gItemB
  rw [show (AVal.bytes b).bytes? = some b from rfl, Option.bind_some, int_q, Option.bind_some]
  unfold nthB
  rw [if_pos ⟨(cast_ok h).1, (cast_ok h).2, hl⟩, Int.toNat_natCast, e, Option.bind_some]
theorem tb_item {cs : List ACell} {v : Int} (h0 : 0 ≤ v) (h1 : v < 64) : gItem cs (.bytes tbL) (.int v) = some (.int (tbI v)) := by
  obtain ⟨n, h2, h3, _⟩ := tb_at h0 h1
  obtain ⟨m, rfl⟩ := Int.eq_ofNat_of_zero_le h0
  rw [Int.toNat_natCast] at h2
  rw [item_B (by omega) (by rw [tb_len]; decide) h2, h3]

noncomputable def eSt (D : AVal) (lb lc : Int) (b : Option AVal) (vs : List Int) : ASt := ⟨[some D, some (.bool false), some D, some (.cell 0), some (.int lb), some (.int lc), b], [.lst ((vs.map tbI).map .int)]⟩
noncomputable abbrev eW : AS := sSeq (sM isLst appendA (ldv 3) (consF (bin2 gItem kB64 (bin2 gAnd (bin2 gShr (ldv 5) (bin2 gSub (ldv 4) (kI 6))) (kI 63))) nilF) nilF) (sSeq (sAssign 4 (bin2 gSub (ldv 4) (kI 6))) sNil)
theorem app_tb {fe : ASt → Option AVal} {D : AVal} {lb lc : Int} {b : Option AVal} {vs : List Int} {v : Int} (h : fe (eSt D lb lc b vs) = some (.int v)) (h0 : 0 ≤ v) (h1 : v < 64) (hl : vs.length < 900) :
    sM isLst appendA (ldv 3) (consF (bin2 gItem kB64 fe) nilF) nilF (eSt D lb lc b vs) = some (.next, eSt D lb lc b (vs ++ [v])) := by
  rw [app_cell (i := 0) (xs := (vs.map tbI).map .int) (a := .int (tbI v)) rfl (bin_of (a := .bytes tbL) rfl h (tb_item h0 h1)) rfl (by rw [List.length_map, List.length_map]; omega)]
  unfold eSt
  rw [List.map_append, List.map_append]; rfl
theorem eW_ok {D : AVal} {lb lc : Int} {b : Option AVal} {vs : List Int} (k : Nat) (hk : lb - 6 = (k : Int)) (hl : vs.length < 900) : eW (eSt D lb lc b vs) = some (.next, eSt D k lc b (vs ++ [lc / ((2 ^ k : Nat) : Int) % 64])) := by
  have e : bin2 gAnd (bin2 gShr (ldv 5) (bin2 gSub (ldv 4) (kI 6))) (kI 63) (eSt D lb lc b vs) = some (.int (lc / ((2 ^ k : Nat) : Int) % 64)) := by
    rw [← bitAnd_m6]
    exact bin_of (bin_of (a := .int lc) rfl (b := .int (lb - 6)) rfl (by rw [hk]; exact shr_ok)) rfl rfl
  refine seq_n (app_tb e (Int.emod_nonneg _ (by decide)) (Int.emod_lt_of_pos _ (by decide)) hl) (seq_n (st1 := eSt D k lc b (vs ++ [lc / ((2 ^ k : Nat) : Int) % 64])) ?_ rfl)
  rw [← hk]; rfl
noncomputable def enc1 (s : Int × Int × List Int) (b : Int) : Int × Int × List Int :=
  let lc := (s.2.1 * 256 + b) % 65536
  if s.1 = 0 then (2, lc, s.2.2 ++ [lc / 4 % 64]) else if s.1 = 2 then (4, lc, s.2.2 ++ [lc / 16 % 64]) else (0, lc, s.2.2 ++ [lc / 64 % 64] ++ [lc / 1 % 64])
theorem enc_body {D : AVal} {lb lc : Int} {o : Option AVal} {vs : List Int} {b : Int} (hlb : lb = 0 ∨ lb = 2 ∨ lb = 4) (h0 : 0 ≤ lc) (h1 : lc < 65536) (hb0 : 0 ≤ b) (hb : b < 256) (hl : vs.length < 800) :
    sSeq (sAssign 5 (bin2 gAnd (bin2 gOr (bin2 gShl (ldv 5) (kI 8)) (ldv 6)) (kI 65535))) (sSeq (sAssign 4 (bin2 gAdd (ldv 4) (kI 8))) (sSeq (sWhile (tcmp gGe (ldv 4) (kI 6)) eW 16) sNil)) (stv 6 (.int b) (eSt D lb lc o vs)) =
      some (.next, eSt D (enc1 (lb, lc, vs) b).1 (enc1 (lb, lc, vs) b).2.1 (some (.int b)) (enc1 (lb, lc, vs) b).2.2) := by
  have e : bin2 gAnd (bin2 gOr (bin2 gShl (ldv 5) (kI 8)) (ldv 6)) (kI 65535) (eSt D lb lc (some (.int b)) vs) = some (.int ((lc * 256 + b) % 65536)) := by
    have h : bin2 gOr (bin2 gShl (ldv 5) (kI 8)) (ldv 6) (eSt D lb lc (some (.int b)) vs) = some (.int (lc * 256 + b)) := by
      refine bin_of (bin_of (a := .int lc) rfl (b := .int 8) rfl (shl_ok (k := 8) h0 (by omega) (by decide))) (b := .int b) rfl ?_
      show some (AVal.int (Builtin.bitOr (lc * ((2 ^ 8 : Nat) : Int)) b)) = _
      rw [or_shl h0 hb0 hb]; rfl
    rw [← bitAnd_m16]
    exact bin_of h rfl rfl
  refine seq_n (st1 := eSt D lb ((lc * 256 + b) % 65536) (some (.int b)) vs) (as_of e) (seq_n (st1 := eSt D (lb + 8) ((lc * 256 + b) % 65536) (some (.int b)) vs) rfl (seq_n ?_ rfl))
  rcases hlb with rfl | rfl | rfl
  · exact wh_n rfl (eW_ok 2 rfl (by omega)) (wh_f rfl)
  · exact wh_n rfl (eW_ok 4 rfl (by omega)) (wh_f rfl)
  · exact wh_n rfl (eW_ok 6 rfl (by omega)) (wh_n rfl (eW_ok 0 rfl (by rw [List.length_append, List.length_singleton]; omega)) (wh_f rfl))
theorem enc1_ok {s : Int × Int × List Int} {b : Int} (hlb : s.1 = 0 ∨ s.1 = 2 ∨ s.1 = 4) : ((enc1 s b).1 = 0 ∨ (enc1 s b).1 = 2 ∨ (enc1 s b).1 = 4) ∧ 0 ≤ (enc1 s b).2.1 ∧ (enc1 s b).2.1 < 65536 ∧ (enc1 s b).2.2.length ≤ s.2.2.length + 2 := by
  have h0 : 0 ≤ (s.2.1 * 256 + b) % 65536 := Int.emod_nonneg _ (by decide)
  have h1 : (s.2.1 * 256 + b) % 65536 < 65536 := Int.emod_lt_of_pos _ (by decide)
  unfold enc1
  dsimp only
  rcases hlb with e | e | e
  · rw [if_pos e]; exact ⟨.inr (.inl rfl), h0, h1, by rw [List.length_append, List.length_singleton]; omega⟩
  · rw [if_neg (by omega), if_pos e]; exact ⟨.inr (.inr rfl), h0, h1, by rw [List.length_append, List.length_singleton]; omega⟩
  · rw [if_neg (by omega), if_neg (by omega)]; exact ⟨.inl rfl, h0, h1, by rw [List.length_append, List.length_append, List.length_singleton, List.length_singleton]; exact Nat.le_refl _⟩
theorem enc_for {D : AVal} {b : AS} (hb : b = sSeq (sAssign 5 (bin2 gAnd (bin2 gOr (bin2 gShl (ldv 5) (kI 8)) (ldv 6)) (kI 65535))) (sSeq (sAssign 4 (bin2 gAdd (ldv 4) (kI 8))) (sSeq (sWhile (tcmp gGe (ldv 4) (kI 6)) eW 16) sNil))) :
    ∀ (bs : List Int) (s : Int × Int × List Int) (o : Option AVal), (s.1 = 0 ∨ s.1 = 2 ∨ s.1 = 4) → 0 ≤ s.2.1 → s.2.1 < 65536 → (∀ c ∈ bs, 0 ≤ c ∧ c < 256) → s.2.2.length + 2 * bs.length < 800 →
      ∃ o', forL (tgName 6) b (bs.map .int) (eSt D s.1 s.2.1 o s.2.2) = some (.next, eSt D (bs.foldl enc1 s).1 (bs.foldl enc1 s).2.1 o' (bs.foldl enc1 s).2.2)
  | [], s, o, _, _, _, _, _ => ⟨o, rfl⟩
  | c :: bs, s, o, h1, h2, h3, h4, h5 => by
    rw [List.length_cons] at h5
    obtain ⟨g1, g2, g3, g4⟩ := enc1_ok (b := c) h1
    obtain ⟨o', e⟩ := enc_for hb bs (enc1 s c) (some (.int c)) g1 g2 g3 (fun d hd => h4 d (.tail _ hd)) (by omega)
    refine ⟨o', for_n rfl ?_ e⟩
    rw [hb]
    exact enc_body h1 h2 h3 (h4 c (.head _)).1 (h4 c (.head _)).2 (by omega)
end Mine

end
section
set_option maxRecDepth 100000

namespace Mine
theorem pcall_of {fa : Nat} {F : DefF} {ff : ASt → Option AVal} {f g : ASt → Option (List AVal)} {st : ASt} {as bs : List AVal} {r : AVal} {cs' : List ACell} (h0 : ff st = some (.cst (.ref fa))) (h1 : f st = some as) (h2 : g st = some bs) (hu : underAllB 0 (as ++ bs) = true) (hF : F [] (as ++ bs) = some (r, cs')) : pCall fa F ff f g st = some r := by
  unfold pCall
  rw [h0, h1, h2]
  dsimp only
  rw [if_pos ⟨rfl, hu⟩, hF]; rfl
theorem ints_ok : ∀ l : List Int, intsOf (l.map .int) = some l
  | [] => rfl
  | x :: l => by rw [List.map_cons, intsOf, int_q, Option.bind_some, ints_ok l, Option.bind_some]
theorem bytes_of {cs : List ACell} {a : AVal} {l : List Int} (h : lstOf cs a = some (l.map .int)) (hl : l.length < 1000) (hb : ∀ c ∈ l, 0 ≤ c ∧ c < 256) : fun1 bytesA cs [a] = some (.bytes (l.map Int.toNat)) := by
  show bytesA cs a = _
  unfold bytesA
  rw [h, Option.bind_some, ints_ok, Option.bind_some, if_pos ⟨hl, List.all_eq_true.mpr fun c hc => decide_eq_true (hb c hc)⟩]
theorem buf_ok (D : List Nat) : dBuffer [] [.bytes D] = some (.bytes D, []) := by kernel_rfl
theorem asc_ok (D : List Nat) : dAsciiBuffer [] [.bytes D] = some (.bytes D, []) := by kernel_rfl
theorem bfd_ok (D : List Nat) : dBytesFromDecodeData [] [.bytes D] = some (.bytes D, []) := by kernel_rfl
theorem truth_ok : dTruth [] [.bool false] = some (.bool false, []) := by kernel_rfl
noncomputable def bt (l : List Int) : AVal := .bytes (l.map Int.toNat)
theorem bt_items {l : List Int} (h : ∀ c ∈ l, 0 ≤ c ∧ c < 256) (hl : l.length < 1000) : itemsB (bt l) = some (l.map .int) := by
  show (if (l.map Int.toNat).length < 1000 then some ((l.map Int.toNat).map fun (n : Nat) => AVal.int (n : Int)) else none) = _
  rw [if_pos (by rw [List.length_map]; exact hl), List.map_map]
  exact congrArg some (List.map_congr_left fun c hc => congrArg AVal.int (Int.toNat_of_nonneg (h c hc).1))

noncomputable def endV (lb lc : Int) (vs : List Int) : List Int × Nat := if lb = 2 then (vs ++ [lc % 4 * 16], 2) else if lb = 4 then (vs ++ [lc % 16 * 4], 1) else (vs, 0)
theorem endV_0 (lc : Int) (vs : List Int) : endV 0 lc vs = (vs, 0) := rfl
theorem endV_2 (lc : Int) (vs : List Int) : endV 2 lc vs = (vs ++ [lc % 4 * 16], 2) := rfl
theorem endV_4 (lc : Int) (vs : List Int) : endV 4 lc vs = (vs ++ [lc % 16 * 4], 1) := rfl
noncomputable def txt (p : List Int × Nat) : List Int := p.1.map tbI ++ List.replicate p.2 61
theorem txt_len (p : List Int × Nat) : (txt p).length = p.1.length + p.2 := by unfold txt; rw [List.length_append, List.length_map, List.length_replicate]
noncomputable def enc (bs : List Int) : List Int × Nat := endV (bs.foldl enc1 (0, 0, [])).1 (bs.foldl enc1 (0, 0, [])).2.1 (bs.foldl enc1 (0, 0, [])).2.2

theorem enc_inv : ∀ (bs : List Int) (s : Int × Int × List Int), (s.1 = 0 ∨ s.1 = 2 ∨ s.1 = 4) → 0 ≤ s.2.1 → s.2.1 < 65536 → ((bs.foldl enc1 s).1 = 0 ∨ (bs.foldl enc1 s).1 = 2 ∨ (bs.foldl enc1 s).1 = 4) ∧ 0 ≤ (bs.foldl enc1 s).2.1 ∧ (bs.foldl enc1 s).2.1 < 65536 ∧ (bs.foldl enc1 s).2.2.length ≤ s.2.2.length + 2 * bs.length
  | [], s, h, h0, h1 => ⟨h, h0, h1, Nat.le_refl _⟩
  | b :: bs, s, h, h0, h1 => by
    obtain ⟨g1, g2, g3, g4⟩ := enc1_ok (b := b) h
    obtain ⟨k1, k2, k3, k4⟩ := enc_inv bs (enc1 s b) g1 g2 g3
    exact ⟨k1, k2, k3, by rw [List.foldl_cons, List.length_cons]; omega⟩
theorem pad_app {D : AVal} {lb lc : Int} {o : Option AVal} {l : List Int} (hl : l.length < 990) : sM isLst appendA (ldv 3) (consF (kI 61) nilF) nilF ⟨[some D, some (.bool false), some D, some (.cell 0), some (.int lb), some (.int lc), o], [.lst (l.map .int)]⟩ =
    some (.next, ⟨[some D, some (.bool false), some D, some (.cell 0), some (.int lb), some (.int lc), o], [.lst ((l ++ [61]).map .int)]⟩) := by
  rw [app_cell (i := 0) (xs := l.map .int) (a := .int 61) rfl rfl rfl (by rw [List.length_map]; omega), List.map_append]; rfl

theorem b2a_eval (bs : List Int) (hb : ∀ c ∈ bs, 0 ≤ c ∧ c < 256) (hl : bs.length < 300) (hv : ∀ c ∈ txt (enc bs), 0 ≤ c ∧ c < 256) : dB2aBase64 [] [bt bs, .bool false] = some (bt (txt (enc bs)), []) := by
  obtain ⟨k1, k2, k3, k4⟩ := enc_inv bs (0, 0, []) (.inl rfl) (Int.le_refl _) (by decide)
  obtain ⟨o', e⟩ := enc_for (D := bt bs) rfl bs (0, 0, []) none (.inl rfl) (Int.le_refl _) (by decide) hb (by show 0 + 2 * bs.length < 800; omega)
  unfold enc at hv ⊢
  generalize bs.foldl enc1 (0, 0, []) = s at *
  obtain ⟨lb, lc, vs⟩ := s
  dsimp only at k1 k2 k3 k4 e hv ⊢
  have k4 : vs.length ≤ 2 * bs.length := by have : vs.length ≤ 0 + 2 * bs.length := k4; omega
  have tail : ∀ p : List Int × Nat, p = endV lb lc vs → (txt p).length < 1000 → sIf (tcmp gEq (ldv 4) (kI 2)) (sSeq (sM isLst appendA (ldv 3) (consF (bin2 gItem kB64 (bin2 gShl (bin2 gAnd (ldv 5) (kI 3)) (kI 4))) nilF) nilF) (sSeq (sM isLst appendA (ldv 3) (consF (kI 61) nilF) nilF) (sSeq (sM isLst appendA (ldv 3) (consF (kI 61) nilF) nilF) sNil)))
      (sSeq (sIf (tcmp gEq (ldv 4) (kI 4)) (sSeq (sM isLst appendA (ldv 3) (consF (bin2 gItem kB64 (bin2 gShl (bin2 gAnd (ldv 5) (kI 15)) (kI 2))) nilF) nilF) (sSeq (sM isLst appendA (ldv 3) (consF (kI 61) nilF) nilF) sNil)) sNil) sNil) (eSt (bt bs) lb lc o' vs) =
      some (.next, ⟨[some (bt bs), some (.bool false), some (bt bs), some (.cell 0), some (.int lb), some (.int lc), o'], [.lst ((txt p).map .int)]⟩) := by
    rintro p rfl hlen
    have hm : (vs.map tbI).length = vs.length := List.length_map ..
    rcases k1 with rfl | rfl | rfl
    · refine if_f rfl (seq_n (if_f rfl rfl) ?_)
      rw [endV_0]
      unfold txt
      show _ = some (AFlow.next, ASt.mk _ [.lst ((vs.map tbI ++ []).map .int)])
      rw [List.append_nil]; rfl
    · have h := app_tb (fe := bin2 gShl (bin2 gAnd (ldv 5) (kI 3)) (kI 4)) (D := bt bs) (lb := 2) (lc := lc) (b := o') (vs := vs) (v := lc % 4 * 16) (by
        refine bin_of (a := .int (lc % 4)) (by rw [← bitAnd_m2]; rfl) (b := .int 4) rfl (shl_ok (k := 4) (by omega) (by omega) (by decide))) (by omega) (by omega) (by omega)
      refine if_t rfl (seq_n h (seq_n (pad_app (l := (vs ++ [lc % 4 * 16]).map tbI) (by rw [List.length_map, List.length_append, List.length_singleton]; omega)) (seq_n (pad_app (by rw [List.length_append, List.length_map, List.length_append, List.length_singleton, List.length_singleton]; omega)) ?_)))
      rw [endV_2]
      unfold txt
      rw [List.append_assoc]; rfl
    · have h := app_tb (fe := bin2 gShl (bin2 gAnd (ldv 5) (kI 15)) (kI 2)) (D := bt bs) (lb := 4) (lc := lc) (b := o') (vs := vs) (v := lc % 16 * 4) (by
        refine bin_of (a := .int (lc % 16)) (by rw [← bitAnd_m4]; rfl) (b := .int 2) rfl (shl_ok (k := 2) (by omega) (by omega) (by decide))) (by omega) (by omega) (by omega)
      refine if_f rfl (seq_n (if_t rfl (seq_n h (seq_n (pad_app (l := (vs ++ [lc % 16 * 4]).map tbI) (by rw [List.length_map, List.length_append, List.length_singleton]; omega)) rfl))) ?_)
      rw [endV_4]; rfl
  have hlen : (txt (endV lb lc vs)).length < 1000 := by
    rw [txt_len]
    rcases k1 with rfl | rfl | rfl
    · rw [endV_0]; show vs.length + 0 < 1000; omega
    · rw [endV_2]; show (vs ++ [_]).length + 2 < 1000; rw [List.length_append, List.length_singleton]; omega
    · rw [endV_4]; show (vs ++ [_]).length + 1 < 1000; rw [List.length_append, List.length_singleton]; omega
  have ht := tail _ rfl hlen
  exact run_of rfl (seq_n (as_of (pcall_of rfl rfl rfl rfl (buf_ok _))) (seq_n (as_of (pcall_of rfl rfl rfl rfl truth_ok)) (seq_n rfl (seq_n rfl (seq_n rfl (seq_n (for_of (bt_items hb (by omega)) e) (seq_n ht (seq_n (if_f rfl rfl) (seq_r (ret_of (pB_1 rfl (bytes_of (lstOf_cell (i := 0) rfl) hlen hv)))))))))))) rfl
end Mine


end
section
set_option maxRecDepth 100000

namespace Mine
/-! there and back -/
noncomputable def dec1 (s : Int × Int × List Int) (v : Int) : Int × Int × List Int :=
  if s.1 = 0 then (1, v, s.2.2) else if s.1 = 1 then (2, v % 16, s.2.2 ++ [s.2.1 * 4 + v / 16]) else if s.1 = 2 then (3, v % 4, s.2.2 ++ [s.2.1 * 16 + v / 4]) else (0, 0, s.2.2 ++ [s.2.1 * 64 + v])
theorem dec_0 (l : Int) (o : List Int) (v : Int) : dec1 (0, l, o) v = (1, v, o) := rfl
theorem dec_1 (l : Int) (o : List Int) (v : Int) : dec1 (1, l, o) v = (2, v % 16, o ++ [l * 4 + v / 16]) := rfl
theorem dec_2 (l : Int) (o : List Int) (v : Int) : dec1 (2, l, o) v = (3, v % 4, o ++ [l * 16 + v / 4]) := rfl
theorem dec_3 (l : Int) (o : List Int) (v : Int) : dec1 (3, l, o) v = (0, 0, o ++ [l * 64 + v]) := rfl
theorem e_0 (c : Int) (vs : List Int) (b : Int) : enc1 (0, c, vs) b = (2, (c * 256 + b) % 65536, vs ++ [(c * 256 + b) % 65536 / 4 % 64]) := rfl
theorem e_2 (c : Int) (vs : List Int) (b : Int) : enc1 (2, c, vs) b = (4, (c * 256 + b) % 65536, vs ++ [(c * 256 + b) % 65536 / 16 % 64]) := rfl
theorem e_4 (c : Int) (vs : List Int) (b : Int) : enc1 (4, c, vs) b = (0, (c * 256 + b) % 65536, vs ++ [(c * 256 + b) % 65536 / 64 % 64] ++ [(c * 256 + b) % 65536 / 1 % 64]) := rfl
noncomputable abbrev decF (vs : List Int) : Int × Int × List Int := vs.foldl dec1 (0, 0, [])
theorem decF_snoc (vs : List Int) (v : Int) : decF (vs ++ [v]) = dec1 (decF vs) v := by unfold decF; rw [List.foldl_append]; rfl
inductive RTr (done : List Int) : Int → Int → List Int → Prop
  | z {c : Int} {vs : List Int} (h : decF vs = (0, 0, done)) : RTr done 0 c vs
  | t {c b : Int} {vs pre : List Int} (hd : done = pre ++ [b]) (h0 : 0 ≤ b) (h1 : b < 256) (hc : c % 256 = b) (h : decF vs = (1, b / 4, pre)) : RTr done 2 c vs
  | f {c b : Int} {vs pre : List Int} (hd : done = pre ++ [b]) (h0 : 0 ≤ b) (h1 : b < 256) (hc : c % 256 = b) (h : decF vs = (2, b / 16, pre)) : RTr done 4 c vs
theorem rt_step {done : List Int} {lb c : Int} {vs : List Int} (R : RTr done lb c vs) {b : Int} (h0 : 0 ≤ b) (h1 : b < 256) : RTr (done ++ [b]) (enc1 (lb, c, vs) b).1 (enc1 (lb, c, vs) b).2.1 (enc1 (lb, c, vs) b).2.2 := by
  cases R with
  | z h =>
    rw [e_0]
    refine .t (b := b) rfl h0 h1 (by show (c * 256 + b) % 65536 % 256 = b; omega) ?_
    show decF (vs ++ _) = _
    rw [decF_snoc, h, dec_0, show (c * 256 + b) % 65536 / 4 % 64 = b / 4 by omega]
  | @t c b0 vs pre hd g0 g1 hc h =>
    rw [e_2]
    refine .f (b := b) rfl h0 h1 (by show (c * 256 + b) % 65536 % 256 = b; omega) ?_
    show decF (vs ++ _) = _
    rw [decF_snoc, h, dec_1, hd, show (c * 256 + b) % 65536 / 16 % 64 = b0 % 4 * 16 + b / 16 by omega, show (b0 % 4 * 16 + b / 16) % 16 = b / 16 by omega, show b0 / 4 * 4 + (b0 % 4 * 16 + b / 16) / 16 = b0 by omega]
  | @f c b0 vs pre hd g0 g1 hc h =>
    rw [e_4]
    refine .z ?_
    show decF (vs ++ _ ++ _) = _
    rw [decF_snoc, decF_snoc, h, dec_2, dec_3, hd, show (c * 256 + b) % 65536 / 64 % 64 = b0 % 16 * 4 + b / 64 by omega, show (c * 256 + b) % 65536 / 1 % 64 = b % 64 by omega, show (b0 % 16 * 4 + b / 64) % 4 = b / 64 by omega,
      show b0 / 16 * 16 + (b0 % 16 * 4 + b / 64) / 4 = b0 by omega, show b / 64 * 64 + b % 64 = b by omega]
theorem rt_all : ∀ (bs done : List Int) (s : Int × Int × List Int), RTr done s.1 s.2.1 s.2.2 → (∀ c ∈ bs, 0 ≤ c ∧ c < 256) → RTr (done ++ bs) (bs.foldl enc1 s).1 (bs.foldl enc1 s).2.1 (bs.foldl enc1 s).2.2
  | [], done, s, R, _ => by rw [List.append_nil]; exact R
  | b :: bs, done, s, R, h => by
    have := rt_all bs (done ++ [b]) (enc1 s b) (rt_step R (h b (.head _)).1 (h b (.head _)).2) fun c hc => h c (.tail _ hc)
    rw [List.append_assoc] at this
    exact this
theorem enc_vals : ∀ (bs : List Int) (s : Int × Int × List Int), (∀ v ∈ s.2.2, 0 ≤ v ∧ v < 64) → ∀ v ∈ (bs.foldl enc1 s).2.2, 0 ≤ v ∧ v < 64
  | [], _, h => h
  | b :: bs, s, h => enc_vals bs (enc1 s b) fun v hv => by
    have hm : ∀ x : Int, 0 ≤ x % 64 ∧ x % 64 < 64 := fun x => ⟨Int.emod_nonneg _ (by decide), Int.emod_lt_of_pos _ (by decide)⟩
    unfold enc1 at hv
    dsimp only at hv
    split at hv
    · rcases List.mem_append.mp hv with hv | hv
      · exact h v hv
      · rw [List.mem_singleton.mp hv]; exact hm _
    · split at hv
      · rcases List.mem_append.mp hv with hv | hv
        · exact h v hv
        · rw [List.mem_singleton.mp hv]; exact hm _
      · rcases List.mem_append.mp hv with hv | hv
        · rcases List.mem_append.mp hv with hv | hv
          · exact h v hv
          · rw [List.mem_singleton.mp hv]; exact hm _
        · rw [List.mem_singleton.mp hv]; exact hm _
theorem rt_end (bs : List Int) (h : ∀ c ∈ bs, 0 ≤ c ∧ c < 256) : (∃ q, decF (enc bs).1 = (q, 0, bs) ∧ ((q = 0 ∧ (enc bs).2 = 0) ∨ (q = 2 ∧ (enc bs).2 = 2) ∨ (q = 3 ∧ (enc bs).2 = 1))) ∧ (∀ v ∈ (enc bs).1, 0 ≤ v ∧ v < 64) := by
  have R := rt_all bs [] (0, 0, []) (.z rfl) h
  have V := enc_vals bs (0, 0, []) fun _ h => nomatch h
  unfold enc
  rw [List.nil_append] at R
  generalize bs.foldl enc1 (0, 0, []) = s at *
  obtain ⟨lb, lc, vs⟩ := s
  dsimp only at *
  cases R with
  | z h => rw [endV_0]; exact ⟨⟨0, h, .inl ⟨rfl, rfl⟩⟩, V⟩
  | @t c b vs pre hd g0 g1 hc h =>
    rw [endV_2]
    refine ⟨⟨2, ?_, .inr (.inl ⟨rfl, rfl⟩)⟩, fun v hv => ?_⟩
    · show decF (vs ++ _) = _
      rw [decF_snoc, h, dec_1, hd, show lc % 4 * 16 % 16 = 0 by omega, show b / 4 * 4 + lc % 4 * 16 / 16 = b by omega]
    · rcases List.mem_append.mp hv with hv | hv
      · exact V v hv
      · rw [List.mem_singleton.mp hv]; omega
  | @f c b vs pre hd g0 g1 hc h =>
    rw [endV_4]
    refine ⟨⟨3, ?_, .inr (.inr ⟨rfl, rfl⟩)⟩, fun v hv => ?_⟩
    · show decF (vs ++ _) = _
      rw [decF_snoc, h, dec_2, hd, show lc % 16 * 4 % 4 = 0 by omega, show b / 16 * 16 + lc % 16 * 4 / 4 = b by omega]
    · rcases List.mem_append.mp hv with hv | hv
      · exact V v hv
      · rw [List.mem_singleton.mp hv]; omega

/-! a2b_base64 -/
noncomputable def dSt (D : AVal) (q l p i : Int) (ch : Option AVal) (o : List Int) : ASt := ⟨[some D, some (.bool false), some D, some (.cell 0), some (.int q), some (.int l), some (.int p), some (.int i), ch], [.lst (o.map .int)]⟩
noncomputable abbrev aB : AS := (sSeq (sIf (tcmp gEq (ldv 8) (kI 61)) (sSeq (sAssign 6 (bin2 gAdd (ldv 6) (kI 1))) (sSeq (sIf (tAnd (tcmp gGe (ldv 4) (kI 2)) (tAnd (tcmp gLe (bin2 gAdd (ldv 4) (ldv 6)) (kI 4)) (fun _ => some true))) (sSeq (sAssign 7 (bin2 gAdd (ldv 7) (kI 1))) (sSeq (fun st => some (.cont, st)) sNil)) sNil) noS)) sNil) (sSeq (sAssign 8 (pCall 111 dB64Value (kV (.ref 111)) (consF (ldv 8) nilF) nilF)) (sSeq (sIf (tcmp gGe (ldv 8) (kI 64)) noS sNil) (sSeq (sIf (tAnd (tVal (ldv 6)) noT) noS sNil) (sSeq (sAssign 6 (kI 0)) (sSeq (sIf (tcmp gEq (ldv 4) (kI 0)) (sSeq (sAssign 4 (kI 1)) (sSeq (sAssign 5 (ldv 8)) sNil)) (sSeq (sIf (tcmp gEq (ldv 4) (kI 1)) (sSeq (sAssign 4 (kI 2)) (sSeq (sM isLst appendA (ldv 3) (consF (bin2 gOr (bin2 gShl (ldv 5) (kI 2)) (bin2 gShr (ldv 8) (kI 4))) nilF) nilF) (sSeq (sAssign 5 (bin2 gAnd (ldv 8) (kI 15))) sNil))) (sSeq (sIf (tcmp gEq (ldv 4) (kI 2)) (sSeq (sAssign 4 (kI 3)) (sSeq (sM isLst appendA (ldv 3) (consF (bin2 gOr (bin2 gShl (ldv 5) (kI 4)) (bin2 gShr (ldv 8) (kI 2))) nilF) nilF) (sSeq (sAssign 5 (bin2 gAnd (ldv 8) (kI 3))) sNil))) (sSeq (sAssign 4 (kI 0)) (sSeq (sM isLst appendA (ldv 3) (consF (bin2 gOr (bin2 gShl (ldv 5) (kI 6)) (ldv 8)) nilF) nilF) (sSeq (sAssign 5 (kI 0)) sNil)))) sNil)) sNil)) (sSeq (sAssign 7 (bin2 gAdd (ldv 7) (kI 1))) sNil)))))))
theorem app_out {D : AVal} {q l p i : Int} {ch : Option AVal} {o : List Int} {fe : ASt → Option AVal} {v : Int} (h : fe (dSt D q l p i ch o) = some (.int v)) (hl : o.length < 900) : sM isLst appendA (ldv 3) (consF fe nilF) nilF (dSt D q l p i ch o) = some (.next, dSt D q l p i ch (o ++ [v])) := by
  rw [app_cell (i := 0) (xs := o.map .int) (a := .int v) rfl h rfl (by rw [List.length_map]; omega)]
  unfold dSt
  rw [List.map_append]; rfl
theorem or_of {st : ASt} {f1 f2 : ASt → Option AVal} {l r : Int} (k : Nat) (h1 : f1 st = some (.int l)) (h2 : f2 st = some (.int r)) (hk : k ≤ 64) (g0 : 0 ≤ l) (g1 : l < 1000000) (g2 : 0 ≤ r) (g3 : r < ((2 ^ k : Nat) : Int)) : bin2 gOr (bin2 gShl f1 (kI (k : Int))) f2 st = some (.int (l * ((2 ^ k : Nat) : Int) + r)) := by
  refine bin_of (bin_of h1 rfl (shl_ok g0 g1 hk)) h2 ?_
  show some (AVal.int (Builtin.bitOr _ _)) = _
  rw [or_shl g0 g2 g3]
theorem dec_char {D : AVal} {q l i v : Int} {ch : Option AVal} {o : List Int} (hq : q = 0 ∨ q = 1 ∨ q = 2 ∨ q = 3) (hl0 : 0 ≤ l) (hl1 : l < 64) (hv0 : 0 ≤ v) (hv1 : v < 64) (ho : o.length < 900) :
    aB (stv 8 (.int (tbI v)) (dSt D q l 0 i ch o)) = some (.next, dSt D (dec1 (q, l, o) v).1 (dec1 (q, l, o) v).2.1 0 (i + 1) (some (.int v)) (dec1 (q, l, o) v).2.2) := by
  obtain ⟨n, _, e, hn, _, hd⟩ := tb_at hv0 hv1
  have h61 : tcmp gEq (ldv 8) (kI 61) (stv 8 (.int (tbI v)) (dSt D q l 0 i ch o)) = some false := by
    show some (tbI v == 61) = _
    rw [beq_eq_false_iff_ne.mpr (by rw [e]; omega)]
  have hval : pCall 111 dB64Value (kV (.ref 111)) (consF (ldv 8) nilF) nilF (stv 8 (.int (tbI v)) (dSt D q l 0 i ch o)) = some (.int v) :=
    pcall_of (as := [.int (tbI v)]) rfl rfl rfl rfl (by rw [e]; exact hd)
  have h64 : tcmp gGe (ldv 8) (kI 64) (dSt D q l 0 i (some (.int v)) o) = some false := by
    show some (decide ((64 : Int) ≤ v)) = _
    rw [decide_eq_false (by omega)]
  refine seq_n (if_f h61 rfl) (seq_n (st1 := dSt D q l 0 i (some (.int v)) o) (as_of hval) (seq_n (if_f h64 rfl) (seq_n (if_f rfl rfl) (seq_n (st1 := dSt D q l 0 i (some (.int v)) o) rfl (seq_n (st1 := dSt D (dec1 (q, l, o) v).1 (dec1 (q, l, o) v).2.1 0 i (some (.int v)) (dec1 (q, l, o) v).2.2) ?_ (seq_n rfl rfl))))))
  rcases hq with rfl | rfl | rfl | rfl
  · exact if_t rfl (seq_n rfl (seq_n rfl rfl))
  · refine if_f rfl (seq_n (if_t rfl (seq_n (st1 := dSt D 2 l 0 i (some (.int v)) o) rfl (seq_n (app_out (or_of 2 rfl (bin_of (a := .int v) (b := .int 4) rfl rfl (shr_ok (cs := [.lst (o.map .int)]) (k := 4))) (by decide) hl0 (by omega) (by show 0 ≤ v / 16; omega) (by show v / 16 < 4; omega)) ho) (seq_n (as_of (a := .int (v % 16)) (by rw [← bitAnd_m4]; rfl)) rfl)))) rfl)
  · refine if_f rfl (seq_n (if_f rfl (seq_n (if_t rfl (seq_n (st1 := dSt D 3 l 0 i (some (.int v)) o) rfl (seq_n (app_out (or_of 4 rfl (bin_of (a := .int v) (b := .int 2) rfl rfl (shr_ok (cs := [.lst (o.map .int)]) (k := 2))) (by decide) hl0 (by omega) (by show 0 ≤ v / 4; omega) (by show v / 4 < 16; omega)) ho) (seq_n (as_of (a := .int (v % 4)) (by rw [← bitAnd_m2]; rfl)) rfl)))) rfl)) rfl)
  · refine if_f rfl (seq_n (if_f rfl (seq_n (if_f rfl (seq_n (st1 := dSt D 0 l 0 i (some (.int v)) o) rfl (seq_n (app_out (or_of 6 rfl (r := v) rfl (by decide) hl0 (by omega) hv0 hv1) ho) (seq_n rfl rfl)))) rfl)) rfl)
theorem dec1_ok {s : Int × Int × List Int} {v : Int} (hv0 : 0 ≤ v) (hv1 : v < 64) : ((dec1 s v).1 = 0 ∨ (dec1 s v).1 = 1 ∨ (dec1 s v).1 = 2 ∨ (dec1 s v).1 = 3) ∧ 0 ≤ (dec1 s v).2.1 ∧ (dec1 s v).2.1 < 64 ∧ (dec1 s v).2.2.length ≤ s.2.2.length + 1 := by
  unfold dec1
  split
  · exact ⟨.inr (.inl rfl), hv0, hv1, by show s.2.2.length ≤ _; omega⟩
  · split
    · exact ⟨.inr (.inr (.inl rfl)), by show 0 ≤ v % 16; omega, by show v % 16 < 64; omega, by show (s.2.2 ++ [_]).length ≤ _; rw [List.length_append, List.length_singleton]; exact Nat.le_refl _⟩
    · split
      · exact ⟨.inr (.inr (.inr rfl)), by show 0 ≤ v % 4; omega, by show v % 4 < 64; omega, by show (s.2.2 ++ [_]).length ≤ _; rw [List.length_append, List.length_singleton]; exact Nat.le_refl _⟩
      · exact ⟨.inl rfl, Int.le_refl _, by show (0 : Int) < 64; decide, by show (s.2.2 ++ [_]).length ≤ _; rw [List.length_append, List.length_singleton]; exact Nat.le_refl _⟩
theorem dec_for {D : AVal} (rest : List AVal) : ∀ (vs : List Int) (s : Int × Int × List Int) (i : Int) (ch : Option AVal), (s.1 = 0 ∨ s.1 = 1 ∨ s.1 = 2 ∨ s.1 = 3) → 0 ≤ s.2.1 → s.2.1 < 64 → (∀ v ∈ vs, 0 ≤ v ∧ v < 64) → s.2.2.length + vs.length < 900 →
    ∃ i' ch', forL (tgName 8) aB ((vs.map tbI).map .int ++ rest) (dSt D s.1 s.2.1 0 i ch s.2.2) = forL (tgName 8) aB rest (dSt D (vs.foldl dec1 s).1 (vs.foldl dec1 s).2.1 0 i' ch' (vs.foldl dec1 s).2.2)
  | [], s, i, ch, _, _, _, _, _ => ⟨i, ch, rfl⟩
  | v :: vs, s, i, ch, h1, h2, h3, h4, h5 => by
    rw [List.length_cons] at h5
    obtain ⟨hv0, hv1⟩ := h4 v (.head _)
    obtain ⟨g1, g2, g3, g4⟩ := dec1_ok (s := s) hv0 hv1
    obtain ⟨i', ch', e⟩ := dec_for rest vs (dec1 s v) (i + 1) (some (.int v)) g1 g2 g3 (fun d hd => h4 d (.tail _ hd)) (by omega)
    exact ⟨i', ch', for_n rfl (dec_char h1 h2 h3 hv0 hv1 (by omega)) e⟩
theorem txt_byte (bs : List Int) (h : ∀ c ∈ bs, 0 ≤ c ∧ c < 256) : ∀ c ∈ txt (enc bs), 0 ≤ c ∧ c < 256 := by
  intro c hc
  unfold txt at hc
  rcases List.mem_append.mp hc with hc | hc
  · obtain ⟨v, hv, rfl⟩ := List.mem_map.mp hc
    obtain ⟨h0, h1⟩ := (rt_end bs h).2 v hv
    obtain ⟨n, _, e, _, hn, _⟩ := tb_at h0 h1
    rw [e]; omega
  · rw [(List.mem_replicate.mp hc).2]; decide
theorem a2b_eval (bs : List Int) (h : ∀ c ∈ bs, 0 ≤ c ∧ c < 256) (hl : bs.length < 300) (ht : (txt (enc bs)).length < 800) : dA2bBase64 [] [bt (txt (enc bs)), .bool false] = some (bt bs, []) := by
  obtain ⟨⟨q, hq, hcase⟩, hv⟩ := rt_end bs h
  have htl := txt_len (enc bs)
  obtain ⟨i', ch', e⟩ := dec_for (D := bt (txt (enc bs))) ((List.replicate (enc bs).2 61).map .int) (enc bs).1 (0, 0, []) 0 none (.inl rfl) (Int.le_refl _) (by decide) hv (by show 0 + _ < _; omega)
  rw [show (enc bs).1.foldl dec1 (0, 0, []) = (q, 0, bs) from hq] at e
  have hit := bt_items (txt_byte bs h) (by omega)
  have hsrc : (txt (enc bs)).map AVal.int = ((enc bs).1.map tbI).map .int ++ (List.replicate (enc bs).2 61).map .int := by unfold txt; rw [List.map_append]
  have fin : ∃ p i2 ch2, forL (tgName 8) aB ((txt (enc bs)).map .int) (dSt (bt (txt (enc bs))) 0 0 0 0 none []) = some (.next, dSt (bt (txt (enc bs))) q 0 p i2 ch2 bs) ∧ ((q = 0 ∧ p = 0) ∨ (q = 2 ∧ p = 2) ∨ (q = 3 ∧ p = 1)) := by
    rw [hsrc]
    rcases hcase with ⟨rfl, e2⟩ | ⟨rfl, e2⟩ | ⟨rfl, e2⟩
    · refine ⟨0, i', ch', e.trans ?_, .inl ⟨rfl, rfl⟩⟩
      rw [e2]; rfl
    · refine ⟨2, i' + 1 + 1, some (.int 61), e.trans ?_, .inr (.inl ⟨rfl, rfl⟩)⟩
      rw [e2]
      exact for_c (st2 := dSt (bt (txt (enc bs))) 2 0 1 (i' + 1) (some (.int 61)) bs) rfl (seq_c (if_t rfl (seq_n rfl (seq_c (if_t rfl (seq_n rfl (seq_c rfl))))))) (for_c (st2 := dSt (bt (txt (enc bs))) 2 0 2 (i' + 1 + 1) (some (.int 61)) bs) rfl (seq_c (if_t rfl (seq_n rfl (seq_c (if_t rfl (seq_n rfl (seq_c rfl))))))) rfl)
    · refine ⟨1, i' + 1, some (.int 61), e.trans ?_, .inr (.inr ⟨rfl, rfl⟩)⟩
      rw [e2]
      exact for_c (st2 := dSt (bt (txt (enc bs))) 3 0 1 (i' + 1) (some (.int 61)) bs) rfl (seq_c (if_t rfl (seq_n rfl (seq_c (if_t rfl (seq_n rfl (seq_c rfl))))))) rfl
  obtain ⟨p, i2, ch2, ef, hp⟩ := fin
  have hb := bytes_of (cs := [.lst (bs.map .int)]) (a := .cell 0) (lstOf_cell rfl) (by omega) h
  rcases hp with ⟨rfl, rfl⟩ | ⟨rfl, rfl⟩ | ⟨rfl, rfl⟩
  all_goals exact run_of rfl (seq_n (as_of (pcall_of rfl rfl rfl rfl (asc_ok _))) (seq_n (as_of (pcall_of rfl rfl rfl rfl truth_ok)) (seq_n rfl (seq_n rfl (seq_n rfl (seq_n rfl (seq_n rfl (seq_n (for_of hit ef) (seq_n (if_f rfl rfl) (seq_n (if_f rfl rfl) (seq_r (ret_of (pB_1 rfl hb))))))))))))) rfl
theorem b64enc_eval (bs : List Int) (h : ∀ c ∈ bs, 0 ≤ c ∧ c < 256) (hl : bs.length < 300) : dB64encode [] [bt bs] = some (bt (txt (enc bs)), []) :=
  run_of rfl (seq_n (as_of (pcall_of rfl rfl rfl rfl (b2a_eval bs h hl (txt_byte bs h)))) (seq_n (if_f (by kernel_rfl) rfl) (seq_r rfl))) rfl
theorem b64dec_eval (bs : List Int) (h : ∀ c ∈ bs, 0 ≤ c ∧ c < 256) (hl : bs.length < 300) (ht : (txt (enc bs)).length < 800) : dB64decode [] [bt (txt (enc bs))] = some (bt bs, []) :=
  run_of rfl (seq_n (as_of (pcall_of rfl rfl rfl rfl (bfd_ok _))) (seq_n (if_f (by kernel_rfl) rfl) (seq_r (ret_of (pcall_of rfl rfl rfl rfl (a2b_eval bs h hl ht)))))) rfl
end Mine


end
section
set_option maxRecDepth 100000

namespace Mine
/-! _law_text -/
theorem pcomp_a {α : Type} {a b : List Str} {fi : ASt → Option (List AVal)} {nt : Nat} {caps : List Nat} {tg : AVal → ASt → Option ASt} {ci : ASt → Option Bool} {body : CStep} {enc : α → AVal} {R : ASt → Prop} {F : α → List AVal} {st : ASt} (xs : List α) (hfi : fi st = some (xs.map enc)) (hR : R (capSt nt caps st))
    (h : ∀ x ∈ xs, ∀ st, R st → ∃ st1, tg (enc x) st = some st1 ∧ ci st1 = some true ∧ R st1 ∧ ∀ acc : List AVal, acc.length + (F x).length ≤ 1000 → ∃ st', body st1 (.lst acc) = some (.lst (acc ++ F x), st') ∧ R st')
    (hl : (xs.flatMap F).length ≤ 1000) : pCompN a b fi nt caps (.lst []) tg ci body st = some (.lst (xs.flatMap F)) := by
  have ef : xs.filter (fun _ => true) = xs := List.filter_eq_self.mpr fun _ _ => rfl
  have := pcomp_l (a := a) (b := b) (Pr := fun _ => true) xs hfi hR (fun x hx st hs => by
    obtain ⟨st1, h1, h2, h3, h4⟩ := h x hx st hs
    exact ⟨st1, h1, h2, h3, fun _ => h4⟩) (by rw [ef]; exact hl)
  rw [ef] at this
  exact this
theorem nest_ok {fi : ASt → Option (List AVal)} {tg : AVal → ASt → Option ASt} {ci : ASt → Option Bool} {fe : ASt → Option AVal} {R : ASt → Prop} {st : ASt} (ys : List Int) (hfi : fi st = some (ys.map .int)) (hR : R st)
    (h : ∀ y ∈ ys, ∀ st, R st → ∃ st1, tg (.int y) st = some st1 ∧ ci st1 = some true ∧ R st1 ∧ fe st1 = some (.int y)) (acc : List AVal) (hl : acc.length + (ys.map AVal.int).length ≤ 1000) :
    ∃ st', nestBody fi tg ci (emitL fe) st (.lst acc) = some (.lst (acc ++ ys.map .int), st') ∧ R st' := by
  have ef : ys.filter (fun _ => true) = ys := List.filter_eq_self.mpr fun _ _ => rfl
  have := comp_list (tg := tg) (ci := ci) (body := emitL fe) (enc := AVal.int) (R := R) (Pr := fun _ => true) (F := fun y => [AVal.int y]) ys acc st hR (fun y hy st hs => by
    obtain ⟨st1, h1, h2, h3, h4⟩ := h y hy st hs
    exact ⟨st1, h1, h2, h3, fun _ acc ha => ⟨st1, emit_ok h4 acc ha, h3⟩⟩) (by rw [ef, flat1]; exact hl)
  rw [ef, flat1] at this
  unfold nestBody
  rw [hfi, Option.bind_some]
  exact this
theorem flat_len {α β : Type} (f : α → List β) (n : Nat) : ∀ xs : List α, (∀ x ∈ xs, (f x).length ≤ n) → (xs.flatMap f).length ≤ n * xs.length
  | [], _ => Nat.zero_le _
  | x :: xs, h => by
    have := flat_len f n xs fun y hy => h y (.tail _ hy)
    have := h x (.head _)
    rw [List.flatMap_cons, List.length_append, List.length_cons, Nat.mul_succ]; omega
noncomputable def numsT (T : Tb) : List Int := (isort (keys T)).flatMap fun k => [k, tg T k]
noncomputable def octs (T : Tb) : List Int := (numsT T).flatMap octL
structure Sm (T : Tb) : Prop where
  len : T.length ≤ 4
  nd : (keys T).Nodup
  k0 : ∀ p ∈ T, 0 ≤ p.1 ∧ p.1 < 1000000
  v0 : ∀ p ∈ T, 0 ≤ p.2 ∧ p.2 < 1000000
theorem keys_len (T : Tb) : (keys T).length = T.length := List.length_map ..
theorem isort_len (l : List Int) : (isort l).length = l.length := (isort_perm l).length_eq
theorem Sm.key {T : Tb} (S : Sm T) {k : Int} (h : k ∈ isort (keys T)) : dget T k = some (tg T k) ∧ 0 ≤ k ∧ k < 1000000 ∧ 0 ≤ tg T k ∧ tg T k < 1000000 := by
  obtain ⟨p, hp, rfl⟩ := List.mem_map.mp ((isort_perm _).mem_iff.mp h)
  have e := dget_mem S.nd (x := p.1) (v := p.2) hp
  have e' : tg T p.1 = p.2 := by unfold tg; rw [e]; rfl
  rw [e']
  exact ⟨e, (S.k0 p hp).1, (S.k0 p hp).2, S.v0 p hp⟩
theorem numsT_len {T : Tb} (S : Sm T) : (numsT T).length ≤ 8 := by
  have := flat_len (fun k : Int => [k, tg T k]) 2 (isort (keys T)) fun _ _ => Nat.le_refl _
  rw [isort_len, keys_len] at this
  have := S.len
  unfold numsT; omega
theorem numsT_ok {T : Tb} (S : Sm T) {n : Int} (h : n ∈ numsT T) : 0 ≤ n ∧ n < 1000000 := by
  obtain ⟨k, hk, h⟩ := List.mem_flatMap.mp h
  obtain ⟨_, h1, h2, h3, h4⟩ := S.key hk
  rcases List.mem_cons.mp h with rfl | h
  · exact ⟨h1, h2⟩
  · rw [List.mem_singleton.mp h]; exact ⟨h3, h4⟩
theorem octL_len (n : Int) : (octL n).length ≤ 16 := by
  have := hs_len 15 n
  unfold octL; rw [List.length_append, List.length_singleton]; omega
theorem octs_len {T : Tb} (S : Sm T) : (octs T).length ≤ 128 := by
  have := flat_len octL 16 (numsT T) fun n _ => octL_len n
  have := numsT_len S
  unfold octs; omega
theorem octs_ok {T : Tb} (S : Sm T) {c : Int} (h : c ∈ octs T) : 0 ≤ c ∧ c < 256 := by
  obtain ⟨n, hn, h⟩ := List.mem_flatMap.mp h
  unfold octL at h
  rcases List.mem_append.mp h with h | h
  · have := oct_byte 15 n (numsT_ok S hn).1 c h; omega
  · rw [List.mem_singleton.mp h]; omega
theorem txt_nums (T : Tb) (S : Sm T) : pCompN [Str.ofString "word", Str.ofString "part", Str.ofString "table"] [] (fun st => ((pB (fun1 sortedA) (consF (ldv 0) nilF) nilF) st).bind itemsL) 2 [0] (.lst []) (tgName 0) (fun _ => some true) (nestBody (fun st => ((pLst (consF (ldv 0) (consF (bin2 gItem (ldv 2) (ldv 0)) nilF))) st).bind itemsL) (tgName 1) (fun _ => some true) (emitL (ldv 1))) ⟨[some (.dct T), none], []⟩ =
    some (.lst ((numsT T).map .int)) := by
  have hl := S.len
  have hkl := keys_len T
  have hil := isort_len (keys T)
  have hnl := numsT_len S
  have ef : ((isort (keys T)).flatMap fun k => [AVal.int k, AVal.int (tg T k)]) = (numsT T).map .int := by unfold numsT; rw [List.map_flatMap]; rfl
  rw [← ef]
  refine pcomp_a (enc := AVal.int) (R := fun st => ∃ t u, st = ⟨[t, u, some (.dct T)], []⟩) (isort (keys T)) ?_ ⟨none, none, rfl⟩ ?_ (by rw [ef, List.length_map]; omega)
  · show (pB (fun1 sortedA) (consF (ldv 0) nilF) nilF _).bind itemsL = _
    rw [pB_1 (a := .dct T) (r := some (.lst ((isort (keys T)).map .int))) rfl (show sortedA [] (.dct T) = _ from ?_), Option.bind_some, itemsL_ok (by rw [List.length_map]; omega)]
    unfold sortedA
    rw [show lstOf ([] : List ACell) (.dct T) = none from rfl]
    show (dctOf [] (.dct T)).bind _ = _
    rw [show dctOf [] (.dct T) = some T from rfl, Option.bind_some, if_pos (by omega)]; rfl
  · rintro k hk st ⟨t, u, rfl⟩
    obtain ⟨hd, _⟩ := S.key hk
    refine ⟨⟨[some (.int k), u, some (.dct T)], []⟩, rfl, rfl, ⟨_, _, rfl⟩, fun acc ha => ?_⟩
    obtain ⟨st', h1, u', h2⟩ := nest_ok (fi := fun st => ((pLst (consF (ldv 0) (consF (bin2 gItem (ldv 2) (ldv 0)) nilF))) st).bind itemsL) (tg := tgName 1) (ci := fun _ => some true) (fe := ldv 1) (R := fun st => ∃ u, st = ⟨[some (.int k), u, some (.dct T)], []⟩) (st := ⟨[some (.int k), u, some (.dct T)], []⟩) [k, tg T k] (by
      have e : bin2 gItem (ldv 2) (ldv 0) ⟨[some (.int k), u, some (.dct T)], []⟩ = some (.int (tg T k)) := by
        refine bin_of (a := .dct T) rfl (b := .int k) rfl (ei_r rfl (ei_r rfl (ei_l ?_)))
        unfold gItemD
        rw [show dctOf [] (.dct T) = some T from rfl, Option.bind_some, int_q, Option.bind_some, hd, Option.bind_some]
      show (pLst _ _).bind itemsL = _
      unfold pLst
      rw [cons_of (a := .int k) (as := [.int (tg T k)]) rfl (cons_of e rfl)]
      rfl) ⟨_, rfl⟩ (by rintro y _ st ⟨u, rfl⟩; exact ⟨_, rfl, rfl, ⟨_, rfl⟩, rfl⟩) acc ha
    exact ⟨st', h1, _, _, h2⟩
theorem txt_octs (T : Tb) (S : Sm T) : pCompN [Str.ofString "part", Str.ofString "octet"] [] (fun st => ((ldv 1) st).bind itemsL) 2 [] (.lst []) (tgName 0) (fun _ => some true) (nestBody (fun st => ((pCall 157 dLawOctets (kV (.ref 157)) (consF (ldv 0) nilF) nilF) st).bind itemsL) (tgName 1) (fun _ => some true) (emitL (ldv 1))) ⟨[some (.dct T), some (.lst ((numsT T).map .int))], []⟩ =
    some (.lst ((octs T).map .int)) := by
  have hnl := numsT_len S
  have hol := octs_len S
  have ef : ((numsT T).flatMap fun n => (octL n).map AVal.int) = (octs T).map .int := by unfold octs; rw [List.map_flatMap]
  rw [← ef]
  refine pcomp_a (enc := AVal.int) (R := fun st => ∃ t u, st = ⟨[t, u], []⟩) (numsT T) ?_ ⟨none, none, rfl⟩ ?_ (by rw [ef, List.length_map]; omega)
  · show (ldv 1 _).bind itemsL = _
    rw [show ldv 1 ⟨[some (.dct T), some (.lst ((numsT T).map .int))], []⟩ = some (.lst ((numsT T).map .int)) from rfl, Option.bind_some, itemsL_ok (by rw [List.length_map]; omega)]
  · rintro n hn st ⟨t, u, rfl⟩
    obtain ⟨h0, h1⟩ := numsT_ok S hn
    have hn16 := octL_len n
    refine ⟨⟨[some (.int n), u], []⟩, rfl, rfl, ⟨_, _, rfl⟩, fun acc ha => ?_⟩
    obtain ⟨st', h1, u', h2⟩ := nest_ok (fi := fun st => ((pCall 157 dLawOctets (kV (.ref 157)) (consF (ldv 0) nilF) nilF) st).bind itemsL) (tg := tgName 1) (ci := fun _ => some true) (fe := ldv 1) (R := fun st => ∃ u, st = ⟨[some (.int n), u], []⟩) (st := ⟨[some (.int n), u], []⟩) (octL n) (by
      show (pCall _ _ _ _ _ _).bind itemsL = _
      rw [pcall_of (as := [.int n]) rfl rfl rfl rfl (oct_eval n h0 h1), Option.bind_some, itemsL_ok (by rw [List.length_map]; omega)]) ⟨_, rfl⟩ (by rintro y _ st ⟨u, rfl⟩; exact ⟨_, rfl, rfl, ⟨_, rfl⟩, rfl⟩) acc ha
    exact ⟨st', h1, _, _, h2⟩
noncomputable def txtT (T : Tb) : AVal := bt (txt (enc (octs T)))
theorem text_eval (T : Tb) (S : Sm T) : dLawText [] [.dct T] = some (txtT T, []) := by
  have hol := octs_len S
  exact run_of rfl (seq_n (as_of (txt_nums T S)) (seq_r (ret_of (pcall_of rfl (cons_of (pB_1 (txt_octs T S) (bytes_of rfl (by omega) fun c hc => octs_ok S hc)) rfl) rfl rfl (b64enc_eval (octs T) (fun c hc => octs_ok S hc) (by omega)))))) rfl
end Mine

end
section
set_option maxRecDepth 100000

namespace Mine
/-! _parse_varint -/
noncomputable def chkB (b : Nat) : Bool := Builtin.bitAnd (b : Int) 64 == (if b < 64 then 0 else 64)
theorem chkB_all : (List.range 128).all chkB = true := by kernel_rfl
theorem and64 {b : Int} (h0 : 0 ≤ b) (h1 : b < 128) : Builtin.bitAnd b 64 = if b < 64 then 0 else 64 := by
  have h := List.all_eq_true.mp chkB_all b.toNat (List.mem_range.mpr (by omega))
  unfold chkB at h
  have e := eq_of_beq h
  rw [Int.toNat_of_nonneg h0] at e
  rw [e]
  by_cases hb : b < 64
  · rw [if_pos hb, if_pos (by omega)]
  · rw [if_neg hb, if_neg (by omega)]
theorem aug_of {i : Nat} {g : Op2} {f : ASt → Option AVal} {st : ASt} {a b c : AVal} (h1 : ldv i st = some a) (h2 : f st = some b) (h : g st.cells a b = some c) : sAug i g f st = some (.next, stv i c st) := by
  unfold sAug; rw [h1, Option.bind_some, h2, Option.bind_some, h, Option.bind_some]
theorem next_of {i j k x : Nat} {f : ASt → Option AVal} {st : ASt} {B : List Nat} (h1 : f st = some (.cell j)) (h2 : st.cells[j]? = some (.itB B k)) (h3 : B[k]? = some x) : sNext i f st = some (.next, stv i (.int x) { st with cells := st.cells.set j (.itB B (k + 1)) }) := by
  unfold sNext; rw [h1, Option.bind_some, cell_q, Option.bind_some, h2, Option.bind_some]
  dsimp only
  rw [h3, Option.bind_some]
noncomputable abbrev fo64 (v : Int) (h : List Int) : Int := h.foldl (fun v c => v * 64 + c % 64) v
theorem fo_mono : ∀ (h : List Int) (v : Int), 0 ≤ v → v ≤ fo64 v h
  | [], _, _ => Int.le_refl _
  | c :: h, v, h0 => by
    have := fo_mono h (v * 64 + c % 64) (by omega)
    show v ≤ fo64 (v * 64 + c % 64) h
    omega
theorem fo_hs : ∀ (f : Nat) (n : Int), 0 ≤ n → n < 64 ^ (f + 1) → fo64 0 (hs f n) = n / 64
  | 0, n, h0, h1 => by
    show (0 : Int) = n / 64
    have : n < 64 := h1
    omega
  | f + 1, n, h0, h1 => by
    rw [hs]
    split
    · rw [fo64, List.foldl_append]
      show fo64 0 (hs f (n / 64)) * 64 + (n / 64 % 64 + 64) % 64 = n / 64
      rw [fo_hs f (n / 64) (by omega) (by rw [Int.pow_succ] at h1; omega)]
      omega
    · show (0 : Int) = n / 64
      omega
theorem fo_oct {n : Int} (h0 : 0 ≤ n) (h1 : n < 1000000) : fo64 0 (octL n) = n := by
  unfold octL
  rw [fo64, List.foldl_append]
  show fo64 0 (hs 15 n) * 64 + n % 64 % 64 = n
  rw [fo_hs 15 n h0 (by rw [show (64 : Int) ^ (15 + 1) = 79228162514264337593543950336 from by decide]; omega)]
  omega
noncomputable def Hi : Int → List Int → Prop
  | b, [] => 0 ≤ b ∧ b < 64
  | b, c :: h => 64 ≤ b ∧ b < 128 ∧ Hi c h
theorem Hi_app {x : Int} (hx : 0 ≤ x ∧ x < 64) : ∀ (l : List Int) (c : Int), 64 ≤ c ∧ c < 128 → (∀ d ∈ l, 64 ≤ d ∧ d < 128) → Hi c (l ++ [x])
  | [], _, hc, _ => ⟨hc.1, hc.2, hx⟩
  | d :: l, _, hc, h => ⟨hc.1, hc.2, Hi_app hx l d (h d (.head _)) fun e he => h e (.tail _ he)⟩
theorem Hi_oct {n : Int} (h0 : 0 ≤ n) : ∃ b h, octL n = b :: h ∧ Hi b h := by
  have hb := oct_byte 15 n h0
  unfold octL
  cases e : hs 15 n with
  | nil => exact ⟨n % 64, [], rfl, by show 0 ≤ n % 64; omega, by omega⟩
  | cons c l =>
    rw [e] at hb
    exact ⟨c, l ++ [n % 64], rfl, Hi_app (by omega) l c (hb c (.head _)) fun d hd => hb d (.tail _ hd)⟩
theorem Hi_lo {b : Int} : ∀ {h : List Int}, Hi b h → 0 ≤ b ∧ b < 128
  | [], h => ⟨h.1, by have := h.2; omega⟩
  | _ :: _, h => ⟨by have := h.1; omega, h.2.1⟩
noncomputable abbrev pvB : AS := sSeq (sAug 2 gShl (kI 6)) (sSeq (sNext 1 (ldv 0)) (sSeq (sAug 2 gOr (bin2 gAnd (ldv 1) (kI 63))) sNil))
noncomputable def pSt (b v : Int) (B : List Nat) (k : Nat) (es : Tb) : ASt := ⟨[some (.cell 0), some (.int b), some (.int v)], [.itB B k, .dct es]⟩
theorem pv_cond {b v : Int} {B : List Nat} {k : Nat} {es : Tb} (h0 : 0 ≤ b) (h1 : b < 128) : tVal (bin2 gAnd (ldv 1) (kI 64)) (pSt b v B k es) = some (decide (64 ≤ b)) := by
  unfold tVal
  rw [bin_of (a := .int b) (b := .int 64) (r := some (.int (Builtin.bitAnd b 64))) rfl rfl rfl, Option.bind_some, and64 h0 h1]
  by_cases h : b < 64
  · rw [if_pos h, decide_eq_false (by omega)]; rfl
  · rw [if_neg h, decide_eq_true (by omega)]; rfl
theorem dropE {B : List Nat} {k x : Nat} {r : List Nat} (h : B.drop k = x :: r) : B[k]? = some x ∧ B.drop (k + 1) = r := by
  constructor
  · have := List.getElem?_drop (xs := B) (i := k) (j := 0)
    rw [h, Nat.add_zero] at this
    exact this.symm
  · rw [← List.drop_drop, h]; rfl
theorem and63 (b : Int) : Builtin.bitAnd b 63 = b % 64 := bitAnd_m6 b
theorem pv_while {B : List Nat} {es : Tb} : ∀ (h : List Int) (m : Nat) (b v : Int) (k : Nat) (rest : List Nat), Hi b h → 0 ≤ v → fo64 v h < 1000000 → B.drop k = h.map Int.toNat ++ rest →
    ∃ b', sWhile (tVal (bin2 gAnd (ldv 1) (kI 64))) pvB (h.length + m + 1) (pSt b v B k es) = some (.next, pSt b' (fo64 v h) B (k + h.length) es)
  | [], m, b, v, k, rest, hh, _, _, _ => ⟨b, by
    rw [wh_f ((pv_cond (Hi_lo hh).1 (Hi_lo hh).2).trans (by rw [decide_eq_false (by have := hh.2; omega)]))]
    rfl⟩
  | c :: h, m, b, v, k, rest, hh, h0, hv, hB => by
    obtain ⟨hc0, hc1⟩ := Hi_lo hh.2.2
    have hvf : fo64 (v * 64 + c % 64) h < 1000000 := hv
    have := fo_mono h (v * 64 + c % 64) (by omega)
    obtain ⟨e1, e2⟩ := dropE (x := c.toNat) (r := h.map Int.toNat ++ rest) hB
    obtain ⟨b', e⟩ := pv_while h m c (v * 64 + c % 64) (k + 1) rest hh.2.2 (by omega) hvf e2
    refine ⟨b', ?_⟩
    rw [show (c :: h).length + m + 1 = (h.length + m + 1) + 1 by rw [List.length_cons]; omega]
    have hn := next_of (i := 1) (j := 0) (f := ldv 0) (st := pSt b (v * 64) B k es) rfl rfl e1
    rw [Int.toNat_of_nonneg hc0] at hn
    refine wh_n ((pv_cond (Hi_lo hh).1 (Hi_lo hh).2).trans (by rw [decide_eq_true hh.1])) (st1 := pSt c (v * 64 + c % 64) B (k + 1) es) (seq_n (aug_of (a := .int v) (b := .int 6) rfl rfl (shl_ok (k := 6) h0 (by omega) (by decide))) (seq_n hn (seq_n (aug_of (a := .int (v * 64)) (b := .int (c % 64)) rfl (by rw [← and63]; rfl) (show some (AVal.int (Builtin.bitOr _ _)) = _ by rw [show v * 64 = v * ((2 ^ 6 : Nat) : Int) from rfl, or_shl h0 (b := c % 64) (by omega) (by show c % 64 < 64; omega)])) rfl))) ?_
    rw [e, List.length_cons, show k + 1 + h.length = k + (h.length + 1) by omega]; rfl
theorem pv_eval (es : Tb) (B : List Nat) (k : Nat) (n : Int) (rest : List Nat) (h0 : 0 ≤ n) (h1 : n < 1000000) (hB : B.drop k = (octL n).map Int.toNat ++ rest) : dParseVarint [.itB B k, .dct es] [.cell 0] = some (.int n, [.itB B (k + (octL n).length), .dct es]) := by
  have hf := fo_oct h0 h1
  have hl := octL_len n
  obtain ⟨b, h, eo, hh⟩ := Hi_oct h0
  rw [eo] at hB hf hl
  rw [List.length_cons] at hl
  rw [eo, List.length_cons]
  obtain ⟨hb0, hb1⟩ := Hi_lo hh
  obtain ⟨e1, e2⟩ := dropE (x := b.toNat) (r := h.map Int.toNat ++ rest) hB
  have hf' : fo64 (b % 64) h = n := by
    have : fo64 (0 * 64 + b % 64) h = n := hf
    rw [Int.zero_mul, Int.zero_add] at this; exact this
  obtain ⟨b', e⟩ := pv_while (es := es) h (15 - h.length) b (b % 64) (k + 1) rest hh (by omega) (by omega) e2
  rw [hf', show h.length + (15 - h.length) + 1 = 16 by omega, show k + 1 + h.length = k + (h.length + 1) by omega] at e
  have hn := next_of (i := 1) (j := 0) (f := ldv 0) (st := ⟨[some (.cell 0), none, none], [.itB B k, .dct es]⟩) rfl rfl e1
  rw [Int.toNat_of_nonneg hb0] at hn
  exact run_of rfl (seq_n hn (seq_n (as_of (a := .int (b % 64)) (by rw [← and63]; rfl)) (seq_n e (seq_r rfl)))) rfl
/-! _law_read -/
noncomputable def rdT (T : Tb) : Tb := (isort (keys T)).map fun k => (k, tg T k)
noncomputable abbrev rdB : AS := sSeq (sACall 3 150 dParseVarint (kV (.ref 150)) (consF (ldv 1) nilF)) (sSeq (sASet 150 dParseVarint (kV (.ref 150)) (consF (ldv 1) nilF) (ldv 2) (ldv 3)) sNil)
noncomputable def rSt (D : AVal) (t : Option AVal) (B : List Nat) (k : Nat) (es : Tb) : ASt := ⟨[some D, some (.cell 0), some (.cell 1), t], [.itB B k, .dct es]⟩
theorem acall_of {i fa : Nat} {F : DefF} {ff : ASt → Option AVal} {f : ASt → Option (List AVal)} {st : ASt} {as : List AVal} {r : AVal} {cs' : List ACell} (h0 : ff st = some (.cst (.ref fa))) (h1 : f st = some as) (hF : F st.cells as = some (r, cs')) : sACall i fa F ff f st = some (.next, stv i r { st with cells := cs' }) := by
  unfold sACall; rw [h0, h1]; simp only [if_true, hF]; rfl
theorem aset_of {fa j : Nat} {F : DefF} {ff fo fi : ASt → Option AVal} {f : ASt → Option (List AVal)} {st : ASt} {as : List AVal} {r : AVal} {cs' cs2 : List ACell} {k : Int} (h0 : ff st = some (.cst (.ref fa))) (h1 : f st = some as) (hF : F st.cells as = some (r, cs'))
    (h2 : fo { st with cells := cs' } = some (.cell j)) (h3 : fi { st with cells := cs' } = some (.int k)) (h4 : setCell cs' j k r = some cs2) : sASet fa F ff f fo fi st = some (.next, { st with cells := cs2 }) := by
  unfold sASet; rw [h0, h1]; simp only [if_true, hF, Option.bind_some, h2, h3, cell_q, int_q, h4]
theorem set_dct {B : List Nat} {k : Nat} {es : Tb} {x v : Int} (h : es.length < 1000) : setCell [.itB B k, .dct es] 1 x (.int v) = some [.itB B k, .dct (dput es x v)] := by
  show (if es.length < 1000 then some _ else none) = _
  rw [if_pos h]; rfl
theorem rd_loop {T : Tb} {D : AVal} {B : List Nat} (S : Sm T) : ∀ (ks : List Int) (m : Nat) (es : Tb) (t : Option AVal) (k : Nat), (∀ x ∈ ks, x ∈ isort (keys T)) → es.length + ks.length < 1000 → B.drop k = (ks.flatMap fun x => octL x ++ octL (tg T x)).map Int.toNat →
    ∃ st', sRead (ldv 1) rdB (ldv 2) (ks.length + m + 1) (rSt D t B k es) = some (.ret (.cell 1), st') ∧ st'.cells = [.dead, .dct (ks.foldl (fun es x => dput es x (tg T x)) es)]
  | [], m, es, t, k, _, _, hB => by
    have hlen : B.length ≤ k := List.drop_eq_nil_iff.mp hB
    refine ⟨⟨[some D, some (.cell 0), some (.cell 1), t], [.dead, .dct es]⟩, ?_, rfl⟩
    unfold sRead
    show (if B.length ≤ k then _ else _) = _
    rw [if_pos hlen]; rfl
  | x :: ks, m, es, t, k, hk, hl, hB => by
    rw [List.length_cons] at hl
    obtain ⟨_, x0, x1, v0, v1⟩ := S.key (hk x (.head _))
    rw [List.flatMap_cons, List.append_assoc, List.map_append, List.map_append] at hB
    have p1 := pv_eval es B k x _ x0 x1 hB
    have hB2 : B.drop (k + (octL x).length) = (octL (tg T x)).map Int.toNat ++ (ks.flatMap fun x => octL x ++ octL (tg T x)).map Int.toNat := by
      rw [← List.drop_drop, hB]; exact List.drop_left' (by rw [List.length_map])
    have p2 := pv_eval es B (k + (octL x).length) (tg T x) _ v0 v1 hB2
    have hB3 : B.drop (k + (octL x).length + (octL (tg T x)).length) = (ks.flatMap fun x => octL x ++ octL (tg T x)).map Int.toNat := by
      rw [← List.drop_drop, hB2]; exact List.drop_left' (by rw [List.length_map])
    have hkl : ¬ B.length ≤ k := fun h => by
      rw [List.drop_eq_nil_iff.mpr h] at hB
      obtain ⟨b, h, e, _⟩ := Hi_oct x0
      rw [e] at hB; cases hB
    obtain ⟨st', h1, h2⟩ := rd_loop (D := D) S ks m (dput es x (tg T x)) (some (.int x)) _ (fun y hy => hk y (.tail _ hy)) (by have := dput_len es x (tg T x); omega) hB3
    refine ⟨st', ?_, h2⟩
    have hb : rdB (rSt D t B k es) = some (.next, rSt D (some (.int x)) B (k + (octL x).length + (octL (tg T x)).length) (dput es x (tg T x))) :=
      seq_n (st1 := rSt D (some (.int x)) B (k + (octL x).length) es) (acall_of (as := [.cell 0]) rfl rfl p1) (seq_n (aset_of (as := [.cell 0]) (j := 1) rfl rfl p2 rfl rfl (set_dct (by omega))) rfl)
    rw [show (x :: ks).length + m + 1 = (ks.length + m + 1) + 1 by rw [List.length_cons]; omega]
    unfold sRead
    show (if B.length ≤ k then _ else _) = _
    rw [if_neg hkl, hb]
    exact h1
theorem enc_len (bs : List Int) : (enc bs).1.length + (enc bs).2 ≤ 2 * bs.length + 3 := by
  have h : (bs.foldl enc1 (0, 0, [])).2.2.length ≤ 0 + 2 * bs.length := (enc_inv bs (0, 0, []) (.inl rfl) (Int.le_refl _) (by decide)).2.2.2
  unfold enc
  generalize bs.foldl enc1 (0, 0, []) = s at *
  unfold endV
  split
  · dsimp only; rw [List.length_append, List.length_singleton]; omega
  · split
    · dsimp only; rw [List.length_append, List.length_singleton]; omega
    · dsimp only; omega
theorem read_eval (T : Tb) (S : Sm T) : dLawRead [] [txtT T] = some (.dct (rdT T), []) := by
  have hol := octs_len S
  have hl := S.len
  have hkl := keys_len T
  have hil := isort_len (keys T)
  have ho : ∀ c ∈ octs T, 0 ≤ c ∧ c < 256 := fun c hc => octs_ok S hc
  have hei := enc_len (octs T)
  have ht : (txt (enc (octs T))).length < 800 := by rw [txt_len]; omega
  have hd : pCall 143 dB64decode (kV (.ref 143)) (consF (ldv 0) nilF) nilF ⟨[some (txtT T), none, none, none], []⟩ = some (bt (octs T)) := pcall_of (as := [txtT T]) rfl rfl rfl rfl (b64dec_eval (octs T) ho (by omega) ht)
  have hi : nIter (pCall 143 dB64decode (kV (.ref 143)) (consF (ldv 0) nilF) nilF) ⟨[some (txtT T), none, none, none], []⟩ = some (.itB ((octs T).map Int.toNat) 0) := by
    unfold nIter
    rw [hd, Option.bind_some]
    show (if ((octs T).map Int.toNat).length < 1000 then some _ else none) = _
    rw [if_pos (by rw [List.length_map]; omega)]
  obtain ⟨st', h1, h2⟩ := rd_loop (D := txtT T) (B := (octs T).map Int.toNat) S (isort (keys T)) (63 - (isort (keys T)).length) [] none 0 (fun _ h => h) (by show 0 + _ < _; omega) (by
    rw [List.drop_zero]; unfold octs numsT; rw [List.flatMap_assoc]; simp only [List.flatMap_cons, List.flatMap_nil, List.append_nil])
  rw [show (isort (keys T)).length + (63 - (isort (keys T)).length) + 1 = 64 by omega] at h1
  have hff : (isort (keys T)).foldl (fun es x => dput es x (tg T x)) [] = rdT T := by
    have := fold_fresh (fun x : Int => x) (fun x => tg T x) (isort (keys T)) [] (by rw [List.map_id']; exact (isort_perm _).nodup_iff.mpr S.nd) (fun _ _ h => (nomatch h))
    exact this
  rw [hff] at h2
  refine run_of rfl (seq_n (st1 := ⟨[some (txtT T), some (.cell 0), none, none], [.itB ((octs T).map Int.toNat) 0]⟩) ?_ (seq_n (st1 := rSt (txtT T) none ((octs T).map Int.toNat) 0 []) rfl (seq_r h1))) ?_
  · show (nIter (pCall 143 dB64decode (kV (.ref 143)) (consF (ldv 0) nilF) nilF) ⟨[some (txtT T), none, none, none], []⟩).bind _ = _
    rw [hi]; rfl
  · rw [h2]; rfl
theorem rdT_perm {T : Tb} (hn : (keys T).Nodup) : (rdT T).Perm T := by
  have h1 : (rdT T).Perm ((keys T).map fun k => (k, tg T k)) := (isort_perm (keys T)).map _
  have h2 : ((keys T).map fun k => (k, tg T k)) = T := by
    unfold keys
    rw [List.map_map]
    refine (List.map_congr_left fun p hp => ?_).trans (List.map_id' T)
    show (p.1, tg T p.1) = p
    unfold tg; rw [dget_mem hn (x := p.1) (v := p.2) hp]; rfl
  rw [h2] at h1; exact h1
end Mine

end
section
set_option maxRecDepth 100000

namespace Mine
/-! _law_stream -/
theorem under_pairs : ∀ H : List P, underAllB 0 (H.map eP) = true
  | [] => rfl
  | p :: H => by
    show (AVal.underB 0 (eP p) && underAllB 0 (H.map eP)) = true
    rw [under_pairs H]; rfl
theorem deq_ok {cs : List ACell} {S T : Tb} (hn : (keys T).Nodup) (h : S.Perm T) : gEq cs (.dct S) (.dct T) = some (.bool true) := by
  have hg : ∀ p ∈ S, dget T p.1 = some p.2 := fun p hp => dget_mem hn (h.mem_iff.mp hp)
  have h1 : S.all (fun p => (dget T p.1).isSome) = true := List.all_eq_true.mpr fun p hp => by rw [hg p hp]; rfl
  have h2 : dEq S T = true := by
    unfold dEq
    rw [Bool.and_eq_true]
    exact ⟨beq_iff_eq.mpr h.length_eq, List.all_eq_true.mpr fun p hp => by rw [hg p hp]; exact beq_iff_eq.mpr rfl⟩
  refine ei_r rfl (ei_r rfl ?_)
  unfold gEqD
  rw [show dctOf cs (.dct S) = some S from rfl, show dctOf cs (.dct T) = some T from rfl, Option.bind_some, Option.bind_some, if_pos fun _ => h1, h2]
theorem abv_len {w : Nat} {H : List P} {T : Tb} (I : Inv w H T) (hw3 : w ≤ 3) : (abv w H).length ≤ w := by
  have hl := I.len
  unfold abv
  rw [List.length_map]
  by_cases h : w < H.length
  · obtain ⟨⟨q, hq, hq1⟩, _⟩ := least_full I.hp h (by omega)
    have : (H.filter fun p => decide (least w H < p.1)).length < H.length := List.length_filter_lt_length_iff_exists.mpr ⟨q, hq, by rw [decide_eq_false (by omega)]; decide⟩
    omega
  · have := List.length_filter_le (fun p : P => decide (least w H < p.1)) H
    omega
theorem Inv.nil (w : Nat) : Inv w [] [] := ⟨trivial, Nat.zero_le _, .nil, fun _ h => (nomatch h), .refl _⟩
theorem plain_len {w : Nat} {H : List P} {T : Tb} (I : Inv w H T) (hw3 : w ≤ 3) : T.length ≤ w := I.tab.length_eq ▸ abv_len I hw3
theorem abv_nd {w : Nat} {H : List P} (hn : (H.map (·.2)).Nodup) : (keys (abv w H)).Nodup := by
  unfold keys abv
  rw [List.map_map]
  exact List.Nodup.sublist (List.Sublist.map _ (List.filter_sublist)) hn
noncomputable def cnt (y : Int) : List Int → Int
  | [] => 0
  | x :: ws => (if y = x then 1 else 0) + cnt y ws
theorem cnt_nn (y : Int) : ∀ ws : List Int, 0 ≤ cnt y ws ∧ cnt y ws ≤ ws.length
  | [] => ⟨Int.le_refl _, Int.le_refl _⟩
  | x :: ws => by
    have := cnt_nn y ws
    rw [cnt, List.length_cons]
    split <;> omega
theorem cnt_mem {y : Int} : ∀ {ws : List Int}, 1 ≤ cnt y ws → y ∈ ws
  | [], h => absurd h (by show ¬ (1 : Int) ≤ 0; decide)
  | x :: ws, h => by
    rw [cnt] at h
    split at h
    · rename_i e; rw [e]; exact .head _
    · exact .tail _ (cnt_mem (by omega))
noncomputable abbrev aE : ASt → Option AVal := pCallV 179 dLawAbove (kV (.ref 179)) (consF (ldv 0) (consF (ldv 2) nilF)) nilF
noncomputable abbrev lB : AS := sSeq (sCall 174 dLawCome (kV (.ref 174)) (consF (ldv 0) (consF (ldv 2) (consF (ldv 5) nilF)))) (sSeq (sAssign 3 (pCall 184 dLawPlain (kV (.ref 184)) (consF (ldv 0) (consF (ldv 3) (consF (ldv 5) nilF))) nilF)) (sSeq (sAssign 4 (pAnd (ldv 4) (bin2 gEq aE (ldv 3)))) sNil))
noncomputable def lSt (w : Nat) (ws : List AVal) (H : List P) (T : Tb) (x : Option AVal) : ASt := ⟨[some (.int w), some (.lst ws), some (.cell 0), some (.dct T), some (.bool true), x], ctx none H⟩
theorem aE_ok {w : Nat} {ws : List AVal} {H : List P} {T : Tb} {x : Option AVal} (hl : H.length ≤ 4) (hn : (H.map (·.2)).Nodup) : aE (lSt w ws H T x) = some (.dct (abv w H)) := by
  show pCallV 179 dLawAbove (kV (.ref 179)) (consF (ldv 0) (consF (ldv 2) nilF)) nilF (lSt w ws H T x) = _
  unfold pCallV
  rw [show kV (.ref 179) (lSt w ws H T x) = some (.cst (.ref 179)) from rfl, Option.bind_some, show consF (ldv 0) (consF (ldv 2) nilF) (lSt w ws H T x) = some [.int w, .cell 0] from rfl, Option.bind_some, show nilF (lSt w ws H T x) = some [] from rfl, Option.bind_some]
  have ht : thawAll (lSt w ws H T x).cells ([.int w, .cell 0] ++ []) = some [.int w, .lst (H.map eP)] := by
    show thawAll (ctx none H) [.int w, .cell 0] = _
    have h1 : thawV (ctx none H) (.cell 0) = some (.lst (H.map eP)) := by
      show (if underAllB 0 (H.map eP) = true then _ else none) = _
      rw [if_pos (under_pairs H)]
    unfold thawAll
    rw [show thawV (ctx none H) (.int w) = some (.int w) from rfl, Option.bind_some]
    unfold thawAll
    rw [h1]; rfl
  rw [ht, Option.bind_some]
  dsimp only
  rw [if_pos ⟨rfl, rfl⟩, above_eval w H hl hn, Option.bind_some]; rfl
theorem stream_body {w : Nat} {ws : List AVal} {H : List P} {T : Tb} (x : Int) (hw : 1 ≤ w) (hw3 : w ≤ 3) (I : Inv w H T) (hn : (keys T).Nodup) :
    lB (lSt w ws H T (some (.int x))) = some (.next, lSt w ws (comeL w H x) (plainL w T x) (some (.int x))) := by
  have I' := inv_step x hw hw3 I
  have hl' := I'.len
  have hn' : (keys (plainL w T x)).Nodup := (keys_perm I'.tab).nodup_iff.mpr (abv_nd I'.nd)
  have hl := plain_len I hw3
  refine seq_n (st1 := lSt w ws (comeL w H x) T (some (.int x))) (call_n (as := [.int w, .cell 0, .int x]) rfl rfl (come_eval w H x hw hw3 I.len)) (seq_n (st1 := lSt w ws (comeL w H x) (plainL w T x) (some (.int x))) (as_of (pcall_of (as := [.int w, .dct T, .int x]) rfl rfl rfl rfl (plain_eval w T x (by omega) hn))) (seq_n (as_of (a := .bool true) ?_) rfl))
  show bin2 gEq aE (ldv 3) (lSt w ws (comeL w H x) (plainL w T x) (some (.int x))) = _
  exact bin_of (aE_ok (by omega) I'.nd) (b := .dct (plainL w T x)) rfl (deq_ok hn' I'.tab.symm)
theorem stream_loop {w : Nat} {ws0 : List AVal} (hw : 1 ≤ w) (hw3 : w ≤ 3) : ∀ (ws : List Int) (H : List P) (T : Tb) (o : Option AVal) (f : Int → Int) (N e : Int), Inv w H T → Bd w T f N e →
    ∃ H' T' o' e', forL (tgName 5) lB (ws.map .int) (lSt w ws0 H T o) = some (.next, lSt w ws0 H' T' o') ∧ Inv w H' T' ∧ Bd w T' (fun y => f y + cnt y ws) (N + ws.length) e'
  | [], H, T, o, f, N, e, I, B => ⟨H, T, o, e, rfl, I, by
    have e1 : (fun y => f y + cnt y []) = f := funext fun y => Int.add_zero _
    rw [e1, show N + (([] : List Int).length : Int) = N from Int.add_zero _]; exact B⟩
  | x :: ws, H, T, o, f, N, e, I, B => by
    have I' := inv_step x hw hw3 I
    obtain ⟨e1, B'⟩ := B.step x fun c hc => by rw [List.mem_singleton.mp hc]; exact plain_len I' hw3
    obtain ⟨H', T', o', e', h1, h2, h3⟩ := stream_loop (ws0 := ws0) hw hw3 ws _ _ (some (.int x)) _ _ _ I' B'
    refine ⟨H', T', o', e', for_n (st1 := lSt w ws0 H T (some (.int x))) rfl (stream_body x hw hw3 I B.nd) h1, h2, ?_⟩
    have e2 : (fun y => f y + cnt y (x :: ws)) = fun y => f y + (if y = x then 1 else 0) + cnt y ws := funext fun y => by rw [cnt, Int.add_assoc]
    rw [e2, show N + ((x :: ws).length : Int) = N + 1 + (ws.length : Int) by rw [List.length_cons]; omega]
    exact h3
structure Wf (f : Int → Int) : Prop where
  lt : ∀ x, f x < 1000000
  ky : ∀ x, 1 ≤ f x → 0 ≤ x ∧ x < 1000000
theorem Bd.sm {w : Nat} {T : Tb} {f : Int → Int} {N e : Int} (B : Bd w T f N e) (hw : w ≤ 3) (W : Wf f) : Sm T := by
  have hv : ∀ p ∈ T, 1 ≤ p.2 ∧ p.2 ≤ f p.1 := fun p hp => ⟨B.pos p hp, by have := B.lo p.1; rw [tg_mem B.nd (x := p.1) (v := p.2) hp] at this; exact this⟩
  refine ⟨by have := B.len; omega, B.nd, fun p hp => W.ky p.1 (by have := hv p hp; omega), fun p hp => ?_⟩
  have := hv p hp
  have := W.lt p.1
  omega
theorem stream_eval (w : Nat) (ws : List Int) (hw : 1 ≤ w) (hw3 : w ≤ 3) (hl : ws.length < 1000) (hx : ∀ x ∈ ws, 0 ≤ x ∧ x < 1000000) :
    ∃ T e, dLawStream [] [.int w, .lst (ws.map .int)] = some (.tup [txtT T, .bool true], []) ∧ Bd w T (fun y => cnt y ws) ws.length e := by
  obtain ⟨H, T, o, e, h1, I, B⟩ := stream_loop (ws0 := ws.map .int) hw hw3 ws [] [] none _ _ _ (Inv.nil w) (Bd.nil w)
  have e1 : (fun y => 0 + cnt y ws) = fun y => cnt y ws := funext fun y => Int.zero_add _
  rw [e1, Int.zero_add] at B
  have B' := B.perm I.tab
  have hIl := I.len
  have S := B'.sm hw3 ⟨fun y => by have := cnt_nn y ws; omega, fun y hy => hx y (cnt_mem hy)⟩
  refine ⟨abv w H, e, ?_, B'⟩
  refine run_of rfl (seq_n (st1 := lSt w (ws.map .int) [] [] none) rfl (seq_n (for_of (xs := ws.map .int) ?_ h1) (seq_r (ret_of (tup_of (cons_of (pcall_of (as := [.dct (abv w H)]) rfl (cons_of (aE_ok (by omega) I.nd) rfl) rfl rfl (text_eval _ S)) (cons_of (a := .bool true) rfl rfl)) (show 2 < 1000 by decide)))))) rfl
  show (some (AVal.lst (ws.map .int))).bind itemsL = _
  rw [Option.bind_some, itemsL_ok (by rw [List.length_map]; exact hl)]
end Mine

end
section
set_option maxRecDepth 100000

namespace Mine
/-! the sort of few pairs: the least comes last -/
noncomputable def tbM (M : List (List Bool)) (i j : Nat) : Option Bool := (M[i]?).bind fun r => r[j]?
noncomputable def trM (M : List (List Bool)) (n : Nat) : Bool := (List.range n).all fun i => (List.range n).all fun j => (List.range n).all fun k => !(tbM M i j == some true && tbM M j k == some true) || tbM M i k == some true
noncomputable def chkM (n : Nat) (M : List (List Bool)) : Bool := match runT (tbM M) (kas_sort n) with
  | some p => (match p.toList with
    | i :: l => l.length + 1 == n && (i :: l).all (fun x => decide (x < n)) && (!trM M n || (List.range n).all fun j => tbM M j i == some false)
    | [] => false)
  | none => false
noncomputable def mat2 (a : Bool) : List (List Bool) := [[false, a], [!a, false]]
noncomputable def mat3 (a b c : Bool) : List (List Bool) := [[false, a, b], [!a, false, c], [!b, !c, false]]
noncomputable def mat4 (a b c d e f : Bool) : List (List Bool) := [[false, a, b, c], [!a, false, d, e], [!b, !d, false, f], [!c, !e, !f, false]]
theorem chk2 : ∀ a : Bool, chkM 2 (mat2 a) = true := by decide +kernel
theorem chk3 : ∀ a b c : Bool, chkM 3 (mat3 a b c) = true := by decide +kernel
theorem chk4 : ∀ a b c d e f : Bool, chkM 4 (mat4 a b c d e f) = true := by decide +kernel
theorem ask_tb (ps : List P) : askP ps = tbM (ps.map fun p => ps.map fun q => lt p q) := by
  funext i j
  unfold askP tbM
  rw [List.getElem?_map]
  cases ps[i]? with
  | none => rfl
  | some p =>
    rw [Option.bind_some, Option.map_some, Option.bind_some, List.getElem?_map]
    cases ps[j]? <;> rfl
theorem lt_irr (p : P) : lt p p = false := by rw [← Bool.not_eq_true, lt_iff]; omega
theorem lt_flip {p q : P} (h : p.2 ≠ q.2) : lt q p = !lt p q := by
  cases e : lt p q
  · have : ¬ lt p q = true := by rw [e]; decide
    rw [lt_iff] at this
    show _ = true
    rw [lt_iff]; omega
  · have := lt_iff.mp e
    show _ = false
    rw [← Bool.not_eq_true, lt_iff]; omega
theorem chk_of : ∀ ps : List P, 2 ≤ ps.length → ps.length ≤ 4 → (ps.map (·.2)).Nodup → chkM ps.length (ps.map fun p => ps.map fun q => lt p q) = true
  | [a, b], _, _, hn => by
    have hn : [a.2, b.2].Nodup := hn
    simp only [List.nodup_cons, List.mem_cons, List.not_mem_nil, or_false, not_or] at hn
    have e : ([a, b].map fun p => [a, b].map fun q => lt p q) = mat2 (lt a b) := by
      show [[lt a a, lt a b], [lt b a, lt b b]] = _
      rw [lt_irr, lt_irr, lt_flip (p := a) (q := b) hn.1]; rfl
    rw [e]; exact chk2 _
  | [a, b, c], _, _, hn => by
    have hn : [a.2, b.2, c.2].Nodup := hn
    simp only [List.nodup_cons, List.mem_cons, List.not_mem_nil, or_false, not_or] at hn
    have e : ([a, b, c].map fun p => [a, b, c].map fun q => lt p q) = mat3 (lt a b) (lt a c) (lt b c) := by
      show [[lt a a, lt a b, lt a c], [lt b a, lt b b, lt b c], [lt c a, lt c b, lt c c]] = _
      rw [lt_irr, lt_irr, lt_irr, lt_flip (p := a) (q := b) hn.1.1, lt_flip (p := a) (q := c) hn.1.2, lt_flip (p := b) (q := c) hn.2.1]; rfl
    rw [e]; exact chk3 _ _ _
  | [a, b, c, d], _, _, hn => by
    have hn : [a.2, b.2, c.2, d.2].Nodup := hn
    simp only [List.nodup_cons, List.mem_cons, List.not_mem_nil, or_false, not_or] at hn
    have e : ([a, b, c, d].map fun p => [a, b, c, d].map fun q => lt p q) = mat4 (lt a b) (lt a c) (lt a d) (lt b c) (lt b d) (lt c d) := by
      show [[lt a a, lt a b, lt a c, lt a d], [lt b a, lt b b, lt b c, lt b d], [lt c a, lt c b, lt c c, lt c d], [lt d a, lt d b, lt d c, lt d d]] = _
      rw [lt_irr, lt_irr, lt_irr, lt_irr, lt_flip (p := a) (q := b) hn.1.1, lt_flip (p := a) (q := c) hn.1.2.1, lt_flip (p := a) (q := d) hn.1.2.2, lt_flip (p := b) (q := c) hn.2.1.1, lt_flip (p := b) (q := d) hn.2.1.2, lt_flip (p := c) (q := d) hn.2.2.1]; rfl
    rw [e]; exact chk4 _ _ _ _ _ _
  | [], h, _, _ => absurd h (by simp)
  | [_], h, _, _ => absurd h (by simp)
  | _ :: _ :: _ :: _ :: _ :: _, _, h, _ => absurd h (by simp)
theorem tb_map {ps : List P} {i j : Nat} {b : Bool} (h : tbM (ps.map fun p => ps.map fun q => lt p q) i j = some b) : ∃ p q, ps[i]? = some p ∧ ps[j]? = some q ∧ lt p q = b := by
  rw [← ask_tb] at h
  unfold askP at h
  cases h1 : ps[i]? with
  | none => rw [h1] at h; cases h
  | some p =>
    rw [h1, Option.bind_some] at h
    cases h2 : ps[j]? with
    | none => rw [h2] at h; cases h
    | some q => rw [h2, Option.bind_some] at h; cases h; exact ⟨p, q, rfl, rfl, rfl⟩
theorem tb_get {ps : List P} {i j : Nat} {p q : P} (h1 : ps[i]? = some p) (h2 : ps[j]? = some q) : tbM (ps.map fun p => ps.map fun q => lt p q) i j = some (lt p q) := by
  rw [← ask_tb]; unfold askP; rw [h1, Option.bind_some, h2, Option.bind_some]; rfl
theorem lt_tr {p q r : P} (h : lt p q = true) (k : lt q r = true) : lt p r = true := by rw [lt_iff] at *; omega
theorem tr_ok (ps : List P) (n : Nat) : trM (ps.map fun p => ps.map fun q => lt p q) n = true := by
  unfold trM
  refine List.all_eq_true.mpr fun i _ => List.all_eq_true.mpr fun j _ => List.all_eq_true.mpr fun k _ => ?_
  cases e : tbM (ps.map fun p => ps.map fun q => lt p q) i j == some true && tbM (ps.map fun p => ps.map fun q => lt p q) j k == some true
  · rfl
  · rw [Bool.and_eq_true, beq_iff_eq, beq_iff_eq] at e
    obtain ⟨p, q, h1, h2, h3⟩ := tb_map e.1
    obtain ⟨q', r, h4, h5, h6⟩ := tb_map e.2
    rw [h2] at h4; cases h4
    rw [tb_get h1 h5, lt_tr h3 h6]; rfl
theorem prs_ok : ∀ H : List P, prs (H.map eP) = some H
  | [] => rfl
  | p :: H => by
    show ((eP p).pair?).bind (fun q => (prs (H.map eP)).bind fun ps => some (q :: ps)) = _
    rw [prs_ok H]; rfl
theorem picks_ok (R : List P) : ∀ l : List Nat, (∀ x ∈ l, x < R.length) → ∃ Q : List P, picks (R.map eP) l = some (Q.map eP) ∧ Q.length = l.length ∧ ∀ i r, l = i :: r → ∃ p Q', R[i]? = some p ∧ Q = p :: Q'
  | [], _ => ⟨[], rfl, rfl, fun _ _ h => (nomatch h)⟩
  | i :: l, h => by
    obtain ⟨Q, h1, h2, _⟩ := picks_ok R l fun x hx => h x (.tail _ hx)
    obtain ⟨p, hi⟩ : ∃ p, R[i]? = some p := ⟨_, List.getElem?_eq_getElem (h i (.head _))⟩
    refine ⟨p :: Q, ?_, by rw [List.length_cons, List.length_cons, h2], fun j r e => by cases e; exact ⟨_, Q, hi, rfl⟩⟩
    show ((R.map eP)[i]?).bind (fun a => (picks (R.map eP) l).bind fun as => some (a :: as)) = _
    rw [List.getElem?_map, hi, h1]; rfl
theorem sort_min (H : List P) (h2 : 2 ≤ H.length) (h4 : H.length ≤ 4) (hn : (H.map (·.2)).Nodup) : ∃ (Q : List P) (m : P), sortRevL (H.map eP) = some ((Q ++ [m]).map eP) ∧ Q.length + 1 = H.length ∧ m ∈ H ∧ ∀ p ∈ H, le m p := by
  have hrl : H.reverse.length = H.length := List.length_reverse
  have hc := chk_of H.reverse (by omega) (by omega) ((((List.reverse_perm H).map _).nodup_iff.mpr hn))
  unfold chkM at hc
  rw [← ask_tb] at hc
  unfold sortRevL
  rw [prs_ok, Option.bind_some, List.length_map, if_pos ⟨h2, by omega⟩, ← hrl]
  cases hr : runT (askP H.reverse) (kas_sort H.reverse.length) with
  | none => rw [hr] at hc; cases hc
  | some p =>
    rw [hr] at hc
    dsimp only at hc
    rw [Option.bind_some]
    cases hp : p.toList with
    | nil => rw [hp] at hc; cases hc
    | cons i l =>
      rw [hp] at hc
      dsimp only at hc
      rw [Bool.and_eq_true, Bool.and_eq_true, ask_tb, tr_ok] at hc
      obtain ⟨⟨c1, c2⟩, c3⟩ := hc
      have c1 := beq_iff_eq.mp c1
      have c2' : ∀ x ∈ i :: l, x < H.reverse.length := fun x hx => of_decide_eq_true (List.all_eq_true.mp c2 x hx)
      obtain ⟨Q, q1, q2, q3⟩ := picks_ok H.reverse (i :: l) c2'
      obtain ⟨m, Q', e1, rfl⟩ := q3 i l rfl
      refine ⟨Q'.reverse, m, ?_, ?_, ?_, fun q hq => ?_⟩
      · rw [← List.map_reverse, q1, Option.bind_some, ← List.map_reverse, List.reverse_cons]
      · rw [List.length_cons, List.length_cons] at q2
        rw [List.length_reverse]; omega
      · exact List.mem_reverse.mp (List.mem_of_getElem? e1)
      · obtain ⟨j, hj, e⟩ := List.mem_iff_getElem.mp (List.mem_reverse.mpr hq)
        have h := List.all_eq_true.mp c3 j (List.mem_range.mpr hj)
        rw [tb_get (q := m) (List.getElem?_eq_getElem hj) e1, e] at h
        exact Option.some.inj (beq_iff_eq.mp h)
end Mine

end
section
set_option maxRecDepth 100000

namespace Mine
/-! nlargest -/
noncomputable def gtN (c : Int) (l : List Int) : Nat := (l.filter fun v => decide (c < v)).length
noncomputable def geN (c : Int) (l : List Int) : Nat := (l.filter fun v => decide (c ≤ v)).length
theorem gtN_perm {c : Int} {l l' : List Int} (h : l.Perm l') : gtN c l = gtN c l' := (h.filter _).length_eq
theorem geN_perm {c : Int} {l l' : List Int} (h : l.Perm l') : geN c l = geN c l' := (h.filter _).length_eq
theorem gtN_app (c : Int) (l l' : List Int) : gtN c (l ++ l') = gtN c l + gtN c l' := by unfold gtN; rw [List.filter_append, List.length_append]
theorem geN_app (c : Int) (l l' : List Int) : geN c (l ++ l') = geN c l + geN c l' := by unfold geN; rw [List.filter_append, List.length_append]
theorem gtN_0 {c : Int} {l : List Int} (h : ∀ v ∈ l, v ≤ c) : gtN c l = 0 := by
  unfold gtN
  rw [List.length_eq_zero_iff, List.filter_eq_nil_iff]
  intro v hv
  have := h v hv
  rw [decide_eq_false (by omega)]; decide
theorem gtN_lt {c : Int} {l : List Int} (h : c ∈ l) : gtN c l < l.length :=
  List.length_filter_lt_length_iff_exists.mpr ⟨c, h, by rw [decide_eq_false (Int.lt_irrefl c)]; decide⟩
theorem geN_all {c : Int} {l : List Int} (h : ∀ v ∈ l, c ≤ v) : geN c l = l.length := by
  unfold geN; rw [List.filter_eq_self.mpr fun v hv => decide_eq_true (h v hv)]
theorem forC_nil {j i n k : Nat} {b : AS} {st : ASt} {xs : List AVal} (h : st.cells[j]? = some (.itL xs k)) (hk : xs[k]? = none) : forCL j i b (n + 1) st = some (.next, { st with cells := st.cells.set j .dead }) := by
  unfold forCL; rw [h]; dsimp only; rw [hk]
theorem forC_n {j i n k : Nat} {b : AS} {st st2 : ASt} {xs : List AVal} {x : AVal} {r : Option (AFlow × ASt)} (h : st.cells[j]? = some (.itL xs k)) (hk : xs[k]? = some x) (hb : b (stv i x { st with cells := st.cells.set j (.itL xs (k + 1)) }) = some (.next, st2)) (m : forCL j i b n st2 = r) : forCL j i b (n + 1) st = r := by
  unfold forCL; rw [h]; dsimp only; rw [hk]; dsimp only; rw [hb]; exact m
theorem unp_of {i j : Nat} {f : ASt → Option AVal} {st st1 : ASt} {a : AVal} (h : f st = some a) (k : tgPair i j a st = some st1) : sUnp i j f st = some (.next, st1) := by
  unfold sUnp; rw [h, Option.bind_some, k, Option.bind_some]
structure NI (seen : List Int) (H : List P) (o : Int) : Prop where
  hp : isHp H
  nd : (H.map (·.2)).Nodup
  lo : ∀ p ∈ H, o < p.2
  rest : ∃ D, seen.Perm (H.map (·.1) ++ D) ∧ ∀ d ∈ D, ∀ p ∈ H, d ≤ p.1
theorem NI.skip {seen : List Int} {a : P} {r : List P} {o x : Int} (I : NI seen (a :: r) o) (h3 : r.length ≤ 3) (hx : ¬ a.1 < x) : NI (seen ++ [x]) (a :: r) o := by
  obtain ⟨D, hD, hd⟩ := I.rest
  refine ⟨I.hp, I.nd, I.lo, D ++ [x], ?_, fun d h p hp => ?_⟩
  · rw [← List.append_assoc]; exact hD.append_right _
  · rcases List.mem_append.mp h with h | h
    · exact hd d h p hp
    · rw [List.mem_singleton.mp h]
      rcases List.mem_cons.mp hp with rfl | hp
      · omega
      · have := le_fst (isHp_top h3 I.hp p hp); omega
theorem NI.repl {seen : List Int} {a : P} {r H1 : List P} {o x : Int} (I : NI seen (a :: r) o) (h3 : r.length ≤ 3) (hx : a.1 < x) (hh : isHp H1) (hp : H1.Perm ((x, o) :: r)) : NI (seen ++ [x]) H1 (o - 1) := by
  obtain ⟨D, hD, hd⟩ := I.rest
  have hr : ∀ q ∈ r, q.2 ≠ o := fun q hq e => by have := I.lo q (.tail _ hq); omega
  refine ⟨hh, (hp.map _).nodup_iff.mpr (List.nodup_cons.mpr ⟨fun h => ?_, (List.nodup_cons.mp I.nd).2⟩), fun p h => ?_, a.1 :: D, ?_, fun d h p hq => ?_⟩
  · obtain ⟨q, hq, e⟩ := List.mem_map.mp h
    exact hr q hq e
  · rcases List.mem_cons.mp (hp.mem_iff.mp h) with rfl | h
    · show o - 1 < o; omega
    · have := I.lo p (.tail _ h); omega
  · refine (List.perm_append_comm.trans ((hD.cons x).trans ?_)).trans ((hp.map (·.1)).append_right _).symm
    show (x :: a.1 :: (r.map (·.1) ++ D)).Perm (x :: (r.map (·.1) ++ a.1 :: D))
    exact (List.perm_middle.symm).cons x
  · have hdr : ∀ q ∈ r, d ≤ q.1 := fun q hq => by
      rcases List.mem_cons.mp h with rfl | h
      · exact le_fst (isHp_top h3 I.hp q hq)
      · exact hd d h q (.tail _ hq)
    have hda : d ≤ a.1 := by
      rcases List.mem_cons.mp h with rfl | h
      · exact Int.le_refl _
      · exact hd d h a (.head _)
    rcases List.mem_cons.mp (hp.mem_iff.mp hq) with rfl | hq
    · show d ≤ x; omega
    · exact hdr p hq
noncomputable abbrev nB : AS := sSeq (sIf (tcmp gLt (ldv 7) (ldv 10)) (sSeq (sCall 35 dHeapreplace (ldv 9) (consF (ldv 5) (consF (pTup (consF (ldv 10) (consF (ldv 8) nilF))) nilF))) (sSeq (sUnp 7 11 (bin2 gItem (ldv 5) (kI 0))) (sSeq (sAug 8 gSub (kI 1)) sNil))) sNil) sNil
noncomputable def nLoc (N : Int) (cs : List Int) (m top o : Int) (el uo : Option AVal) : List (Option AVal) := [some (.int N), some (.lst (cs.map .int)), some .none, some (.cell 0), none, some (.cell 1), some (.int m), some (.int top), some (.int o), some (.cst (.ref 35)), el, uo, none, none]
noncomputable def nSt (N : Int) (cs : List Int) (k : Nat) (H : List P) (m top o : Int) (el uo : Option AVal) : ASt := ⟨nLoc N cs m top o el uo, ctx (some (.itL (cs.map .int) k)) H⟩
theorem n_body {N m x o : Int} {cs : List Int} {k : Nat} {a : P} {r : List P} {uo : Option AVal} (h1 : 1 ≤ r.length) (h3 : r.length ≤ 3) :
    (¬ a.1 < x → nB (nSt N cs k (a :: r) m a.1 o (some (.int x)) uo) = some (.next, nSt N cs k (a :: r) m a.1 o (some (.int x)) uo)) ∧
    (a.1 < x → ∀ a1 r1, suL ((x, o) :: r) = a1 :: r1 → nB (nSt N cs k (a :: r) m a.1 o (some (.int x)) uo) = some (.next, nSt N cs k (a1 :: r1) m a1.1 (o - 1) (some (.int x)) (some (.int a1.2)))) := by
  have hc : tcmp gLt (ldv 7) (ldv 10) (nSt N cs k (a :: r) m a.1 o (some (.int x)) uo) = some (decide (a.1 < x)) := rfl
  constructor
  · intro h
    rw [decide_eq_false h] at hc
    exact seq_n (if_f hc rfl) rfl
  · intro h a1 r1 e
    rw [decide_eq_true h] at hc
    have hr := repl_eval (o := some (.itL (cs.map .int) k)) ⟨cs, k, rfl⟩ a (x, o) r h1 h3
    rw [e] at hr
    exact seq_n (if_t hc (seq_n (st1 := nSt N cs k (a1 :: r1) m a.1 o (some (.int x)) uo) (call_n (as := [.cell 1, eP (x, o)]) rfl rfl hr) (seq_n (st1 := nSt N cs k (a1 :: r1) m a1.1 o (some (.int x)) (some (.int a1.2))) (unp_of (a := eP a1) (bin_of (a := .cell 1) (b := .int ((0 : Nat) : Int)) rfl rfl (item_L (lstOf_cell (i := 1) rfl) (by decide) rfl)) rfl) (seq_n rfl rfl)))) rfl
theorem n_loop {N m : Int} {cs : List Int} (hcs : cs.length < 1000) : ∀ (rem seen : List Int) (f : Nat) (a : P) (r : List P) (o : Int) (el uo : Option AVal), cs = seen ++ rem → 1 ≤ r.length → r.length ≤ 3 → NI seen (a :: r) o →
    ∃ a' r' o' el' uo', forCL 0 10 nB (rem.length + f + 1) (nSt N cs seen.length (a :: r) m a.1 o el uo) = some (.next, ⟨nLoc N cs m a'.1 o' el' uo', [.dead, .lst ((a' :: r').map eP)]⟩) ∧ r'.length = r.length ∧ NI cs (a' :: r') o'
  | [], seen, f, a, r, o, el, uo, hc, _, _, I => by
    rw [List.append_nil] at hc
    subst hc
    exact ⟨a, r, o, el, uo, forC_nil rfl (List.getElem?_eq_none (by rw [List.length_map]; exact Nat.le_refl _)), rfl, I⟩
  | x :: rem, seen, f, a, r, o, el, uo, hc, h1, h3, I => by
    have hc' : cs = (seen ++ [x]) ++ rem := by rw [List.append_assoc]; exact hc
    have hx : (cs.map AVal.int)[seen.length]? = some (.int x) := by rw [List.getElem?_map, hc, List.getElem?_append_right (Nat.le_refl _), Nat.sub_self]; rfl
    have hsl : (seen ++ [x]).length = seen.length + 1 := by rw [List.length_append]; rfl
    have hb := n_body (N := N) (m := m) (x := x) (o := o) (cs := cs) (k := seen.length + 1) (a := a) (r := r) (uo := uo) h1 h3
    rw [show (x :: rem).length + f + 1 = (rem.length + f + 1) + 1 by rw [List.length_cons]; omega]
    by_cases hlt : a.1 < x
    · obtain ⟨g1, g2⟩ := repl_ok (x := (x, o)) I.hp h1 h3
      cases e : suL ((x, o) :: r) with
      | nil => rw [e] at g2; exact absurd g2.length_eq (by rw [List.length_cons]; exact Nat.succ_ne_zero _ ∘ Eq.symm)
      | cons a1 r1 =>
        rw [e] at g1 g2
        have hl : r1.length = r.length := by have := g2.length_eq; rw [List.length_cons, List.length_cons] at this; omega
        obtain ⟨a', r', o', el', uo', q1, q2, q3⟩ := n_loop hcs rem (seen ++ [x]) f a1 r1 (o - 1) (some (.int x)) (some (.int a1.2)) hc' (by omega) (by omega) (I.repl h3 hlt g1 g2)
        rw [hsl] at q1
        exact ⟨a', r', o', el', uo', forC_n rfl hx (hb.2 hlt a1 r1 e) q1, q2.trans hl, q3⟩
    · obtain ⟨a', r', o', el', uo', q1, q2, q3⟩ := n_loop hcs rem (seen ++ [x]) f a r o (some (.int x)) uo hc' h1 h3 (I.skip h3 hlt)
      rw [hsl] at q1
      exact ⟨a', r', o', el', uo', forC_n rfl hx (hb.1 hlt) q1, q2, q3⟩
end Mine

end
section
set_option maxRecDepth 100000

namespace Mine
noncomputable def zp (cs : List Int) (n : Nat) : List P := (cs.take n).zipIdx.map fun p => (p.1, -(p.2 : Int))
theorem zp_ok (cs : List Int) (n : Nat) : zipPairs (cs.map .int) n = (zp cs n).map eP := by
  unfold zipPairs zp
  rw [← List.map_take, List.zipIdx_map, List.map_map, List.map_map]; rfl
theorem zp_fst (cs : List Int) (n : Nat) : (zp cs n).map (·.1) = cs.take n := by
  unfold zp
  rw [List.map_map]
  exact List.zipIdx_map_fst 0 (cs.take n)
theorem zp_snd (cs : List Int) (n : Nat) : (zp cs n).map (·.2) = (List.range' 0 (cs.take n).length).map fun k : Nat => -(k : Int) := by
  unfold zp
  rw [List.map_map, ← List.zipIdx_map_snd 0 (cs.take n), List.map_map]; rfl
theorem zp_len {cs : List Int} {n : Nat} (h : n ≤ cs.length) : (zp cs n).length = n := by
  unfold zp; rw [List.length_map, List.length_zipIdx, List.length_take]; omega
theorem NI.init {cs : List Int} {n : Nat} (h : n ≤ cs.length) {H : List P} (hh : isHp H) (hp : H.Perm (zp cs n)) : NI (cs.take n) H (-(n : Int)) := by
  have hl : (cs.take n).length = n := by rw [List.length_take]; omega
  refine ⟨hh, (hp.map _).nodup_iff.mpr ?_, fun p hq => ?_, [], ?_, fun _ h => (nomatch h)⟩
  · rw [zp_snd]
    refine List.Pairwise.map _ (fun a b hab e => hab ?_) (List.nodup_range' (s := 0) (n := (cs.take n).length))
    have : -(a : Int) = -(b : Int) := e
    omega
  · have : p.2 ∈ (zp cs n).map (·.2) := List.mem_map_of_mem (f := fun p : P => p.2) (hp.mem_iff.mp hq)
    rw [zp_snd, hl] at this
    obtain ⟨k, hk, e⟩ := List.mem_map.mp this
    have := List.mem_range'_1.mp hk
    rw [← e]; omega
  · rw [List.append_nil, ← zp_fst]; exact (hp.map _).symm
theorem NI.cut {cs : List Int} {H : List P} {o : Int} (I : NI cs H o) {m : P} (hm : m ∈ H) (hle : ∀ p ∈ H, le m p) : gtN m.1 cs < H.length ∧ H.length ≤ geN m.1 cs := by
  obtain ⟨D, hD, hd⟩ := I.rest
  have hlen : (H.map (·.1)).length = H.length := List.length_map ..
  rw [gtN_perm hD, geN_perm hD, gtN_app, geN_app, gtN_0 (l := D) fun d h => hd d h m hm, geN_all (l := H.map (·.1)) fun v hv => ?_]
  · have := gtN_lt (c := m.1) (l := H.map (·.1)) (List.mem_map_of_mem (f := fun p : P => p.1) hm)
    omega
  · obtain ⟨p, hp, rfl⟩ := List.mem_map.mp hv
    exact le_fst (hle p hp)
theorem fin_lst {cells : List ACell} {xs : List AVal} (h : underAllB 0 xs = true) : finish 0 (.lst xs) cells = some (.lst xs, []) := by
  unfold finish
  rw [List.take_zero, if_pos (by rfl)]
  exact if_pos h
structure Row (w : Nat) (cs row : List Int) : Prop where
  few : cs.length ≤ w → row.length ≤ w
  many : w < cs.length → row.length = w + 1 ∧ ∃ c, row[w]? = some c ∧ gtN c cs ≤ w ∧ w + 1 ≤ geN c cs
theorem snoc_get {α : Type} (Q : List α) (m : α) : (Q ++ [m])[Q.length]? = some m := by rw [List.getElem?_append_right (Nat.le_refl _), Nat.sub_self]; rfl
theorem row_sorted {w : Nat} {cs : List Int} (h : cs.length ≤ w + 1) : Row w cs ((isort cs).reverse.take (w + 1)) := by
  have hil := isort_len cs
  rw [List.take_of_length_le (by rw [List.length_reverse, hil]; exact h)]
  refine ⟨fun h => by rw [List.length_reverse, hil]; exact h, fun hw => ⟨by rw [List.length_reverse, hil]; omega, ?_⟩⟩
  have hs := isort_sorted cs
  have hp := isort_perm cs
  cases e : isort cs with
  | nil => rw [e] at hil; have : (0 : Nat) = cs.length := hil; omega
  | cons c t =>
    rw [e] at hil hs hp
    rw [List.length_cons] at hil
    refine ⟨c, ?_, ?_, ?_⟩
    · rw [List.reverse_cons]
      have := snoc_get t.reverse c
      rw [List.length_reverse, show t.length = w by omega] at this
      exact this
    · rw [← gtN_perm hp]
      have := gtN_lt (c := c) (l := c :: t) (.head _)
      rw [List.length_cons] at this; omega
    · rw [← geN_perm hp, geN_all fun v hv => ?_]
      · rw [List.length_cons]; omega
      · rcases List.mem_cons.mp hv with rfl | hv
        · exact Int.le_refl _
        · exact List.rel_of_pairwise_cons hs hv
theorem nl_few (w : Nat) (hw : 1 ≤ w) (hw3 : w ≤ 3) (cs : List Int) (hl : cs.length ≤ w + 1) : dNlargest [] [.int ((w : Int) + 1), .lst (cs.map .int)] = some (.lst (((isort cs).reverse.take (w + 1)).map .int), []) := by
  have hml : (cs.map AVal.int).length = cs.length := List.length_map ..
  have hil := isort_len cs
  have h1 : tcmp gEq (ldv 0) (kI 1) ⟨[some (.int ((w : Int) + 1)), some (.lst (cs.map .int)), some .none, none, none, none, none, none, none, none, none, none, none, none], []⟩ = some false := by
    show some ((w : Int) + 1 == 1) = _
    rw [beq_eq_false_iff_ne.mpr (by omega)]
  have h2 : tcmp gGe (ldv 0) (ldv 6) ⟨[some (.int ((w : Int) + 1)), some (.lst (cs.map .int)), some .none, none, none, none, some (.int (cs.map AVal.int).length), none, none, none, none, none, none, none], []⟩ = some true := by
    show some (decide (((cs.map AVal.int).length : Int) ≤ (w : Int) + 1)) = _
    rw [decide_eq_true (by omega)]
  have h3 : pSlice (pB sortedKrA (consF (ldv 1) nilF) (consF (ldv 2) (consF (kB true) nilF))) (ldv 0) ⟨[some (.int ((w : Int) + 1)), some (.lst (cs.map .int)), some .none, none, none, none, some (.int (cs.map AVal.int).length), none, none, none, none, none, none, none], []⟩ = some (.lst (((isort cs).reverse.take (w + 1)).map .int)) := by
    have hb : pB sortedKrA (consF (ldv 1) nilF) (consF (ldv 2) (consF (kB true) nilF)) ⟨[some (.int ((w : Int) + 1)), some (.lst (cs.map .int)), some .none, none, none, none, some (.int (cs.map AVal.int).length), none, none, none, none, none, none, none], []⟩ = some (.lst ((isort cs).reverse.map .int)) := by
      show sortedKrA [] [.lst (cs.map .int), .none, .bool true] = _
      unfold sortedKrA
      dsimp only
      rw [show lstOf ([] : List ACell) (.lst (cs.map .int)) = some (cs.map .int) from rfl, Option.bind_some, ints_ok, Option.bind_some, if_pos (by omega)]
    unfold pSlice
    rw [hb, Option.bind_some, show ldv 0 ⟨[some (.int ((w : Int) + 1)), some (.lst (cs.map .int)), some .none, none, none, none, some (.int (cs.map AVal.int).length), none, none, none, none, none, none, none], []⟩ = some (.int ((w : Int) + 1)) from rfl, Option.bind_some, show (AVal.lst ((isort cs).reverse.map .int)).lst? = some ((isort cs).reverse.map .int) from rfl, Option.bind_some, int_q, Option.bind_some, if_pos ⟨by rw [List.length_map, List.length_reverse]; omega, by omega⟩, List.map_take]
    rw [show ((w : Int) + 1).toNat = w + 1 by omega]
  exact run_of rfl (seq_n (if_f h1 rfl) (seq_r (seq_n (seq_n (as_of (pB_1 rfl (len_lst rfl (by omega)))) rfl) (seq_r (if_t h2 (seq_r (ret_of h3))))))) (fin_lst (under_ints 0 _))
end Mine

end
section
set_option maxRecDepth 100000

namespace Mine
theorem sMk_of {ok : List ACell → AVal → Bool} {g : CFn} {fo : ASt → Option AVal} {f gk : ASt → Option (List AVal)} {st : ASt} {a : AVal} {as bs : List AVal} {cs' : List ACell} (h1 : fo st = some a) (h2 : f st = some as) (hk : gk st = some bs) (h3 : ok st.cells a = true) (h4 : g st.cells ((a :: as) ++ bs) = some cs') : sM ok g fo f gk st = some (.next, { st with cells := cs' }) := by
  unfold sM
  rw [h1, Option.bind_some, h2, Option.bind_some, hk, Option.bind_some, if_pos h3, h4, Option.bind_some]
theorem sort_cell {cells : List ACell} {i : Nat} {xs out : List AVal} (h : cells[i]? = some (.lst xs)) (hs : sortRevL xs = some out) : sortRevA cells [.cell i, .bool true] = some (cells.set i (.lst out)) := by
  unfold sortRevA
  dsimp only
  rw [cell_q, Option.bind_some, h, Option.bind_some, show (ACell.lst xs).lst? = some xs from rfl, Option.bind_some, hs, Option.bind_some]
theorem zip_ok {N : Int} {cs : List Int} {n : Nat} {l2 : Option AVal} (hN : N = (n : Int)) (h1 : 1 ≤ n) (hn : n ≤ cs.length) (hl : cs.length < 1000) :
    sZip 5 (kI 0) (pNeg (ldv 0)) (pNeg (kI 1)) (ldv 3) ⟨[some (.int N), some (.lst (cs.map .int)), some .none, some (.cell 0), none, none, l2, none, none, none, none, none, none, none], [.itL (cs.map .int) 0]⟩ =
    some (.next, ⟨[some (.int N), some (.lst (cs.map .int)), some .none, some (.cell 0), none, some (.cell 1), l2, none, none, none, none, none, none, none], ctx (some (.itL (cs.map .int) n)) (zp cs n)⟩) := by
  have hml : (cs.map AVal.int).length = cs.length := List.length_map ..
  show (if (0 : Int) = 0 ∧ (-1 : Int) = -1 ∧ -N < 0 ∧ (- -N).toNat ≤ (cs.map AVal.int).length ∧ (cs.map AVal.int).length < 1000 then some _ else none) = _
  have e : (- -N).toNat = n := by omega
  rw [e, if_pos ⟨rfl, rfl, by omega, by omega, by omega⟩, zp_ok]
  rfl
theorem comp_fst (O : List P) (st : ASt) (cells : List ACell) (hl : O.length < 900) (h : (ldv 5 st).bind (itemsC st.cells) = some (O.map eP)) : pCompN [Str.ofString "elem", Str.ofString "order"] [] (fun st => ((ldv 5) st).bind (itemsC st.cells)) 2 [] (.lst []) (tgPair 0 1) (fun _ => some true) (emitL (ldv 0)) st = some (.lst ((O.map (·.1)).map .int)) := by
  have ef : (O.flatMap fun p => [AVal.int p.1]) = (O.map (·.1)).map .int := by rw [flat1, List.map_map]; rfl
  rw [← ef]
  refine pcomp_a (enc := eP) (R := fun s => ∃ t u, s = ⟨[t, u], st.cells⟩) O h ⟨none, none, rfl⟩ ?_ (by rw [ef, List.length_map, List.length_map]; omega)
  rintro p _ st1 ⟨t, u, rfl⟩
  exact ⟨_, rfl, rfl, ⟨_, _, rfl⟩, fun acc ha => ⟨_, emit_ok rfl acc ha, ⟨_, _, rfl⟩⟩⟩
theorem nl_many (w : Nat) (hw : 1 ≤ w) (hw3 : w ≤ 3) (cs : List Int) (hm : w + 1 < cs.length) (hl : cs.length < 60) : ∃ row : List Int, dNlargest [] [.int ((w : Int) + 1), .lst (cs.map .int)] = some (.lst (row.map .int), []) ∧ Row w cs row := by
  have hml : (cs.map AVal.int).length = cs.length := List.length_map ..
  have h1 : tcmp gEq (ldv 0) (kI 1) ⟨[some (.int ((w : Int) + 1)), some (.lst (cs.map .int)), some .none, none, none, none, none, none, none, none, none, none, none, none], []⟩ = some false := by
    show some ((w : Int) + 1 == 1) = _
    rw [beq_eq_false_iff_ne.mpr (by omega)]
  have h2 : tcmp gGe (ldv 0) (ldv 6) ⟨[some (.int ((w : Int) + 1)), some (.lst (cs.map .int)), some .none, none, none, none, some (.int (cs.map AVal.int).length), none, none, none, none, none, none, none], []⟩ = some false := by
    show some (decide (((cs.map AVal.int).length : Int) ≤ (w : Int) + 1)) = _
    rw [decide_eq_false (by omega)]
  have hi : sNew 3 (nIter (ldv 1)) ⟨[some (.int ((w : Int) + 1)), some (.lst (cs.map .int)), some .none, none, none, none, some (.int (cs.map AVal.int).length), none, none, none, none, none, none, none], []⟩ = some (.next, ⟨[some (.int ((w : Int) + 1)), some (.lst (cs.map .int)), some .none, some (.cell 0), none, none, some (.int (cs.map AVal.int).length), none, none, none, none, none, none, none], [.itL (cs.map .int) 0]⟩) := by
    show (if (cs.map AVal.int).length < 1000 then some (ACell.itL (cs.map .int) 0) else none).bind _ = _
    rw [if_pos (by omega)]; rfl
  have hz := zip_ok (N := (w : Int) + 1) (cs := cs) (n := w + 1) (l2 := some (.int (cs.map AVal.int).length)) (by omega) (by omega) (by omega) (by omega)
  have hzl := zp_len (cs := cs) (n := w + 1) (by omega)
  obtain ⟨g1, g2⟩ := hfL_ok (zp cs (w + 1)) (by omega) (by omega)
  have I0 := NI.init (cs := cs) (n := w + 1) (by omega) g1 g2
  have hf := hf_eval (o := some (.itL (cs.map .int) (w + 1))) ⟨cs, w + 1, rfl⟩ (zp cs (w + 1)) (by omega) (by omega)
  have htl : (cs.take (w + 1)).length = w + 1 := by rw [List.length_take]; omega
  have hdl : (cs.drop (w + 1)).length = cs.length - (w + 1) := List.length_drop
  have hgl := g2.length_eq
  generalize hH : hfL (zp cs (w + 1)) = H at g1 g2 I0 hf hgl
  cases H with
  | nil => have : (0 : Nat) = _ := hgl; omega
  | cons a r =>
    rw [List.length_cons] at hgl
    obtain ⟨a', r', o', el', uo', q1, q2, q3⟩ := n_loop (N := (w : Int) + 1) (m := (cs.map AVal.int).length) (cs := cs) (by omega) (cs.drop (w + 1)) (cs.take (w + 1)) (63 - (cs.drop (w + 1)).length) a r (-((w + 1 : Nat) : Int)) none none (List.take_append_drop _ _).symm (by omega) (by omega) I0
    rw [htl, show (cs.drop (w + 1)).length + (63 - (cs.drop (w + 1)).length) + 1 = 64 by omega] at q1
    obtain ⟨Q, m, s1, s2, s3, s4⟩ := sort_min (a' :: r') (by rw [List.length_cons]; omega) (by rw [List.length_cons]; omega) q3.nd
    rw [List.length_cons] at s2
    have hcut := q3.cut s3 s4
    rw [List.length_cons] at hcut
    have hQl : (Q ++ [m]).length = w + 1 := by rw [List.length_append, List.length_singleton]; omega
    refine ⟨(Q ++ [m]).map (·.1), ?_, fun h => absurd h (by omega), fun _ => ⟨by rw [List.length_map, hQl], m.1, ?_, by omega, by omega⟩⟩
    rotate_left
    · rw [List.map_append]
      have := snoc_get (Q.map (·.1)) m.1
      rw [List.length_map, show Q.length = w by omega] at this
      exact this
    have ht : tNot (tVal (ldv 5)) ⟨[some (.int ((w : Int) + 1)), some (.lst (cs.map .int)), some .none, some (.cell 0), none, some (.cell 1), some (.int (cs.map AVal.int).length), none, none, none, none, none, none, none], ctx (some (.itL (cs.map .int) (w + 1))) (zp cs (w + 1))⟩ = some false := by
      cases e : zp cs (w + 1) with
      | nil => rw [e] at hzl; have : (0 : Nat) = w + 1 := hzl; omega
      | cons b t =>
        rw [e] at hzl
        have hbl : ((b :: t).map eP).length < 1000 := by rw [List.length_map]; omega
        show ((if ((b :: t).map eP).length < 1000 then some _ else none) : Option Bool).map _ = _
        rw [if_pos hbl]; rfl
    have hloop : sForC (ldv 3) 10 nB 64 (nSt ((w : Int) + 1) cs (w + 1) (a :: r) (cs.map AVal.int).length a.1 (-((w + 1 : Nat) : Int)) none none) = some (.next, ⟨nLoc ((w : Int) + 1) cs (cs.map AVal.int).length a'.1 o' el' uo', [.dead, .lst ((a' :: r').map eP)]⟩) := q1
    have hsort : sM isLst sortRevA (ldv 5) nilF (consF (kB true) nilF) ⟨nLoc ((w : Int) + 1) cs (cs.map AVal.int).length a'.1 o' el' uo', [.dead, .lst ((a' :: r').map eP)]⟩ = some (.next, ⟨nLoc ((w : Int) + 1) cs (cs.map AVal.int).length a'.1 o' el' uo', [.dead, .lst ((Q ++ [m]).map eP)]⟩) :=
      sMk_of (a := .cell 1) (as := []) (bs := [.bool true]) rfl rfl rfl (isLst_ok (xs := (a' :: r').map eP) rfl) (sort_cell (i := 1) rfl s1)
    have hcomp := comp_fst (Q ++ [m]) ⟨nLoc ((w : Int) + 1) cs (cs.map AVal.int).length a'.1 o' el' uo', [.dead, .lst ((Q ++ [m]).map eP)]⟩ [] (by omega) (by
      show (if ((Q ++ [m]).map eP).length < 1000 then some _ else none) = _
      rw [if_pos (by rw [List.length_map]; omega)])
    have h7 : bin2 gItem (bin2 gItem (ldv 5) (kI 0)) (kI 0) ⟨[some (.int ((w : Int) + 1)), some (.lst (cs.map .int)), some .none, some (.cell 0), none, some (.cell 1), some (.int (cs.map AVal.int).length), none, none, none, none, none, none, none], ctx (some (.itL (cs.map .int) (w + 1))) (a :: r)⟩ = some (.int a.1) :=
      bin_of (g := gItem) (f2 := kI 0) (bin_of (a := .cell 1) (b := .int ((0 : Nat) : Int)) rfl rfl (item_L (lstOf_cell (i := 1) rfl) (by decide) rfl)) rfl (item_p0 a)
    have h8 : sAssign 8 (pNeg (ldv 0)) ⟨[some (.int ((w : Int) + 1)), some (.lst (cs.map .int)), some .none, some (.cell 0), none, some (.cell 1), some (.int (cs.map AVal.int).length), some (.int a.1), none, none, none, none, none, none], ctx (some (.itL (cs.map .int) (w + 1))) (a :: r)⟩ = some (.next, ⟨[some (.int ((w : Int) + 1)), some (.lst (cs.map .int)), some .none, some (.cell 0), none, some (.cell 1), some (.int (cs.map AVal.int).length), some (.int a.1), some (.int (-((w : Int) + 1))), none, none, none, none, none], ctx (some (.itL (cs.map .int) (w + 1))) (a :: r)⟩) := rfl
    rw [show -((w : Int) + 1) = -((w + 1 : Nat) : Int) by omega] at h8
    exact run_of rfl (seq_n (if_f h1 rfl) (seq_n (seq_n (seq_n (as_of (pB_1 rfl (len_lst rfl (by omega)))) rfl) (seq_n (if_f h2 rfl) rfl)) (seq_r (if_t rfl (seq_n hi (seq_n hz (seq_n (if_f ht rfl) (seq_n (call_n (as := [.cell 1]) rfl rfl hf) (seq_n (as_of h7) (seq_n h8 (seq_n (st1 := nSt ((w : Int) + 1) cs (w + 1) (a :: r) (cs.map AVal.int).length a.1 (-((w + 1 : Nat) : Int)) none none) rfl (seq_n hloop (seq_n hsort (seq_r (ret_of hcomp))))))))))))))) (fin_lst (under_ints 0 _))
theorem nl_eval (w : Nat) (hw : 1 ≤ w) (hw3 : w ≤ 3) (cs : List Int) (hl : cs.length < 60) : ∃ row : List Int, dNlargest [] [.int ((w : Int) + 1), .lst (cs.map .int)] = some (.lst (row.map .int), []) ∧ Row w cs row := by
  by_cases h : w + 1 < cs.length
  · exact nl_many w hw hw3 cs h hl
  · exact ⟨_, nl_few w hw hw3 cs (by omega), row_sorted (by omega)⟩
end Mine

end
section
set_option maxRecDepth 100000

namespace Mine
/-! two tables laid together: the plain law -/
theorem keys_dput (es : Tb) (k v : Int) : keys (dput es k v) = if k ∈ keys es then keys es else keys es ++ [k] := by
  by_cases h : k ∈ keys es
  · rw [if_pos h]
    obtain ⟨p, hp, e⟩ := List.mem_map.mp h
    unfold dput
    rw [if_pos (List.any_eq_true.mpr ⟨p, hp, decide_eq_true e⟩), keys, keys, List.map_map]
    refine List.map_congr_left fun q _ => ?_
    show (if q.1 = k then (q.1, v) else q).1 = q.1
    split <;> rfl
  · rw [if_neg h, dput_fresh h, keys, keys, List.map_append]; rfl
theorem dget_app {S T : Tb} {x : Int} (h : x ∉ keys S) : dget (S ++ T) x = dget T x := by
  induction S with
  | nil => rfl
  | cons p S ih =>
    rw [List.cons_append, dget_cons, if_neg fun e => h (by rw [← e]; exact .head _)]
    exact ih fun hm => h (List.mem_cons_of_mem _ hm)
theorem dget_app' {S T : Tb} {x : Int} (h : x ∈ keys S) : dget (S ++ T) x = dget S x := by
  induction S with
  | nil => cases h
  | cons p S ih =>
    rw [List.cons_append, dget_cons, dget_cons]
    by_cases e : p.1 = x
    · rw [if_pos e, if_pos e]
    · rw [if_neg e, if_neg e]
      exact ih ((List.mem_cons.mp h).resolve_left fun q => e q.symm)
theorem dget_put (es : Tb) (k v x : Int) : dget (dput es k v) x = if x = k then some v else dget es x := by
  by_cases h : k ∈ keys es
  · obtain ⟨p, hp, e⟩ := List.mem_map.mp h
    unfold dput
    rw [if_pos (List.any_eq_true.mpr ⟨p, hp, decide_eq_true e⟩)]
    clear hp e p
    induction es with
    | nil => cases h
    | cons q es ih =>
      rw [List.map_cons, dget_cons, dget_cons]
      by_cases hq : q.1 = k
      · rw [if_pos hq]
        show (if q.1 = x then some v else _) = _
        by_cases hx : x = k
        · rw [if_pos hx, if_pos (hq.trans hx.symm)]
        · rw [if_neg hx, if_neg fun e => hx (e.symm.trans hq), if_neg fun e => hx (e.symm.trans hq)]
          clear ih h
          induction es with
          | nil => rfl
          | cons r es ih =>
            rw [List.map_cons, dget_cons, dget_cons, ih]
            by_cases hr : r.1 = k
            · rw [if_pos hr]
              show (if r.1 = x then _ else _) = _
              rw [if_neg fun e => hx (e.symm.trans hr), if_neg fun e => hx (e.symm.trans hr)]
            · rw [if_neg hr]
      · rw [if_neg hq, ih ((List.mem_cons.mp h).resolve_left fun e => hq e.symm)]
        by_cases hx : x = k
        · rw [if_pos hx, if_pos hx, if_neg fun e => hq (e.trans hx)]
        · rw [if_neg hx, if_neg hx]
  · rw [dput_fresh h]
    by_cases hx : x = k
    · rw [if_pos hx, hx, dget_app h, dget_cons, if_pos rfl]
    · rw [if_neg hx]
      by_cases hm : x ∈ keys es
      · exact dget_app' hm
      · rw [dget_app hm, dget_cons, if_neg fun e => hx e.symm, dget_none hm]; rfl
theorem fold_put (v : Int → Int) : ∀ (ks : List Int) (es : Tb), (keys es).Nodup → (keys (ks.foldl (fun es k => dput es k (v k)) es)).Nodup ∧ (∀ x, dget (ks.foldl (fun es k => dput es k (v k)) es) x = if x ∈ ks then some (v x) else dget es x) ∧ (ks.foldl (fun es k => dput es k (v k)) es).length ≤ es.length + ks.length
  | [], es, hn => ⟨hn, fun x => by rw [if_neg (fun h => nomatch h)]; rfl, Nat.le_refl _⟩
  | k :: ks, es, hn => by
    have hn1 : (keys (dput es k (v k))).Nodup := by
      rw [keys_dput]
      split
      · exact hn
      · rename_i h
        exact List.nodup_append.mpr ⟨hn, List.nodup_cons.mpr ⟨fun h => (nomatch h), .nil⟩, fun a ha b hb q => h (by rw [← show b = k from List.mem_singleton.mp hb, ← q]; exact ha)⟩
    obtain ⟨h1, h2, h3⟩ := fold_put v ks (dput es k (v k)) hn1
    refine ⟨h1, fun x => ?_, ?_⟩
    · rw [List.foldl_cons, h2 x, dget_put]
      by_cases hx : x ∈ ks
      · rw [if_pos hx, if_pos (List.mem_cons_of_mem _ hx)]
      · rw [if_neg hx]
        by_cases e : x = k
        · rw [if_pos e, if_pos (by rw [e]; exact .head _), e]
        · rw [if_neg e, if_neg fun h => (List.mem_cons.mp h).elim e hx]
    · rw [List.foldl_cons, List.length_cons]
      have := dput_len es k (v k)
      omega
theorem sum_zero {f : Int → Int} : ∀ L : List Int, (∀ x ∈ L, f x = 0) → (L.map f).sum = 0
  | [], _ => rfl
  | x :: L, h => by rw [List.map_cons, List.sum_cons, h x (.head _), sum_zero L fun y hy => h y (.tail _ hy)]; rfl
theorem sum_add (f g : Int → Int) : ∀ L : List Int, (L.map fun x => f x + g x).sum = (L.map f).sum + (L.map g).sum
  | [] => rfl
  | x :: L => by rw [List.map_cons, List.map_cons, List.map_cons, List.sum_cons, List.sum_cons, List.sum_cons, sum_add f g L]; omega
theorem sum_one {a c : Int} : ∀ L : List Int, L.Nodup → a ∈ L → (L.map fun x => if a = x then c else 0).sum = c
  | [], _, h => nomatch h
  | x :: L, hn, h => by
    obtain ⟨n1, n2⟩ := List.nodup_cons.mp hn
    rw [List.map_cons, List.sum_cons]
    by_cases e : a = x
    · rw [if_pos e, sum_zero L fun y hy => if_neg fun q => n1 (by rw [← e, q]; exact hy), Int.add_zero]
    · rw [if_neg e, sum_one L n2 ((List.mem_cons.mp h).resolve_left e), Int.zero_add]
theorem sum_sup {L : List Int} (hL : L.Nodup) : ∀ T : Tb, (keys T).Nodup → (∀ x ∈ keys T, x ∈ L) → (L.map (tg T)).sum = total T
  | [], _, _ => sum_zero L fun _ _ => rfl
  | p :: T, hn, h => by
    obtain ⟨n1, n2⟩ := List.nodup_cons.mp hn
    have e : tg (p :: T) = fun x => (if p.1 = x then p.2 else 0) + tg T x := funext fun x => by
      rw [tg_cons]
      by_cases hx : p.1 = x
      · rw [if_pos hx, if_pos hx, ← hx, tg_not n1, Int.add_zero]
      · rw [if_neg hx, if_neg hx, Int.zero_add]
    rw [e, sum_add, sum_one L hL (h p.1 (.head _)), sum_sup hL T n2 (fun x hx => h x (List.mem_cons_of_mem _ hx)), total_cons]
noncomputable def sumsL (A B : Tb) : Tb := (keys A ++ keys B).foldl (fun es k => dput es k (tg A k + tg B k)) []
theorem sums_ok {A B : Tb} (hA : (keys A).Nodup) (hB : (keys B).Nodup) : (keys (sumsL A B)).Nodup ∧ (∀ x, tg (sumsL A B) x = tg A x + tg B x) ∧ total (sumsL A B) = total A + total B ∧ (sumsL A B).length ≤ A.length + B.length ∧ ∀ x, x ∈ keys (sumsL A B) → x ∈ keys A ∨ x ∈ keys B := by
  obtain ⟨h1, h2, h3⟩ := fold_put (fun k => tg A k + tg B k) (keys A ++ keys B) [] .nil
  change (keys (sumsL A B)).Nodup at h1
  change ∀ x, dget (sumsL A B) x = _ at h2
  change (sumsL A B).length ≤ _ at h3
  have ht : ∀ x, tg (sumsL A B) x = tg A x + tg B x := fun x => by
    unfold tg at *
    rw [h2 x]
    split
    · rfl
    · rename_i h
      rw [dget_none (T := A) fun hm => h (List.mem_append_left _ hm), dget_none (T := B) fun hm => h (List.mem_append_right _ hm)]; rfl
  have hk : ∀ x, x ∈ keys A ∨ x ∈ keys B → x ∈ keys (sumsL A B) := fun x hx => by
    apply Classical.byContradiction
    intro hno
    have := h2 x
    rw [dget_none hno, if_pos (List.mem_append.mpr hx)] at this
    cases this
  refine ⟨h1, ht, ?_, ?_, fun x hx => ?_⟩
  · rw [← sum_sup h1 (sumsL A B) h1 fun _ h => h, show tg (sumsL A B) = fun x => tg A x + tg B x from funext ht, sum_add, sum_sup h1 A hA fun x hx => hk x (.inl hx), sum_sup h1 B hB fun x hx => hk x (.inr hx)]
  · rw [List.length_append, keys_len, keys_len] at h3
    have e0 : ([] : Tb).length = 0 := rfl
    omega
  · apply Classical.byContradiction
    intro hno
    obtain ⟨v, e⟩ := dget_key hx
    rw [h2 x, if_neg fun h => hno (List.mem_append.mp h)] at e
    cases e
theorem cut_len {c : Int} {S : Tb} : (cutT c S).length = gtN c (S.map (·.2)) := by
  unfold cutT gtN
  rw [List.length_map, List.filter_map, List.length_map]; rfl
theorem geq_geN {c : Int} {S : Tb} : geq c S = geN c (S.map (·.2)) := by
  unfold geq geN
  rw [List.filter_map, List.length_map]; rfl
theorem sums_pos {w : Nat} {A B : Tb} {f1 f2 : Int → Int} {N1 N2 e1 e2 : Int} (BA : Bd w A f1 N1 e1) (BB : Bd w B f2 N2 e2) : ∀ p ∈ sumsL A B, 1 ≤ p.2 := by
  obtain ⟨h1, h2, _, _, h5⟩ := sums_ok BA.nd BB.nd
  intro p hp
  have e := h2 p.1
  rw [tg_mem h1 (x := p.1) (v := p.2) hp] at e
  have a := tg_nn BA.pos p.1
  have b := tg_nn BB.pos p.1
  rcases h5 p.1 (List.mem_map_of_mem (f := Prod.fst) hp) with h | h
  · have := tg_ge BA.pos h; omega
  · have := tg_ge BB.pos h; omega
theorem Bd.laid {w : Nat} {A B : Tb} {f1 f2 : Int → Int} {N1 N2 e1 e2 c : Int} (BA : Bd w A f1 N1 e1) (BB : Bd w B f2 N2 e2) (hc : 0 ≤ c) (hgt : gtN c ((sumsL A B).map (·.2)) ≤ w) (hge : c = 0 ∨ w + 1 ≤ geN c ((sumsL A B).map (·.2))) :
    Bd w (cutT c (sumsL A B)) (fun x => f1 x + f2 x) (N1 + N2) (e1 + e2 + c) := by
  obtain ⟨h1, h2, h3, _, _⟩ := sums_ok BA.nd BB.nd
  have hp := sums_pos BA BB
  refine ⟨(cut_sub c _).nodup h1, cut_pos c _, by rw [cut_len]; exact hgt, fun x => ?_, fun x => ?_, by have := BA.e0; have := BB.e0; omega, ?_⟩
  · rw [tg_cut hc h1, h2]
    have := BA.lo x; have := BB.lo x; have := tg_nn BA.pos x; have := tg_nn BB.pos x
    split <;> omega
  · rw [tg_cut hc h1, h2]
    have := BA.hi x; have := BB.hi x
    split <;> omega
  · have ht := total_cut (c := c) (T := sumsL A B) fun p h => by have := hp p h; omega
    rw [h3, geq_geN] at ht
    have hm : ((w : Int) + 1) * c ≤ c * (geN c ((sumsL A B).map (·.2)) : Int) := by
      rcases hge with rfl | hge
      · rw [Int.mul_zero, Int.zero_mul]; exact Int.le_refl _
      · rw [Int.mul_comm]
        exact Int.mul_le_mul_of_nonneg_left (by omega) hc
    have := BA.tot; have := BB.tot
    rw [Int.mul_add, Int.mul_add]
    omega
end Mine

end
section
set_option maxRecDepth 100000

namespace Mine
/-! _law_laid -/
theorem nth_unique {L : List Int} (hs : L.Pairwise (· ≤ ·)) {m w : Nat} (hlen : L.length = m + (w + 1)) {c : Int} (hgt : gtN c L ≤ w) (hge : w + 1 ≤ geN c L) : L[m]? = some c := by
  have hm : m < L.length := by omega
  obtain ⟨d, hd⟩ : ∃ d, L[m]? = some d := ⟨_, List.getElem?_eq_getElem hm⟩
  rw [hd]
  have hd' : L[m] = d := (List.getElem?_eq_some_iff.mp hd).2
  have e : L = L.take m ++ d :: L.drop (m + 1) := by
    conv => lhs; rw [← List.take_append_drop m L, List.drop_eq_getElem_cons hm, hd']
  have hl1 : (L.drop (m + 1)).length = w := by rw [List.length_drop]; omega
  generalize L.take m = A at e
  generalize L.drop (m + 1) = B at e hl1
  subst e
  obtain ⟨_, p2, p3⟩ := List.pairwise_append.mp hs
  have p4 := (List.pairwise_cons.mp p2).1
  rw [gtN_app] at hgt
  rw [geN_app] at hge
  congr 1
  by_cases h1 : c < d
  · have : gtN c (d :: B) = (d :: B).length := by
      unfold gtN
      rw [List.filter_eq_self.mpr fun v hv => decide_eq_true (by
        rcases List.mem_cons.mp hv with rfl | hv
        · exact h1
        · have := p4 v hv; omega)]
    rw [List.length_cons] at this
    omega
  · by_cases h2 : d < c
    · have e1 : geN c A = 0 := by
        unfold geN
        rw [List.length_eq_zero_iff, List.filter_eq_nil_iff]
        intro v hv
        have := p3 v hv d (.head _)
        rw [decide_eq_false (by omega)]; decide
      have e2 : geN c (d :: B) = geN c B := by
        unfold geN
        rw [List.filter_cons, if_neg (by rw [decide_eq_false (by omega)]; decide)]
      have e3 : geN c B ≤ B.length := List.length_filter_le ..
      omega
    · omega
theorem due_ok {w : Nat} {cs : List Int} {c : Int} (hc : 0 ≤ c) (hgt : gtN c cs ≤ w) (hge : c = 0 ∨ w + 1 ≤ geN c cs) (hp : ∀ v ∈ cs, 1 ≤ v) : (isort (List.replicate (w + 1) 0 ++ cs))[cs.length]? = some c := by
  have hP := isort_perm (List.replicate (w + 1) 0 ++ cs)
  refine nth_unique (w := w) (isort_sorted _) (by rw [isort_len, List.length_append, List.length_replicate]; omega) ?_ ?_
  · rw [gtN_perm hP, gtN_app, gtN_0 (l := List.replicate (w + 1) 0) fun v hv => by rw [(List.mem_replicate.mp hv).2]; exact hc]
    omega
  · rw [geN_perm hP, geN_app]
    rcases hge with rfl | hge
    · rw [geN_all (l := List.replicate (w + 1) 0) fun v hv => by rw [(List.mem_replicate.mp hv).2]; exact Int.le_refl _, List.length_replicate]; omega
    · omega
theorem list_ok {T : Tb} (h : T.length < 1000) : fun1 listA [] [.dct T] = some (.lst ((keys T).map .int)) := by
  show listA [] (.dct T) = _
  unfold listA
  rw [show dctOf [] (.dct T) = some T from rfl, Option.bind_some, if_pos h, keys, List.map_map]; rfl
theorem itemsD_ok {T : Tb} (h : T.length < 1000) : itemsD (.dct T) = some (T.map fun p => .int p.1) := if_pos h
theorem item_D {T : Tb} {k v : Int} (h : dget T k = some v) : gItem [] (.dct T) (.int k) = some (.int v) := by
  refine ei_r rfl (ei_r rfl (ei_l ?_))
  unfold gItemD
  rw [show dctOf [] (.dct T) = some T from rfl, Option.bind_some, int_q, Option.bind_some, h, Option.bind_some]
theorem add_L {cs : List ACell} {xs ys : List AVal} (h : xs.length + ys.length < 1000) : gAdd cs (.lst xs) (.lst ys) = some (.lst (xs ++ ys)) := by
  refine ei_r rfl ?_
  unfold gAddL
  rw [show lstOf cs (.lst xs) = some xs from rfl, show lstOf cs (.lst ys) = some ys from rfl, Option.bind_some, Option.bind_some, if_pos h]
theorem filter_tt {α : Type} (l : List α) : l.filter (fun _ => true) = l := List.filter_eq_self.mpr fun _ _ => rfl
noncomputable def yLoc (w : Nat) (t1 t2 : AVal) (a b s n r c d : Option AVal) : ASt := ⟨[some (.int w), some t1, some t2, a, b, s, n, r, c, d], []⟩
theorem sums_eval {w : Nat} {t1 t2 : AVal} {A B : Tb} {n r c d s : Option AVal} (hA : A.length ≤ 4) (hB : B.length ≤ 4) : pCompN [Str.ofString "word", Str.ofString "table", Str.ofString "more"] [] (fun st => ((bin2 gAdd (pB (fun1 listA) (consF (ldv 3) nilF) nilF) (pB (fun1 listA) (consF (ldv 4) nilF) nilF)) st).bind itemsL) 1 [3, 4] (.dct []) (tgName 0) (fun _ => some true) (emitD (ldv 0) (bin2 gAdd (pM isDct getA (ldv 1) (consF (ldv 0) (consF (kI 0) nilF))) (pM isDct getA (ldv 2) (consF (ldv 0) (consF (kI 0) nilF))))) (yLoc w t1 t2 (some (.dct A)) (some (.dct B)) s n r c d) =
    some (.dct (sumsL A B)) := by
  have hkA := keys_len A
  have hkB := keys_len B
  rw [pcomp_d (enc := AVal.int) (Pr := fun _ => true) (k := fun y => y) (v := fun y => tg A y + tg B y) (R := fun st => ∃ t, st = ⟨[t, some (.dct A), some (.dct B)], []⟩) (keys A ++ keys B) ?_ ⟨none, rfl⟩ ?_ (by rw [List.length_append]; omega)]
  · rw [filter_tt]; rfl
  · show (bin2 gAdd _ _ _).bind itemsL = _
    rw [bin_of (pB_1 (a := .dct A) rfl (list_ok (by omega))) (pB_1 (a := .dct B) rfl (list_ok (by omega))) (add_L (by rw [List.length_map, List.length_map]; omega)), Option.bind_some, itemsL_ok (by rw [List.length_append, List.length_map, List.length_map]; omega), List.map_append]
  · rintro y _ st ⟨t, rfl⟩
    exact ⟨_, rfl, rfl, ⟨_, rfl⟩, fun _ => ⟨rfl, rfl⟩⟩
theorem cnts_eval {w : Nat} {t1 t2 : AVal} {S : Tb} {a b n r c d : Option AVal} (hS : S.length ≤ 8) (hn : (keys S).Nodup) : pCompN [Str.ofString "word", Str.ofString "sums"] [] (fun st => ((ldv 5) st).bind itemsD) 1 [5] (.lst []) (tgName 0) (fun _ => some true) (emitL (bin2 gItem (ldv 1) (ldv 0))) (yLoc w t1 t2 a b (some (.dct S)) n r c d) =
    some (.lst ((S.map (·.2)).map .int)) := by
  have ef : (S.flatMap fun p => [AVal.int p.2]) = (S.map (·.2)).map .int := by rw [flat1, List.map_map]; rfl
  rw [← ef]
  refine pcomp_a (enc := fun p : Int × Int => AVal.int p.1) (R := fun st => ∃ t, st = ⟨[t, some (.dct S)], []⟩) S (itemsD_ok (by omega)) ⟨none, rfl⟩ ?_ (by rw [ef, List.length_map, List.length_map]; omega)
  rintro p hp st ⟨t, rfl⟩
  exact ⟨_, rfl, rfl, ⟨_, rfl⟩, fun acc ha => ⟨_, emit_ok (bin_of (a := .dct S) (b := .int p.1) rfl rfl (item_D (dget_mem hn (x := p.1) (v := p.2) hp))) acc ha, ⟨_, rfl⟩⟩⟩
theorem cut_eval {w : Nat} {t1 t2 : AVal} {S : Tb} {c : Int} {a b n r d : Option AVal} (hS : S.length ≤ 8) (hn : (keys S).Nodup) : pCompN [Str.ofString "word", Str.ofString "sums", Str.ofString "cut"] [] (fun st => ((ldv 5) st).bind itemsD) 1 [5, 8] (.dct []) (tgName 0) (tcmp gGt (bin2 gItem (ldv 1) (ldv 0)) (ldv 2)) (emitD (ldv 0) (bin2 gSub (bin2 gItem (ldv 1) (ldv 0)) (ldv 2))) (yLoc w t1 t2 a b (some (.dct S)) n r (some (.int c)) d) =
    some (.dct (cutT c S)) := by
  rw [pcomp_d (enc := fun p : Int × Int => AVal.int p.1) (Pr := fun p => decide (c < p.2)) (k := fun p => p.1) (v := fun p => p.2 - c) (R := fun st => ∃ t, st = ⟨[t, some (.dct S), some (.int c)], []⟩) S (itemsD_ok (by omega)) ⟨none, rfl⟩ ?_ (by omega)]
  · rw [fold_fresh _ _ _ _ (List.Nodup.sublist (List.Sublist.map _ (List.filter_sublist)) hn) (by simp [keys])]; rfl
  · rintro p hp st ⟨t, rfl⟩
    have e : bin2 gItem (ldv 1) (ldv 0) ⟨[some (.int p.1), some (.dct S), some (.int c)], []⟩ = some (.int p.2) := bin_of (a := .dct S) (b := .int p.1) rfl rfl (item_D (dget_mem hn (x := p.1) (v := p.2) hp))
    exact ⟨_, rfl, tc_of e rfl rfl, ⟨_, rfl⟩, fun _ => ⟨rfl, bin_of e rfl rfl⟩⟩
theorem row_cut {w : Nat} {cs row : List Int} (R : Row w cs row) (hp : ∀ v ∈ cs, 1 ≤ v) (hl : cs.length < 60) (hw3 : w ≤ 3) : ∃ c, (∀ t1 t2 a b s n c0 d, pIf (tcmp gGt (pB (fun1 lenA) (consF (ldv 7) nilF) nilF) (ldv 0)) (bin2 gItem (ldv 7) (ldv 0)) (kI 0) (yLoc w t1 t2 a b s n (some (.lst (row.map .int))) c0 d) = some (.int c)) ∧ 0 ≤ c ∧ gtN c cs ≤ w ∧ (c = 0 ∨ w + 1 ≤ geN c cs) := by
  have hml : (row.map AVal.int).length = row.length := List.length_map ..
  have hrl : row.length < 60 := by
    by_cases h : w < cs.length
    · have := (R.many h).1; omega
    · have := R.few (by omega); omega
  have hc : ∀ t1 t2 a b s n c0 d, tcmp gGt (pB (fun1 lenA) (consF (ldv 7) nilF) nilF) (ldv 0) (yLoc w t1 t2 a b s n (some (.lst (row.map .int))) c0 d) = some (decide (w < row.length)) := by
    intro t1 t2 a b s n c0 d
    refine tc_of (pB_1 rfl (len_lst (xs := row.map .int) rfl (by omega))) rfl ?_
    show some (AVal.bool (decide ((w : Int) < ((row.map AVal.int).length : Int)))) = _
    rw [hml]
    exact congrArg (fun b => some (AVal.bool b)) (decide_eq_decide.mpr (by omega))
  by_cases h : w < cs.length
  · obtain ⟨r1, c, r2, r3, r4⟩ := R.many h
    rw [decide_eq_true (by omega)] at hc
    refine ⟨c, fun t1 t2 a b s n c0 d => ?_, ?_, r3, .inr r4⟩
    · unfold pIf; rw [hc]
      exact bin_of (a := .lst (row.map .int)) (b := .int ((w : Nat) : Int)) rfl rfl (item_L (xs := row.map .int) rfl (by omega) (by rw [List.getElem?_map, r2]; rfl))
    apply Classical.byContradiction
    intro hno
    have : gtN c cs = cs.length := by
      unfold gtN
      rw [List.filter_eq_self.mpr fun v hv => decide_eq_true (by have := hp v hv; omega)]
    omega
  · have := R.few (by omega)
    rw [decide_eq_false (by omega)] at hc
    exact ⟨0, fun t1 t2 a b s n c0 d => by unfold pIf; rw [hc], Int.le_refl _, by have : gtN 0 cs ≤ cs.length := List.length_filter_le ..; omega, .inl rfl⟩
theorem rd_bd {w : Nat} {T : Tb} {f : Int → Int} {N e : Int} (B : Bd w T f N e) : Bd w (rdT T) f N e := B.perm (rdT_perm B.nd).symm
theorem due_eval {w : Nat} {cs : List Int} {c : Int} {t1 t2 : AVal} {a b s r d e : Option AVal} (hw3 : w ≤ 3) (hl : cs.length < 50) (hd : (isort (List.replicate (w + 1) 0 ++ cs))[cs.length]? = some c) :
    bin2 gItem (pB (fun1 sortedA) (consF (bin2 gAdd (bin2 gMul (pLst (consF (kI 0) nilF)) (bin2 gAdd (ldv 0) (kI 1))) (ldv 6)) nilF) nilF) (pB (fun1 lenA) (consF (ldv 6) nilF) nilF) (yLoc w t1 t2 a b s (some (.lst (cs.map .int))) r d e) = some (.int c) := by
  have hml : (cs.map AVal.int).length = cs.length := List.length_map ..
  have hrl : ((List.replicate (w + 1) (0 : Int) ++ cs).map AVal.int).length = w + 1 + cs.length := by rw [List.length_map, List.length_append, List.length_replicate]
  have h1 : bin2 gMul (pLst (consF (kI 0) nilF)) (bin2 gAdd (ldv 0) (kI 1)) (yLoc w t1 t2 a b s (some (.lst (cs.map .int))) r d e) = some (.lst ((List.replicate (w + 1) (0 : Int)).map .int)) := by
    refine bin_of (a := .lst [.int 0]) (b := .int ((w : Int) + 1)) rfl rfl (ei_r rfl ?_)
    unfold gMulL
    rw [show lstOf (yLoc w t1 t2 a b s (some (.lst (cs.map .int))) r d e).cells (.lst [.int 0]) = some [.int 0] from rfl, Option.bind_some, int_q, Option.bind_some, show ([AVal.int 0] : List AVal).head? = some (.int 0) from rfl, Option.bind_some, if_pos ⟨rfl, by omega, by omega⟩, show ((w : Int) + 1).toNat = w + 1 by omega, List.map_replicate]
  have h2 : bin2 gAdd (bin2 gMul (pLst (consF (kI 0) nilF)) (bin2 gAdd (ldv 0) (kI 1))) (ldv 6) (yLoc w t1 t2 a b s (some (.lst (cs.map .int))) r d e) = some (.lst ((List.replicate (w + 1) (0 : Int) ++ cs).map .int)) := by
    rw [bin_of h1 (b := .lst (cs.map .int)) rfl (add_L (by rw [List.length_map, List.length_replicate]; omega)), List.map_append]
  have h3 : pB (fun1 sortedA) (consF (bin2 gAdd (bin2 gMul (pLst (consF (kI 0) nilF)) (bin2 gAdd (ldv 0) (kI 1))) (ldv 6)) nilF) nilF (yLoc w t1 t2 a b s (some (.lst (cs.map .int))) r d e) = some (.lst ((isort (List.replicate (w + 1) (0 : Int) ++ cs)).map .int)) := by
    refine pB_1 h2 ?_
    show sortedA [] (.lst _) = _
    unfold sortedA
    rw [show lstOf ([] : List ACell) (.lst ((List.replicate (w + 1) (0 : Int) ++ cs).map .int)) = some ((List.replicate (w + 1) (0 : Int) ++ cs).map .int) from rfl]
    dsimp only
    rw [ints_ok, Option.bind_some, if_pos (by rw [List.length_map] at hrl; omega)]
  refine bin_of h3 (b := .int ((cs.length : Nat) : Int)) ((pB_1 (a := .lst (cs.map .int)) rfl (len_lst (xs := cs.map .int) rfl (by omega))).trans (by rw [hml])) (item_L (xs := (isort (List.replicate (w + 1) (0 : Int) ++ cs)).map .int) rfl (by omega) (by rw [List.getElem?_map, hd]; rfl))
theorem laid_run {w : Nat} (hw3 : w ≤ 3) {x1 x2 x3 : List Nat} {A B S : Tb} {cs row : List Int} {c : Int} (hA : A.length ≤ 4) (hB : B.length ≤ 4) (hS : S.length ≤ 8) (hn : (keys S).Nodup) (e0 : sumsL A B = S) (e1 : S.map (·.2) = cs) (q1 : dLawRead [] [.bytes x1] = some (.dct A, [])) (q2 : dLawRead [] [.bytes x2] = some (.dct B, []))
    (q3 : dNlargest [] [.int ((w : Int) + 1), .lst (cs.map .int)] = some (.lst (row.map .int), [])) (q4 : ∀ t1 t2 a b s n c0 d, pIf (tcmp gGt (pB (fun1 lenA) (consF (ldv 7) nilF) nilF) (ldv 0)) (bin2 gItem (ldv 7) (ldv 0)) (kI 0) (yLoc w t1 t2 a b s n (some (.lst (row.map .int))) c0 d) = some (.int c))
    (q5 : (isort (List.replicate (w + 1) 0 ++ cs))[cs.length]? = some c) (q6 : dLawText [] [.dct (cutT c S)] = some (.bytes x3, [])) : dLawLaid [] [.int w, .bytes x1, .bytes x2] = some (.tup [.bytes x3, .bool true], []) := by
  have hcl : cs.length = S.length := by rw [← e1]; exact List.length_map ..
  have hu : sUnp 3 4 (pTup (consF (pCall 169 dLawRead (kV (.ref 169)) (consF (ldv 1) nilF) nilF) (consF (pCall 169 dLawRead (kV (.ref 169)) (consF (ldv 2) nilF) nilF) nilF))) (yLoc w (.bytes x1) (.bytes x2) none none none none none none none) = some (.next, yLoc w (.bytes x1) (.bytes x2) (some (.dct A)) (some (.dct B)) none none none none none) :=
    unp_of (a := .tup [.dct A, .dct B]) (tup_of (cons_of (pcall_of (as := [.bytes x1]) rfl rfl rfl rfl q1) (cons_of (pcall_of (as := [.bytes x2]) rfl rfl rfl rfl q2) rfl)) (show 2 < 1000 by decide)) rfl
  have hs := sums_eval (w := w) (t1 := .bytes x1) (t2 := .bytes x2) (n := none) (r := none) (c := none) (d := none) (s := none) hA hB
  rw [e0] at hs
  have hc := cnts_eval (w := w) (t1 := .bytes x1) (t2 := .bytes x2) (a := some (.dct A)) (b := some (.dct B)) (n := none) (r := none) (c := none) (d := none) hS hn
  rw [e1] at hc
  have hun : underAllB 0 ([.int ((w : Int) + 1), .lst (cs.map .int)] ++ []) = true := by
    show (underAllB 0 (cs.map .int) && true) = true
    rw [under_ints]; rfl
  have hr : pCall 62 dNlargest (kV (.ref 62)) (consF (bin2 gAdd (ldv 0) (kI 1)) (consF (ldv 6) nilF)) nilF (yLoc w (.bytes x1) (.bytes x2) (some (.dct A)) (some (.dct B)) (some (.dct S)) (some (.lst (cs.map .int))) none none none) = some (.lst (row.map .int)) :=
    pcall_of (as := [.int ((w : Int) + 1), .lst (cs.map .int)]) rfl rfl rfl hun q3
  have hdue := due_eval (t1 := .bytes x1) (t2 := .bytes x2) (a := some (.dct A)) (b := some (.dct B)) (s := some (.dct S)) (r := some (.lst (row.map .int))) (d := some (.int c)) (e := none) hw3 (by omega) q5
  have hcut := cut_eval (w := w) (t1 := .bytes x1) (t2 := .bytes x2) (a := some (.dct A)) (b := some (.dct B)) (n := some (.lst (cs.map .int))) (r := some (.lst (row.map .int))) (d := some (.int c)) (c := c) hS hn
  have hq : bin2 gEq (ldv 8) (ldv 9) (yLoc w (.bytes x1) (.bytes x2) (some (.dct A)) (some (.dct B)) (some (.dct S)) (some (.lst (cs.map .int))) (some (.lst (row.map .int))) (some (.int c)) (some (.int c))) = some (.bool true) := by
    refine bin_of (a := .int c) (b := .int c) rfl rfl (show some (AVal.bool (c == c)) = _ from ?_)
    rw [beq_iff_eq.mpr rfl]
  have hfin : sRet (pTup (consF (pCall 162 dLawText (kV (.ref 162)) (consF (pCompN [Str.ofString "word", Str.ofString "sums", Str.ofString "cut"] [] (fun st => ((ldv 5) st).bind itemsD) 1 [5, 8] (.dct []) (tgName 0) (tcmp gGt (bin2 gItem (ldv 1) (ldv 0)) (ldv 2)) (emitD (ldv 0) (bin2 gSub (bin2 gItem (ldv 1) (ldv 0)) (ldv 2)))) nilF) nilF) (consF (bin2 gEq (ldv 8) (ldv 9)) nilF)))
      (yLoc w (.bytes x1) (.bytes x2) (some (.dct A)) (some (.dct B)) (some (.dct S)) (some (.lst (cs.map .int))) (some (.lst (row.map .int))) (some (.int c)) (some (.int c))) = some (.ret (.tup [.bytes x3, .bool true]), yLoc w (.bytes x1) (.bytes x2) (some (.dct A)) (some (.dct B)) (some (.dct S)) (some (.lst (cs.map .int))) (some (.lst (row.map .int))) (some (.int c)) (some (.int c))) :=
    ret_of (tup_of (cons_of (pcall_of (as := [.dct (cutT c S)]) rfl (cons_of hcut rfl) rfl rfl q6) (cons_of hq rfl)) (show 2 < 1000 by decide))
  exact run_of rfl (seq_n hu (seq_n (as_of hs) (seq_n (as_of hc) (seq_n (as_of hr) (seq_n (as_of (q4 ..)) (seq_n (as_of hdue) (seq_r hfin))))))) rfl
theorem laid_eval {w : Nat} (hw : 1 ≤ w) (hw3 : w ≤ 3) {T1 T2 : Tb} {f1 f2 : Int → Int} {N1 N2 e1 e2 : Int} (B1 : Bd w T1 f1 N1 e1) (B2 : Bd w T2 f2 N2 e2) (W1 : Wf f1) (W2 : Wf f2) (W : Wf fun x => f1 x + f2 x) :
    ∃ T e, dLawLaid [] [.int w, txtT T1, txtT T2] = some (.tup [txtT T, .bool true], []) ∧ Bd w T (fun x => f1 x + f2 x) (N1 + N2) e := by
  have BA := rd_bd B1
  have BB := rd_bd B2
  have hA := BA.len
  have hB := BB.len
  obtain ⟨h1, h2, h3, h4, _⟩ := sums_ok BA.nd BB.nd
  have hpos := sums_pos BA BB
  have hcl : ((sumsL (rdT T1) (rdT T2)).map (·.2)).length = (sumsL (rdT T1) (rdT T2)).length := List.length_map ..
  obtain ⟨row, r1, R⟩ := nl_eval w hw hw3 ((sumsL (rdT T1) (rdT T2)).map (·.2)) (by omega)
  have hp : ∀ v ∈ (sumsL (rdT T1) (rdT T2)).map (·.2), 1 ≤ v := fun v hv => by
    obtain ⟨p, hp, rfl⟩ := List.mem_map.mp hv
    exact hpos p hp
  obtain ⟨c, c1, c2, c3, c4⟩ := row_cut R hp (by omega) hw3
  have hd := due_ok c2 c3 c4 hp
  have BT := Bd.laid BA BB c2 c3 c4
  have ST := BT.sm hw3 W
  exact ⟨_, _, laid_run hw3 (by omega) (by omega) (by omega) h1 rfl rfl (read_eval T1 (B1.sm hw3 W1)) (read_eval T2 (B2.sm hw3 W2)) r1 c1 hd (text_eval _ ST), BT⟩
end Mine

end
section
set_option maxRecDepth 100000

namespace Mine
/-! law: its parts -/
theorem slice_ok {f g : ASt → Option AVal} {st : ASt} {xs : List AVal} {n : Nat} (h : f st = some (.lst xs)) (k : g st = some (.int (n : Int))) (hl : xs.length < 1000) : pSlice f g st = some (.lst (xs.take n)) := by
  unfold pSlice
  rw [h, Option.bind_some, k, Option.bind_some, show (AVal.lst xs).lst? = some xs from rfl, Option.bind_some, int_q, Option.bind_some, if_pos ⟨hl, Int.natCast_nonneg _⟩, Int.toNat_natCast]
theorem mul_ok {cs : List ACell} {a b : Int} (h : a.natAbs < 1000) : gMul cs (.int a) (.int b) = some (.int (a * b)) := by
  refine ei_l ?_
  show (if a.natAbs < 2 ^ 62 then some (AVal.int (a * b)) else none) = _
  rw [if_pos (by rw [two62]; omega)]
theorem item_t0 {cs : List ACell} {a b : AVal} : gItem cs (.tup [a, b]) (.int 0) = some a := rfl
noncomputable def gSt (a0 a1 a2 a3 a4 a5 a6 a7 a8 a9 a10 a11 a12 a13 a14 : Option AVal) : ASt := ⟨[a0, a1, a2, a3, a4, a5, a6, a7, a8, a9, a10, a11, a12, a13, a14], []⟩
noncomputable def fstL : List Int → Int
  | [] => 0
  | n :: _ => n
noncomputable def wid (ns : List Int) : Nat := ((fstL ns + 1) % 3 + 1).toNat
theorem wid_ok (ns : List Int) : ((wid ns : Nat) : Int) = (fstL ns + 1) % 3 + 1 ∧ 1 ≤ wid ns ∧ wid ns ≤ 3 := by unfold wid; omega
noncomputable def tailN : List Int := [1, 10, 1, 17, 2, 10, 3, 13, 4, 22, 1, 11]
noncomputable def nums (ns : List Int) : List Int := ns.take 16 ++ tailN
noncomputable def wd (x : Int) : Int := 700 * (x % 8)
noncomputable def wrds (ns : List Int) : List Int := (nums ns).map wd
noncomputable def str (ns : List Int) (k : Int) : List Int := ((nums ns).filter fun x => x / 8 % 3 == k).map wd
theorem nums_len (ns : List Int) : (nums ns).length ≤ 28 := by
  unfold nums
  rw [List.length_append, List.length_take, show tailN.length = 12 from rfl]; omega
theorem wrds_len (ns : List Int) : (wrds ns).length ≤ 28 := by unfold wrds; rw [List.length_map]; exact nums_len ns
theorem str_len (ns : List Int) (k : Int) : (str ns k).length ≤ 28 := by
  have := List.length_filter_le (fun x : Int => x / 8 % 3 == k) (nums ns)
  have := nums_len ns
  unfold str; rw [List.length_map]; omega
theorem wd_ok (x : Int) : 0 ≤ wd x ∧ wd x < 1000000 := by unfold wd; omega
theorem str_ok (ns : List Int) (k : Int) : ∀ y ∈ str ns k, 0 ≤ y ∧ y < 1000000 := fun y hy => by
  obtain ⟨x, _, rfl⟩ := List.mem_map.mp hy
  exact wd_ok x
theorem first_eval (ns : List Int) (hl : ns.length ≤ 63) : bin2 gItem (bin2 gAdd (pSlice (ldv 0) (kI 1)) (pLst (consF (kI 0) nilF))) (kI 0) (gSt (some (.lst (ns.map .int))) none none none none none none none none none none none none none none) = some (.int (fstL ns)) := by
  refine bin_of (b := .int ((0 : Nat) : Int)) (bin_of (slice_ok (n := 1) (xs := ns.map .int) rfl rfl (by rw [List.length_map]; omega)) (b := .lst [.int 0]) rfl (add_L (by rw [List.length_take, List.length_singleton]; omega))) rfl (item_L rfl (by decide) ?_)
  cases ns <;> rfl
theorem nums_eval (ns : List Int) (hl : ns.length ≤ 63) {a1 a2 : Option AVal} : bin2 gAdd (pSlice (ldv 0) (kI 16)) (pLst (consF (kI 1) (consF (kI 10) (consF (kI 1) (consF (kI 17) (consF (kI 2) (consF (kI 10) (consF (kI 3) (consF (kI 13) (consF (kI 4) (consF (kI 22) (consF (kI 1) (consF (kI 11) nilF))))))))))))) (gSt (some (.lst (ns.map .int))) a1 a2 none none none none none none none none none none none none) = some (.lst ((nums ns).map .int)) := by
  have e : (nums ns).map AVal.int = (ns.map AVal.int).take 16 ++ tailN.map .int := by unfold nums; rw [List.map_append, List.map_take]
  rw [e]
  exact bin_of (slice_ok (n := 16) (xs := ns.map .int) rfl rfl (by rw [List.length_map]; omega)) (b := .lst (tailN.map .int)) rfl (add_L (by rw [List.length_take, show (tailN.map AVal.int).length = 12 from rfl]; omega))
theorem wd_eval {st : ASt} {x : Int} (h : ldv 0 st = some (.int x)) : bin2 gMul (kI 700) (bin2 gMod (ldv 0) (kI 8)) st = some (.int (wd x)) :=
  bin_of (a := .int 700) rfl (b := .int (x % 8)) (bin_of h (b := .int 8) rfl rfl) (mul_ok (by decide))
theorem words_eval (ns : List Int) {a0 a1 a2 : Option AVal} : pCompN [Str.ofString "x"] [] (fun st => ((ldv 3) st).bind itemsL) 1 [] (.lst []) (tgName 0) (fun _ => some true) (emitL (bin2 gMul (kI 700) (bin2 gMod (ldv 0) (kI 8)))) (gSt a0 a1 a2 (some (.lst ((nums ns).map .int))) none none none none none none none none none none none) = some (.lst ((wrds ns).map .int)) := by
  have hl := nums_len ns
  have ef : ((nums ns).flatMap fun x => [AVal.int (wd x)]) = (wrds ns).map .int := by unfold wrds; rw [flat1, List.map_map]; rfl
  rw [← ef]
  refine pcomp_a (enc := AVal.int) (R := fun st => ∃ t, st = ⟨[t], []⟩) (nums ns) (itemsL_ok (by rw [List.length_map]; omega)) ⟨none, rfl⟩ ?_ (by rw [ef, List.length_map]; have := wrds_len ns; omega)
  rintro x _ st ⟨t, rfl⟩
  exact ⟨_, rfl, rfl, ⟨_, rfl⟩, fun acc ha => ⟨_, emit_ok (wd_eval rfl) acc ha, ⟨_, rfl⟩⟩⟩
noncomputable abbrev three : List Int := [0, 1, 2]
theorem str_eval (ns : List Int) (k : Int) : pCompN [Str.ofString "x", Str.ofString "k"] [] (fun st => ((ldv 1) st).bind itemsL) 1 [0] (.lst []) (tgName 0) (tcmp gEq (bin2 gMod (bin2 gDiv (ldv 0) (kI 8)) (kI 3)) (ldv 1)) (emitL (bin2 gMul (kI 700) (bin2 gMod (ldv 0) (kI 8)))) ⟨[some (.int k), some (.lst ((nums ns).map .int))], []⟩ = some (.lst ((str ns k).map .int)) := by
  have hl := nums_len ns
  have hsl := str_len ns k
  have ef : (((nums ns).filter fun x => x / 8 % 3 == k).flatMap fun x => [AVal.int (wd x)]) = (str ns k).map .int := by unfold str; rw [flat1, List.map_map]; rfl
  rw [← ef]
  refine pcomp_l (enc := AVal.int) (Pr := fun x => x / 8 % 3 == k) (R := fun st => ∃ t, st = ⟨[t, some (.int k)], []⟩) (nums ns) (itemsL_ok (by rw [List.length_map]; omega)) ⟨none, rfl⟩ ?_ (by rw [ef, List.length_map]; omega)
  rintro x _ st ⟨t, rfl⟩
  exact ⟨_, rfl, rfl, ⟨_, rfl⟩, fun _ acc ha => ⟨_, emit_ok (wd_eval rfl) acc ha, ⟨_, rfl⟩⟩⟩
theorem strs_eval (ns : List Int) {a0 a1 a2 a4 : Option AVal} : pCompN [Str.ofString "k", Str.ofString "numbers"] [Str.ofString "k"] (iRange (kI 3)) 1 [3] (.lst []) (tgName 0) (fun _ => some true) (emitL (pCompN [Str.ofString "x", Str.ofString "k"] [] (fun st => ((ldv 1) st).bind itemsL) 1 [0] (.lst []) (tgName 0) (tcmp gEq (bin2 gMod (bin2 gDiv (ldv 0) (kI 8)) (kI 3)) (ldv 1)) (emitL (bin2 gMul (kI 700) (bin2 gMod (ldv 0) (kI 8)))))) (gSt a0 a1 a2 (some (.lst ((nums ns).map .int))) a4 none none none none none none none none none none) =
    some (.lst (three.map fun k => .lst ((str ns k).map .int))) := by
  rw [← flat1 (fun k => AVal.lst ((str ns k).map .int)) three]
  refine pcomp_a (enc := AVal.int) (R := fun st => ∃ t, st = ⟨[t, some (.lst ((nums ns).map .int))], []⟩) three rfl ⟨none, rfl⟩ ?_ (by rw [flat1]; exact (show 3 ≤ 1000 by decide))
  rintro k _ st ⟨t, rfl⟩
  exact ⟨_, rfl, rfl, ⟨_, rfl⟩, fun acc ha => ⟨_, emit_ok (str_eval ns k) acc ha, ⟨_, rfl⟩⟩⟩
theorem told_eval (w : Nat) (ns : List Int) (Tf : Int → Tb) (hT : ∀ k, dLawStream [] [.int w, .lst ((str ns k).map .int)] = some (.tup [txtT (Tf k), .bool true], [])) {a0 a1 a3 a4 : Option AVal} : pCompN [Str.ofString "stream", Str.ofString "width"] [] (fun st => ((ldv 5) st).bind itemsL) 1 [2] (.lst []) (tgName 0) (fun _ => some true) (emitL (pCall 191 dLawStream (kV (.ref 191)) (consF (ldv 1) (consF (ldv 0) nilF)) nilF)) (gSt a0 a1 (some (.int w)) a3 a4 (some (.lst (three.map fun k => .lst ((str ns k).map .int)))) none none none none none none none none none) =
    some (.lst (three.map fun k => .tup [txtT (Tf k), .bool true])) := by
  rw [← flat1 (fun k => AVal.tup [txtT (Tf k), .bool true]) three]
  refine pcomp_a (enc := fun k => AVal.lst ((str ns k).map .int)) (R := fun st => ∃ t, st = ⟨[t, some (.int w)], []⟩) three (itemsL_ok (xs := three.map fun k => AVal.lst ((str ns k).map .int)) (show 3 < 1000 by decide)) ⟨none, rfl⟩ ?_ (by rw [flat1]; exact (show 3 ≤ 1000 by decide))
  rintro k _ st ⟨t, rfl⟩
  refine ⟨_, rfl, rfl, ⟨_, rfl⟩, fun acc ha => ⟨_, emit_ok (pcall_of (as := [.int w, .lst ((str ns k).map .int)]) rfl rfl rfl ?_ (hT k)) acc ha, ⟨_, rfl⟩⟩⟩
  show (underAllB 0 ((str ns k).map .int) && true) = true
  rw [under_ints]; rfl
noncomputable def jx (f k : Int) : Int := (f / 3 + k) % 3
theorem texts_eval (f : Int) (Tf : Int → Tb) {a0 a2 a3 a4 a5 : Option AVal} : pCompN [Str.ofString "k", Str.ofString "told", Str.ofString "first"] [] (iRange (kI 3)) 1 [6, 1] (.lst []) (tgName 0) (fun _ => some true) (emitL (bin2 gItem (bin2 gItem (ldv 1) (bin2 gMod (bin2 gAdd (bin2 gDiv (ldv 2) (kI 3)) (ldv 0)) (kI 3))) (kI 0))) (gSt a0 (some (.int f)) a2 a3 a4 a5 (some (.lst (three.map fun k => .tup [txtT (Tf k), .bool true]))) none none none none none none none none) =
    some (.lst (three.map fun k => txtT (Tf (jx f k)))) := by
  rw [← flat1 (fun k => txtT (Tf (jx f k))) three]
  refine pcomp_a (enc := AVal.int) (R := fun st => ∃ t, st = ⟨[t, some (.lst (three.map fun k => .tup [txtT (Tf k), .bool true])), some (.int f)], []⟩) three rfl ⟨none, rfl⟩ ?_ (by rw [flat1]; exact (show 3 ≤ 1000 by decide))
  rintro k _ st ⟨t, rfl⟩
  refine ⟨_, rfl, rfl, ⟨_, rfl⟩, fun acc ha => ⟨_, emit_ok ?_ acc ha, ⟨_, rfl⟩⟩⟩
  have hj : jx f k = 0 ∨ jx f k = 1 ∨ jx f k = 2 := by unfold jx; omega
  refine bin_of (a := .tup [txtT (Tf (jx f k)), .bool true]) (b := .int 0) (bin_of (a := .lst (three.map fun k => .tup [txtT (Tf k), .bool true])) (b := .int (jx f k)) rfl rfl ?_) rfl item_t0
  rcases hj with e | e | e
  · rw [e]; exact item_L (k := 0) rfl (by decide) rfl
  · rw [e]; exact item_L (k := 1) rfl (by decide) rfl
  · rw [e]; exact item_L (k := 2) rfl (by decide) rfl
theorem cnt_app (y : Int) : ∀ l l' : List Int, cnt y (l ++ l') = cnt y l + cnt y l'
  | [], l' => (Int.zero_add _).symm
  | x :: l, l' => by rw [List.cons_append, cnt, cnt, cnt_app y l l', Int.add_assoc]
theorem cnt_count (y : Int) : ∀ l : List Int, ((l.count y : Nat) : Int) = cnt y l
  | [] => rfl
  | x :: l => by
    rw [List.count_cons, cnt, Int.natCast_add, cnt_count y l]
    by_cases h : y = x
    · rw [if_pos h, if_pos (beq_iff_eq.mpr h.symm)]; omega
    · rw [if_neg h, if_neg fun e => h (beq_iff_eq.mp e).symm]; omega
theorem split3 (l : List Int) (y : Int) : cnt y ((l.filter fun x => x / 8 % 3 == 0).map wd) + cnt y ((l.filter fun x => x / 8 % 3 == 1).map wd) + cnt y ((l.filter fun x => x / 8 % 3 == 2).map wd) = cnt y (l.map wd) ∧
    ((l.filter fun x => x / 8 % 3 == 0).map wd).length + ((l.filter fun x => x / 8 % 3 == 1).map wd).length + ((l.filter fun x => x / 8 % 3 == 2).map wd).length = (l.map wd).length := by
  induction l with
  | nil => exact ⟨rfl, rfl⟩
  | cons x l ih =>
    have hx : x / 8 % 3 = 0 ∨ x / 8 % 3 = 1 ∨ x / 8 % 3 = 2 := by omega
    obtain ⟨i1, i2⟩ := ih
    rw [List.filter_cons, List.filter_cons, List.filter_cons]
    rcases hx with e | e | e
    · rw [e, if_pos (show (((0 : Int) == 0) = true) from rfl), if_neg (show ¬ (((0 : Int) == 1) = true) by decide), if_neg (show ¬ (((0 : Int) == 2) = true) by decide), List.map_cons, List.map_cons, cnt, cnt, List.length_cons, List.length_cons]; omega
    · rw [e, if_neg (show ¬ (((1 : Int) == 0) = true) by decide), if_pos (show (((1 : Int) == 1) = true) from rfl), if_neg (show ¬ (((1 : Int) == 2) = true) by decide), List.map_cons, List.map_cons, cnt, cnt, List.length_cons, List.length_cons]; omega
    · rw [e, if_neg (show ¬ (((2 : Int) == 0) = true) by decide), if_neg (show ¬ (((2 : Int) == 1) = true) by decide), if_pos (show (((2 : Int) == 2) = true) from rfl), List.map_cons, List.map_cons, cnt, cnt, List.length_cons, List.length_cons]; omega
theorem jx_of {f k r : Int} (h : f / 3 % 3 = r) : jx f k = (r + k) % 3 := by
  unfold jx; rw [← h, Int.emod_add_emod]
theorem rot3 (F : Int → Int) (f : Int) : F (jx f 0) + F (jx f 1) + F (jx f 2) = F 0 + F 1 + F 2 := by
  have hr : ∀ g : Int, g % 3 = 0 ∨ g % 3 = 1 ∨ g % 3 = 2 := fun g => by omega
  rcases hr (f / 3) with h | h | h
  · rw [jx_of h, jx_of h, jx_of h]; rfl
  · rw [jx_of h, jx_of h, jx_of h]
    show F 1 + F 2 + F 0 = _
    rw [Int.add_comm (F 1 + F 2), Int.add_assoc]
  · rw [jx_of h, jx_of h, jx_of h]
    show F 2 + F 0 + F 1 = _
    rw [Int.add_assoc, Int.add_comm]
end Mine

end
section
set_option maxRecDepth 100000

namespace Mine
/-! law -/
theorem wf_cnt {l : List Int} (h : ∀ y ∈ l, 0 ≤ y ∧ y < 1000000) (hl : l.length < 1000) : Wf fun y => cnt y l :=
  ⟨fun y => by have := cnt_nn y l; show cnt y l < _; omega, fun y hy => h y (cnt_mem hy)⟩
theorem wf_2 {l l' : List Int} (h : ∀ y ∈ l, 0 ≤ y ∧ y < 1000000) (h' : ∀ y ∈ l', 0 ≤ y ∧ y < 1000000) (hl : l.length < 100) (hl' : l'.length < 100) : Wf fun y => cnt y l + cnt y l' := by
  have e : (fun y => cnt y l + cnt y l') = fun y => cnt y (l ++ l') := funext fun y => (cnt_app y l l').symm
  rw [e]
  exact wf_cnt (fun y hy => (List.mem_append.mp hy).elim (h y) (h' y)) (by rw [List.length_append]; omega)
theorem wf_3 {l l' l2 : List Int} (h : ∀ y ∈ l, 0 ≤ y ∧ y < 1000000) (h' : ∀ y ∈ l', 0 ≤ y ∧ y < 1000000) (h2 : ∀ y ∈ l2, 0 ≤ y ∧ y < 1000000) (hl : l.length < 50) (hl' : l'.length < 50) (hl2 : l2.length < 100) : Wf fun y => cnt y l + cnt y l' + cnt y l2 := by
  have e : (fun y => cnt y l + cnt y l' + cnt y l2) = fun y => cnt y (l ++ l') + cnt y l2 := funext fun y => by rw [cnt_app]
  rw [e]
  exact wf_2 (fun y hy => (List.mem_append.mp hy).elim (h y) (h' y)) h2 (by rw [List.length_append]; omega) hl2
theorem lost_eval {ws : List Int} {T : Tb} (hT : T.length ≤ 4) (hn : (keys T).Nodup) (hw : ws.length ≤ 28) {a0 a1 a2 a3 a5 a6 a7 a8 a9 a10 a11 : Option AVal} : bin2 gSub (pB (fun1 lenA) (consF (ldv 4) nilF) nilF) (pB (fun1 sumA) (consF (pCompN [Str.ofString "word", Str.ofString "table"] [] (fun st => ((ldv 12) st).bind itemsD) 1 [12] (.lst []) (tgName 0) (fun _ => some true) (emitL (bin2 gItem (ldv 1) (ldv 0)))) nilF) nilF) (gSt a0 a1 a2 a3 (some (.lst (ws.map .int))) a5 a6 a7 a8 a9 a10 a11 (some (.dct T)) none none) =
    some (.int ((ws.length : Int) - total T)) := by
  have hml : (ws.map AVal.int).length = ws.length := List.length_map ..
  have hc : pCompN [Str.ofString "word", Str.ofString "table"] [] (fun st => ((ldv 12) st).bind itemsD) 1 [12] (.lst []) (tgName 0) (fun _ => some true) (emitL (bin2 gItem (ldv 1) (ldv 0))) (gSt a0 a1 a2 a3 (some (.lst (ws.map .int))) a5 a6 a7 a8 a9 a10 a11 (some (.dct T)) none none) = some (.lst ((T.map (·.2)).map .int)) := by
    have ef : (T.flatMap fun p => [AVal.int p.2]) = (T.map (·.2)).map .int := by rw [flat1, List.map_map]; rfl
    rw [← ef]
    refine pcomp_a (enc := fun p : Int × Int => AVal.int p.1) (R := fun st => ∃ t, st = ⟨[t, some (.dct T)], []⟩) T (itemsD_ok (by omega)) ⟨none, rfl⟩ ?_ (by rw [ef, List.length_map, List.length_map]; omega)
    rintro p hp st ⟨t, rfl⟩
    exact ⟨_, rfl, rfl, ⟨_, rfl⟩, fun acc ha => ⟨_, emit_ok (bin_of (a := .dct T) (b := .int p.1) rfl rfl (item_D (dget_mem hn (x := p.1) (v := p.2) hp))) acc ha, ⟨_, rfl⟩⟩⟩
  have hs : fun1 sumA [] [.lst ((T.map (·.2)).map .int)] = some (.int (total T)) := by
    show sumA [] (.lst ((T.map (·.2)).map .int)) = _
    unfold sumA
    rw [show lstOf ([] : List ACell) (.lst ((T.map (·.2)).map .int)) = some ((T.map (·.2)).map .int) from rfl, Option.bind_some, ints_ok, Option.bind_some]; rfl
  exact bin_of ((pB_1 (a := .lst (ws.map .int)) rfl (len_lst (xs := ws.map .int) rfl (by omega))).trans (by rw [hml])) (pB_1 hc hs) rfl
theorem count_ok {ws : List Int} {x : Int} {d : Option AVal} : pM isLst countA (ldv 1) (consF (ldv 0) nilF) ⟨[some (.int x), some (.lst (ws.map .int)), d], []⟩ = some (.int (cnt x ws)) := by
  show countA [] [.lst (ws.map .int), .int x] = _
  unfold countA
  dsimp only
  rw [show lstOf ([] : List ACell) (.lst (ws.map .int)) = some (ws.map .int) from rfl, Option.bind_some, ints_ok, Option.bind_some, int_q, Option.bind_some, cnt_count]
noncomputable def lacksL (ws : List Int) (T : Tb) : List Int := (keys T ++ ws).map fun x => cnt x ws - tg T x
theorem lacks_eval {ws : List Int} {T : Tb} (hT : T.length ≤ 4) (hw : ws.length ≤ 28) {a0 a1 a2 a3 a5 a6 a7 a8 a9 a10 a11 a13 : Option AVal} : pCompN [Str.ofString "word", Str.ofString "words", Str.ofString "table"] [] (fun st => ((bin2 gAdd (pB (fun1 listA) (consF (ldv 12) nilF) nilF) (ldv 4)) st).bind itemsL) 1 [4, 12] (.lst []) (tgName 0) (fun _ => some true) (emitL (bin2 gSub (pM isLst countA (ldv 1) (consF (ldv 0) nilF)) (pM isDct getA (ldv 2) (consF (ldv 0) (consF (kI 0) nilF))))) (gSt a0 a1 a2 a3 (some (.lst (ws.map .int))) a5 a6 a7 a8 a9 a10 a11 (some (.dct T)) a13 none) =
    some (.lst ((lacksL ws T).map .int)) := by
  have hk := keys_len T
  have ef : ((keys T ++ ws).flatMap fun x => [AVal.int (cnt x ws - tg T x)]) = (lacksL ws T).map .int := by unfold lacksL; rw [flat1, List.map_map]; rfl
  rw [← ef]
  refine pcomp_a (enc := AVal.int) (R := fun st => ∃ t, st = ⟨[t, some (.lst (ws.map .int)), some (.dct T)], []⟩) (keys T ++ ws) ?_ ⟨none, rfl⟩ ?_ (by rw [ef, List.length_map]; unfold lacksL; rw [List.length_map, List.length_append]; omega)
  · show (bin2 gAdd _ _ _).bind itemsL = _
    rw [bin_of (pB_1 (a := .dct T) rfl (list_ok (by omega))) (b := .lst (ws.map .int)) rfl (add_L (by rw [List.length_map, List.length_map]; omega)), Option.bind_some, itemsL_ok (by rw [List.length_append, List.length_map, List.length_map]; omega), List.map_append]
  · rintro x _ st ⟨t, rfl⟩
    exact ⟨_, rfl, rfl, ⟨_, rfl⟩, fun acc ha => ⟨_, emit_ok (bin_of count_ok (b := .int (tg T x)) rfl rfl) acc ha, ⟨_, rfl⟩⟩⟩
theorem fold_min : ∀ (l : List Int) (a : Int), l.foldl min a ∈ a :: l
  | [], a => .head _
  | x :: l, a => by
    have h := fold_min l (min a x)
    rw [List.foldl_cons]
    rcases List.mem_cons.mp h with e | h
    · rw [e]
      by_cases hx : a ≤ x
      · rw [Int.min_eq_left hx]; exact .head _
      · rw [Int.min_eq_right (by omega)]; exact .tail _ (.head _)
    · exact .tail _ (.tail _ h)
theorem fold_max : ∀ (l : List Int) (a : Int), l.foldl max a ∈ a :: l
  | [], a => .head _
  | x :: l, a => by
    have h := fold_max l (max a x)
    rw [List.foldl_cons]
    rcases List.mem_cons.mp h with e | h
    · rw [e]
      by_cases hx : a ≤ x
      · rw [Int.max_eq_right hx]; exact .tail _ (.head _)
      · rw [Int.max_eq_left (by omega)]; exact .head _
    · exact .tail _ (.tail _ h)
theorem min_ok {l : List Int} (h : l ≠ []) : ∃ m, fun1 minA [] [.lst (l.map .int)] = some (.int m) ∧ m ∈ l := by
  cases l with
  | nil => exact absurd rfl h
  | cons x l =>
    refine ⟨l.foldl min x, ?_, fold_min l x⟩
    show minA [] (.lst ((x :: l).map .int)) = _
    unfold minA
    rw [show lstOf ([] : List ACell) (.lst ((x :: l).map .int)) = some ((x :: l).map .int) from rfl, Option.bind_some, ints_ok, Option.bind_some]; rfl
theorem max_ok {l : List Int} (h : l ≠ []) : ∃ m, fun1 maxA [] [.lst (l.map .int)] = some (.int m) ∧ m ∈ l := by
  cases l with
  | nil => exact absurd rfl h
  | cons x l =>
    refine ⟨l.foldl max x, ?_, fold_max l x⟩
    show maxA [] (.lst ((x :: l).map .int)) = _
    unfold maxA
    rw [show lstOf ([] : List ACell) (.lst ((x :: l).map .int)) = some ((x :: l).map .int) from rfl, Option.bind_some, ints_ok, Option.bind_some]; rfl
theorem check_eval {w : Nat} {ws : List Int} {T : Tb} {e : Int} (hw3 : w ≤ 3) (B : Bd w T (fun y => cnt y ws) ws.length e) (hne : ws ≠ []) {a0 a1 a3 a4 a5 a6 a7 a8 a9 a10 a11 : Option AVal} :
    tOr (tcmp gGt (pB (fun1 lenA) (consF (ldv 12) nilF) nilF) (ldv 2)) (tOr (tcmp gLt (pB (fun1 minA) (consF (ldv 14) nilF) nilF) (kI 0)) (tOr (tcmp gGt (bin2 gMul (bin2 gAdd (ldv 2) (kI 1)) (pB (fun1 maxA) (consF (ldv 14) nilF) nilF)) (ldv 13)) (fun _ => some false))) (gSt a0 a1 (some (.int w)) a3 a4 a5 a6 a7 a8 a9 a10 a11 (some (.dct T)) (some (.int ((ws.length : Int) - total T))) (some (.lst ((lacksL ws T).map .int)))) = some false := by
  have hL : lacksL ws T ≠ [] := by
    intro e0
    have := congrArg List.length e0
    unfold lacksL at this
    rw [List.length_map, List.length_append] at this
    have hl : ws.length ≠ 0 := fun h => hne (List.length_eq_zero_iff.mp h)
    have : (keys T).length + ws.length = 0 := this
    omega
  have hb : ∀ m ∈ lacksL ws T, 0 ≤ m ∧ m ≤ e := fun m hm => by
    obtain ⟨x, _, rfl⟩ := List.mem_map.mp hm
    have h1 : tg T x ≤ cnt x ws := B.lo x
    have h2 : cnt x ws ≤ tg T x + e := B.hi x
    omega
  obtain ⟨m, m1, m2⟩ := min_ok hL
  obtain ⟨M, M1, M2⟩ := max_ok hL
  have hlen := B.len
  refine or_f (tc_of (a := .int T.length) (b := .int w) (pB_1 (a := .dct T) rfl (show lenA [] (.dct T) = _ from if_pos (by omega))) rfl (show some (AVal.bool (decide ((w : Int) < (T.length : Int)))) = _ by rw [decide_eq_false (by omega)])) (or_f (tc_of (a := .int m) (b := .int 0) (pB_1 (a := .lst ((lacksL ws T).map .int)) rfl m1) rfl (show some (AVal.bool (decide (m < 0))) = _ by rw [decide_eq_false (by have := hb m m2; omega)])) (or_f (tc_of (a := .int (((w : Int) + 1) * M)) (b := .int ((ws.length : Int) - total T)) (bin_of (a := .int ((w : Int) + 1)) (b := .int M) rfl (pB_1 (a := .lst ((lacksL ws T).map .int)) rfl M1) (mul_ok (by omega))) rfl (show some (AVal.bool (decide ((ws.length : Int) - total T < ((w : Int) + 1) * M))) = _ from ?_)) rfl))
  have h1 := hb M M2
  have h2 : ((w : Int) + 1) * M ≤ ((w : Int) + 1) * e := Int.mul_le_mul_of_nonneg_left h1.2 (by omega)
  have h3 := B.tot
  rw [decide_eq_false (by omega)]
theorem rights_eval (X : Int → AVal) {a0 a1 a2 a3 a4 a5 a7 a8 a10 a12 a13 a14 : Option AVal} : pAnd (ldv 9) (pAnd (ldv 11) (bin2 gEq (pCompN [Str.ofString "text", Str.ofString "right"] [] (fun st => ((ldv 6) st).bind itemsL) 2 [] (.lst []) (tgPair 0 1) (fun _ => some true) (emitL (ldv 1))) (pLst (consF (kB true) (consF (kB true) (consF (kB true) nilF)))))) (gSt a0 a1 a2 a3 a4 a5 (some (.lst (three.map fun k => .tup [X k, .bool true]))) a7 a8 (some (.bool true)) a10 (some (.bool true)) a12 a13 a14) = some (.bool true) := by
  have hc : pCompN [Str.ofString "text", Str.ofString "right"] [] (fun st => ((ldv 6) st).bind itemsL) 2 [] (.lst []) (tgPair 0 1) (fun _ => some true) (emitL (ldv 1)) (gSt a0 a1 a2 a3 a4 a5 (some (.lst (three.map fun k => .tup [X k, .bool true]))) a7 a8 (some (.bool true)) a10 (some (.bool true)) a12 a13 a14) = some (.lst (three.flatMap fun _ => [AVal.bool true])) := by
    refine pcomp_a (enc := fun k => AVal.tup [X k, .bool true]) (R := fun st => ∃ t u, st = ⟨[t, u], []⟩) three (itemsL_ok (xs := three.map fun k => AVal.tup [X k, .bool true]) (show 3 < 1000 by decide)) ⟨none, none, rfl⟩ ?_ (show 3 ≤ 1000 by decide)
    rintro k _ st ⟨t, u, rfl⟩
    exact ⟨_, rfl, rfl, ⟨_, _, rfl⟩, fun acc ha => ⟨_, emit_ok rfl acc ha, ⟨_, _, rfl⟩⟩⟩
  show bin2 gEq _ _ _ = _
  exact bin_of hc (b := .lst [.bool true, .bool true, .bool true]) rfl (by rfl)
end Mine

end
section
set_option maxRecDepth 100000

namespace Mine
theorem txt_bytes (T : Tb) : ∃ x, txtT T = .bytes x := ⟨_, rfl⟩
theorem law_run {ns : List Int} {w : Nat} {f lost : Int} {ws : List Int} {L : List Int} {T : Tb} {two thr : List Nat} (x : Int → List Nat) (hn : ns.length ≤ 63) (hw : (w : Int) = (f + 1) % 3 + 1)
    (h1 : bin2 gItem (bin2 gAdd (pSlice (ldv 0) (kI 1)) (pLst (consF (kI 0) nilF))) (kI 0) (gSt (some (.lst (ns.map .int))) none none none none none none none none none none none none none none) = some (.int f))
    (h4 : ∀ a0 a1 a2, pCompN [Str.ofString "x"] [] (fun st => ((ldv 3) st).bind itemsL) 1 [] (.lst []) (tgName 0) (fun _ => some true) (emitL (bin2 gMul (kI 700) (bin2 gMod (ldv 0) (kI 8)))) (gSt a0 a1 a2 (some (.lst ((nums ns).map .int))) none none none none none none none none none none none) = some (.lst (ws.map .int)))
    (h6 : ∀ a0 a1 a3 a4, pCompN [Str.ofString "stream", Str.ofString "width"] [] (fun st => ((ldv 5) st).bind itemsL) 1 [2] (.lst []) (tgName 0) (fun _ => some true) (emitL (pCall 191 dLawStream (kV (.ref 191)) (consF (ldv 1) (consF (ldv 0) nilF)) nilF)) (gSt a0 a1 (some (.int w)) a3 a4 (some (.lst (three.map fun k => .lst ((str ns k).map .int)))) none none none none none none none none none) = some (.lst (three.map fun k => .tup [.bytes (x k), .bool true])))
    (h7 : ∀ a0 a2 a3 a4 a5, pCompN [Str.ofString "k", Str.ofString "told", Str.ofString "first"] [] (iRange (kI 3)) 1 [6, 1] (.lst []) (tgName 0) (fun _ => some true) (emitL (bin2 gItem (bin2 gItem (ldv 1) (bin2 gMod (bin2 gAdd (bin2 gDiv (ldv 2) (kI 3)) (ldv 0)) (kI 3))) (kI 0))) (gSt a0 (some (.int f)) a2 a3 a4 a5 (some (.lst (three.map fun k => .tup [.bytes (x k), .bool true]))) none none none none none none none none) = some (.lst (three.map fun k => .bytes (x (jx f k)))))
    (h8 : dLawLaid [] [.int w, .bytes (x (jx f 0)), .bytes (x (jx f 1))] = some (.tup [.bytes two, .bool true], [])) (h10 : dLawLaid [] [.int w, .bytes two, .bytes (x (jx f 2))] = some (.tup [.bytes thr, .bool true], [])) (h12 : dLawRead [] [.bytes thr] = some (.dct T, []))
    (h13 : ∀ a0 a1 a2 a3 a5 a6 a7 a8 a9 a10 a11, bin2 gSub (pB (fun1 lenA) (consF (ldv 4) nilF) nilF) (pB (fun1 sumA) (consF (pCompN [Str.ofString "word", Str.ofString "table"] [] (fun st => ((ldv 12) st).bind itemsD) 1 [12] (.lst []) (tgName 0) (fun _ => some true) (emitL (bin2 gItem (ldv 1) (ldv 0)))) nilF) nilF) (gSt a0 a1 a2 a3 (some (.lst (ws.map .int))) a5 a6 a7 a8 a9 a10 a11 (some (.dct T)) none none) = some (.int lost))
    (h14 : ∀ a0 a1 a2 a3 a5 a6 a7 a8 a9 a10 a11 a13, pCompN [Str.ofString "word", Str.ofString "words", Str.ofString "table"] [] (fun st => ((bin2 gAdd (pB (fun1 listA) (consF (ldv 12) nilF) nilF) (ldv 4)) st).bind itemsL) 1 [4, 12] (.lst []) (tgName 0) (fun _ => some true) (emitL (bin2 gSub (pM isLst countA (ldv 1) (consF (ldv 0) nilF)) (pM isDct getA (ldv 2) (consF (ldv 0) (consF (kI 0) nilF))))) (gSt a0 a1 a2 a3 (some (.lst (ws.map .int))) a5 a6 a7 a8 a9 a10 a11 (some (.dct T)) a13 none) = some (.lst (L.map .int)))
    (h15 : ∀ a0 a1 a3 a4 a5 a6 a7 a8 a9 a10 a11, tOr (tcmp gGt (pB (fun1 lenA) (consF (ldv 12) nilF) nilF) (ldv 2)) (tOr (tcmp gLt (pB (fun1 minA) (consF (ldv 14) nilF) nilF) (kI 0)) (tOr (tcmp gGt (bin2 gMul (bin2 gAdd (ldv 2) (kI 1)) (pB (fun1 maxA) (consF (ldv 14) nilF) nilF)) (ldv 13)) (fun _ => some false))) (gSt a0 a1 (some (.int w)) a3 a4 a5 a6 a7 a8 a9 a10 a11 (some (.dct T)) (some (.int lost)) (some (.lst (L.map .int)))) = some false) :
    dLaw [] [.lst (ns.map .int)] = some (.bool true, []) := by
  have hww : bin2 gAdd (bin2 gMod (bin2 gAdd (ldv 1) (kI 1)) (kI 3)) (kI 1) (gSt (some (.lst (ns.map .int))) (some (.int f)) none none none none none none none none none none none none none) = some (.int w) := by rw [hw]; rfl
  generalize hTX : AVal.lst (three.map fun k => .bytes (x (jx f k))) = TX at h7
  generalize hTD : AVal.lst (three.map fun k => .tup [.bytes (x k), .bool true]) = TD at h6 h7
  generalize hSR : AVal.lst (three.map fun k => .lst ((str ns k).map .int)) = SR at h6
  have t0 : ∀ a0 a1 a2 a3 a4 a5 a6, bin2 gItem (ldv 7) (kI 0) (gSt a0 a1 a2 a3 a4 a5 a6 (some TX) none none none none none none none) = some (.bytes (x (jx f 0))) := fun a0 a1 a2 a3 a4 a5 a6 => bin_of (a := TX) (b := .int ((0 : Nat) : Int)) rfl rfl (by rw [← hTX]; exact item_L rfl (by decide) rfl)
  have t1 : ∀ a0 a1 a2 a3 a4 a5 a6, bin2 gItem (ldv 7) (kI 1) (gSt a0 a1 a2 a3 a4 a5 a6 (some TX) none none none none none none none) = some (.bytes (x (jx f 1))) := fun a0 a1 a2 a3 a4 a5 a6 => bin_of (a := TX) (b := .int ((1 : Nat) : Int)) rfl rfl (by rw [← hTX]; exact item_L rfl (by decide) rfl)
  have t2 : ∀ a0 a1 a2 a3 a4 a5 a6 a8 a9, bin2 gItem (ldv 7) (kI 2) (gSt a0 a1 a2 a3 a4 a5 a6 (some TX) a8 a9 none none none none none) = some (.bytes (x (jx f 2))) := fun a0 a1 a2 a3 a4 a5 a6 a8 a9 => bin_of (a := TX) (b := .int ((2 : Nat) : Int)) rfl rfl (by rw [← hTX]; exact item_L rfl (by decide) rfl)
  have hst := strs_eval ns (a0 := some (.lst (ns.map .int))) (a1 := some (.int f)) (a2 := some (.int w)) (a4 := some (.lst (ws.map .int)))
  rw [hSR] at hst
  have hr := fun a0 a1 a2 a3 a4 a5 a7 a8 a10 a12 a13 a14 => rights_eval (fun k => .bytes (x k)) (a0 := a0) (a1 := a1) (a2 := a2) (a3 := a3) (a4 := a4) (a5 := a5) (a7 := a7) (a8 := a8) (a10 := a10) (a12 := a12) (a13 := a13) (a14 := a14)
  rw [hTD] at hr
  clear hTX hTD hSR
  have l1 : ∀ a0 a1 a3 a4 a5 a6, sUnp 8 9 (pCall 196 dLawLaid (kV (.ref 196)) (consF (ldv 2) (consF (bin2 gItem (ldv 7) (kI 0)) (consF (bin2 gItem (ldv 7) (kI 1)) nilF))) nilF) (gSt a0 a1 (some (.int w)) a3 a4 a5 a6 (some TX) none none none none none none none) = some (.next, gSt a0 a1 (some (.int w)) a3 a4 a5 a6 (some TX) (some (.bytes two)) (some (.bool true)) none none none none none) := fun a0 a1 a3 a4 a5 a6 =>
    unp_of (pcall_of (as := [.int w, .bytes (x (jx f 0)), .bytes (x (jx f 1))]) rfl (cons_of (a := .int w) rfl (cons_of (t0 ..) (cons_of (t1 ..) rfl))) rfl rfl h8) rfl
  have l2 : ∀ a0 a1 a3 a4 a5 a6 a9, sUnp 10 11 (pCall 196 dLawLaid (kV (.ref 196)) (consF (ldv 2) (consF (ldv 8) (consF (bin2 gItem (ldv 7) (kI 2)) nilF))) nilF) (gSt a0 a1 (some (.int w)) a3 a4 a5 a6 (some TX) (some (.bytes two)) a9 none none none none none) = some (.next, gSt a0 a1 (some (.int w)) a3 a4 a5 a6 (some TX) (some (.bytes two)) a9 (some (.bytes thr)) (some (.bool true)) none none none) := fun a0 a1 a3 a4 a5 a6 a9 =>
    unp_of (pcall_of (as := [.int w, .bytes two, .bytes (x (jx f 2))]) rfl (cons_of (a := .int w) rfl (cons_of (a := .bytes two) rfl (cons_of (t2 ..) rfl))) rfl rfl h10) rfl
  have l3 : ∀ a0 a1 a2 a3 a4 a5 a6 a7 a8 a9 a11, pCall 169 dLawRead (kV (.ref 169)) (consF (ldv 10) nilF) nilF (gSt a0 a1 a2 a3 a4 a5 a6 a7 a8 a9 (some (.bytes thr)) a11 none none none) = some (.dct T) := fun a0 a1 a2 a3 a4 a5 a6 a7 a8 a9 a11 => pcall_of (as := [.bytes thr]) rfl rfl rfl rfl h12
  exact run_of rfl (seq_n (st1 := gSt (some (.lst (ns.map .int))) (some (.int f)) none none none none none none none none none none none none none) (as_of h1)
    (seq_n (st1 := gSt (some (.lst (ns.map .int))) (some (.int f)) (some (.int w)) none none none none none none none none none none none none) (as_of hww)
    (seq_n (st1 := gSt (some (.lst (ns.map .int))) (some (.int f)) (some (.int w)) (some (.lst ((nums ns).map .int))) none none none none none none none none none none none) (as_of (nums_eval ns hn))
    (seq_n (st1 := gSt (some (.lst (ns.map .int))) (some (.int f)) (some (.int w)) (some (.lst ((nums ns).map .int))) (some (.lst (ws.map .int))) none none none none none none none none none none) (as_of (h4 ..))
    (seq_n (st1 := gSt (some (.lst (ns.map .int))) (some (.int f)) (some (.int w)) (some (.lst ((nums ns).map .int))) (some (.lst (ws.map .int))) (some SR) none none none none none none none none none) (as_of hst)
    (seq_n (st1 := gSt (some (.lst (ns.map .int))) (some (.int f)) (some (.int w)) (some (.lst ((nums ns).map .int))) (some (.lst (ws.map .int))) (some SR) (some TD) none none none none none none none none) (as_of (h6 ..))
    (seq_n (st1 := gSt (some (.lst (ns.map .int))) (some (.int f)) (some (.int w)) (some (.lst ((nums ns).map .int))) (some (.lst (ws.map .int))) (some SR) (some TD) (some TX) none none none none none none none) (as_of (h7 ..))
    (seq_n (l1 ..) (seq_n (l2 ..)
    (seq_n (st1 := gSt (some (.lst (ns.map .int))) (some (.int f)) (some (.int w)) (some (.lst ((nums ns).map .int))) (some (.lst (ws.map .int))) (some SR) (some TD) (some TX) (some (.bytes two)) (some (.bool true)) (some (.bytes thr)) (some (.bool true)) (some (.dct T)) none none) (as_of (l3 ..))
    (seq_n (st1 := gSt (some (.lst (ns.map .int))) (some (.int f)) (some (.int w)) (some (.lst ((nums ns).map .int))) (some (.lst (ws.map .int))) (some SR) (some TD) (some TX) (some (.bytes two)) (some (.bool true)) (some (.bytes thr)) (some (.bool true)) (some (.dct T)) (some (.int lost)) none) (as_of (h13 ..))
    (seq_n (st1 := gSt (some (.lst (ns.map .int))) (some (.int f)) (some (.int w)) (some (.lst ((nums ns).map .int))) (some (.lst (ws.map .int))) (some SR) (some TD) (some TX) (some (.bytes two)) (some (.bool true)) (some (.bytes thr)) (some (.bool true)) (some (.dct T)) (some (.int lost)) (some (.lst (L.map .int)))) (as_of (h14 ..))
    (seq_n (if_f (h15 ..) rfl) (seq_r (ret_of (hr ..)))))))))))))))) rfl
theorem law_eval (ns : List Int) (hn : ns.length ≤ 63) : ∃ cs', dLaw [] [.lst (ns.map AVal.int)] = some (.bool true, cs') := by
  obtain ⟨hw, hw1, hw3⟩ := wid_ok ns
  have hS : ∀ k : Int, ∃ T : Tb, dLawStream [] [.int (wid ns), .lst ((str ns k).map .int)] = some (.tup [txtT T, .bool true], []) ∧ ∃ e, Bd (wid ns) T (fun y => cnt y (str ns k)) (str ns k).length e := fun k => by
    obtain ⟨T, e, h1, h2⟩ := stream_eval (wid ns) (str ns k) hw1 hw3 (by have := str_len ns k; omega) (str_ok ns k)
    exact ⟨T, h1, e, h2⟩
  obtain ⟨Tf, hTf⟩ := Classical.axiomOfChoice hS
  have hx : ∀ k : Int, ∃ x, txtT (Tf k) = .bytes x := fun k => txt_bytes _
  obtain ⟨x, hx⟩ := Classical.axiomOfChoice hx
  obtain ⟨_, e0, B0⟩ := hTf (jx (fstL ns) 0)
  obtain ⟨_, e1, B1⟩ := hTf (jx (fstL ns) 1)
  obtain ⟨_, e2, B2⟩ := hTf (jx (fstL ns) 2)
  have s := str_len ns
  have so := str_ok ns
  have W0 := wf_cnt (so (jx (fstL ns) 0)) (by have := s (jx (fstL ns) 0); omega)
  have W1 := wf_cnt (so (jx (fstL ns) 1)) (by have := s (jx (fstL ns) 1); omega)
  have W2 := wf_cnt (so (jx (fstL ns) 2)) (by have := s (jx (fstL ns) 2); omega)
  have W01 := wf_2 (so (jx (fstL ns) 0)) (so (jx (fstL ns) 1)) (by have := s (jx (fstL ns) 0); omega) (by have := s (jx (fstL ns) 1); omega)
  have W3 := wf_3 (so (jx (fstL ns) 0)) (so (jx (fstL ns) 1)) (so (jx (fstL ns) 2)) (by have := s (jx (fstL ns) 0); omega) (by have := s (jx (fstL ns) 1); omega) (by have := s (jx (fstL ns) 2); omega)
  obtain ⟨T4, e4, l1, B4⟩ := laid_eval hw1 hw3 B0 B1 W0 W1 W01
  obtain ⟨T5, e5, l2, B5⟩ := laid_eval hw1 hw3 B4 B2 W01 W2 W3
  have hr := read_eval T5 (B5.sm hw3 W3)
  have hc : (fun y => cnt y (str ns (jx (fstL ns) 0)) + cnt y (str ns (jx (fstL ns) 1)) + cnt y (str ns (jx (fstL ns) 2))) = fun y => cnt y (wrds ns) := funext fun y => (rot3 (fun k => cnt y (str ns k)) (fstL ns)).trans (split3 (nums ns) y).1
  have hl : ((str ns (jx (fstL ns) 0)).length : Int) + ((str ns (jx (fstL ns) 1)).length : Int) + ((str ns (jx (fstL ns) 2)).length : Int) = ((wrds ns).length : Int) := by
    refine (rot3 (fun k => ((str ns k).length : Int)) (fstL ns)).trans ?_
    have h : (str ns 0).length + (str ns 1).length + (str ns 2).length = (wrds ns).length := (split3 (nums ns) 0).2
    show ((str ns 0).length : Int) + ((str ns 1).length : Int) + ((str ns 2).length : Int) = _
    omega
  rw [hc, hl] at B5
  have B6 := rd_bd B5
  have hL := B6.len
  have hwl := wrds_len ns
  have hne : wrds ns ≠ [] := fun h => by
    have := congrArg List.length h
    unfold wrds nums at this
    rw [List.length_map, List.length_append, show tailN.length = 12 from rfl] at this
    have : (ns.take 16).length + 12 = 0 := this
    omega
  obtain ⟨two, x4⟩ := txt_bytes T4
  obtain ⟨thr, x5⟩ := txt_bytes T5
  have h6 := fun a0 a1 a3 a4 => told_eval (wid ns) ns Tf (fun k => (hTf k).1) (a0 := a0) (a1 := a1) (a3 := a3) (a4 := a4)
  have h7 := fun a0 a2 a3 a4 a5 => texts_eval (fstL ns) Tf (a0 := a0) (a2 := a2) (a3 := a3) (a4 := a4) (a5 := a5)
  have ex : (fun k => txtT (Tf k)) = fun k => .bytes (x k) := funext hx
  have ex1 : (fun k => AVal.tup [txtT (Tf k), .bool true]) = fun k => .tup [.bytes (x k), .bool true] := funext fun k => by rw [hx]
  have ex2 : (fun k => txtT (Tf (jx (fstL ns) k))) = fun k => .bytes (x (jx (fstL ns) k)) := funext fun k => hx _
  rw [ex1] at h6 h7
  rw [ex2] at h7
  rw [hx, hx, x4] at l1
  rw [hx, x4, x5] at l2
  rw [x5] at hr
  exact ⟨[], law_run x hn hw (first_eval ns hn) (fun _ _ _ => words_eval ns) h6 h7 l1 l2 hr (fun _ _ _ _ _ _ _ _ _ _ _ => lost_eval (by omega) B6.nd hwl) (fun _ _ _ _ _ _ _ _ _ _ _ _ => lacks_eval (by omega) hwl) (fun _ _ _ _ _ _ _ _ _ _ _ => check_eval hw3 B6 hne)⟩
end Mine

end
theorem PySem.Challenge.cw_rt0010_01_holds : PySem.Challenge.rw_rt0010_01.Holds :=
  Mine.joined Mine.law_eval
