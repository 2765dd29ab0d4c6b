import PyProof.Rows.All
import Wide.All
import OpenK.AllK
import Wide.FinOn
import Lean
import PySem.Challenge.RW_rw0055_01
set_option autoImplicit false
set_option Elab.async false
set_option linter.unusedVariables false
set_option linter.unusedSimpArgs false
set_option compiler.extract_closed false

set_option maxRecDepth 20000
set_option maxHeartbeats 2000000
-- text MBase
namespace Mine
open PySem PySem.W PyProof.Rows

/-! pure data, read off the heap; the addresses of the lists read are all of a kind, and plain -/
def Pl (h : Heap) (a : Addr) : Prop := ∃ items n, h.get? a = some { cls := .type "list", data := .seq items n }
def RepN (N : Addr → Prop) (h : Heap) (d : PyData) (v : Value) : Prop := ∃ as, Reads h v d as ∧ ∀ a ∈ as, N a ∧ Pl h a
def RepAllN (N : Addr → Prop) (h : Heap) (ds : List PyData) (vs : List Value) : Prop := ∃ as, ReadsAll h vs ds as ∧ ∀ a ∈ as, N a ∧ Pl h a

theorem RepN.mono {N N' : Addr → Prop} {h : Heap} {d : PyData} {v : Value} (r : RepN N h d v) (hn : ∀ a, N a → N' a) : RepN N' h d v :=
  let ⟨as, r, k⟩ := r; ⟨as, r, fun a ha => ⟨hn a (k a ha).1, (k a ha).2⟩⟩
theorem RepAllN.mono {N N' : Addr → Prop} {h : Heap} {ds : List PyData} {vs : List Value} (r : RepAllN N h ds vs) (hn : ∀ a, N a → N' a) : RepAllN N' h ds vs :=
  let ⟨as, r, k⟩ := r; ⟨as, r, fun a ha => ⟨hn a (k a ha).1, (k a ha).2⟩⟩

theorem reads_stable {h h' : Heap} : ∀ {v : Value} {d : PyData} {as : List Addr}, Reads h v d as →
    (∀ b o, h.get? b = some o → ((o.cls = .type "tuple" ∧ ∃ vs n, o.data = .seq vs n) ∨ b ∈ as) → h'.get? b = some o) → Reads h' v d as := by
  intro v d as r
  refine Reads.rec (h := h) (motive_1 := fun v d as _ => (∀ b o, h.get? b = some o → ((o.cls = .type "tuple" ∧ ∃ vs n, o.data = .seq vs n) ∨ b ∈ as) → h'.get? b = some o) → Reads h' v d as)
    (motive_2 := fun vs ds as _ => (∀ b o, h.get? b = some o → ((o.cls = .type "tuple" ∧ ∃ vs n, o.data = .seq vs n) ∨ b ∈ as) → h'.get? b = some o) → ReadsAll h' vs ds as)
    ?_ ?_ ?_ ?_ ?_ ?_ ?_ ?_ ?_ r
  · exact fun _ => .none
  · exact fun b _ => .bool b
  · exact fun i t _ => .int i t
  · exact fun x t _ => .str x t
  · intro a o vs n xs as ho hc hd _ ih k
    exact .list (k a o ho (.inr (.head _))) hc hd (ih fun b o e q => k b o e (q.imp_right (.tail _)))
  · intro a o vs n xs as ho hc hd _ ih k
    exact .tuple (k a o ho (.inl ⟨hc, _, _, hd⟩)) hc hd (ih k)
  · intro a o es n kvs as bs ho hc hd _ _ ih1 ih2 k
    exact .dict (k a o ho (.inr (by simp))) hc hd (ih1 fun b o e q => k b o e (q.imp_right fun m => by simp [m])) (ih2 fun b o e q => k b o e (q.imp_right fun m => by simp [m]))
  · exact fun _ => .nil
  · intro v vs d ds as bs _ _ ih1 ih2 k
    exact .cons (ih1 fun b o e q => k b o e (q.imp_right fun m => by simp [m])) (ih2 fun b o e q => k b o e (q.imp_right fun m => by simp [m]))

theorem readsAll_stable {h h' : Heap} : ∀ {vs : List Value} {ds : List PyData} {as : List Addr}, ReadsAll h vs ds as →
    (∀ b o, h.get? b = some o → ((o.cls = .type "tuple" ∧ ∃ vs n, o.data = .seq vs n) ∨ b ∈ as) → h'.get? b = some o) → ReadsAll h' vs ds as
  | _, _, _, .nil, _ => .nil
  | _, _, _, .cons r1 r2, k => .cons (reads_stable r1 fun b o e q => k b o e (q.imp_right fun m => by simp [m])) (readsAll_stable r2 fun b o e q => k b o e (q.imp_right fun m => by simp [m]))

theorem RepN.stable {N : Addr → Prop} {h h' : Heap} {d : PyData} {v : Value} (r : RepN N h d v)
    (k : ∀ b o, h.get? b = some o → (∃ vs n, o.data = .seq vs n) → (o.cls = .type "tuple" ∨ N b) → h'.get? b = some o) : RepN N h' d v :=
  let ⟨as, r, n⟩ := r; ⟨as, reads_stable r fun b o e q => q.elim (fun q => k b o e q.2 (.inl q.1)) fun m => let ⟨i, c, e'⟩ := (n b m).2; k b o e ⟨i, c, by rw [e] at e'; cases e'; rfl⟩ (.inr (n b m).1),
    fun a m => ⟨(n a m).1, let ⟨i, c, e⟩ := (n a m).2; ⟨i, c, k a _ e ⟨_, _, rfl⟩ (.inr (n a m).1)⟩⟩⟩
theorem RepAllN.stable {N : Addr → Prop} {h h' : Heap} {ds : List PyData} {vs : List Value} (r : RepAllN N h ds vs)
    (k : ∀ b o, h.get? b = some o → (∃ vs n, o.data = .seq vs n) → (o.cls = .type "tuple" ∨ N b) → h'.get? b = some o) : RepAllN N h' ds vs :=
  let ⟨as, r, n⟩ := r; ⟨as, readsAll_stable r fun b o e q => q.elim (fun q => k b o e q.2 (.inl q.1)) fun m => let ⟨i, c, e'⟩ := (n b m).2; k b o e ⟨i, c, by rw [e] at e'; cases e'; rfl⟩ (.inr (n b m).1),
    fun a m => ⟨(n a m).1, let ⟨i, c, e⟩ := (n a m).2; ⟨i, c, k a _ e ⟨_, _, rfl⟩ (.inr (n a m).1)⟩⟩⟩
theorem RepN.keeps {N : Addr → Prop} {h h' : Heap} {d : PyData} {v : Value} (r : RepN N h d v) (k : ∀ b o, h.get? b = some o → h'.get? b = some o) : RepN N h' d v :=
  r.stable fun b o e _ _ => k b o e
theorem RepAllN.keeps {N : Addr → Prop} {h h' : Heap} {ds : List PyData} {vs : List Value} (r : RepAllN N h ds vs) (k : ∀ b o, h.get? b = some o → h'.get? b = some o) : RepAllN N h' ds vs :=
  r.stable fun b o e _ _ => k b o e

section
variable {N : Addr → Prop} {h : Heap} {v : Value}
theorem RepN.int {i : Int} {t : Tok} : RepN N h (.int i) (.int i t) := ⟨[], .int i t, fun _ m => nomatch m⟩
theorem RepN.bool {b : Bool} : RepN N h (.bool b) (.bool b) := ⟨[], .bool b, fun _ m => nomatch m⟩
theorem RepN.none : RepN N h .none .none := ⟨[], .none, fun _ m => nomatch m⟩
theorem RepN.str {x : Str} {t : Tok} : RepN N h (.str x) (.str x t) := ⟨[], .str x t, fun _ m => nomatch m⟩
theorem RepN.int_inv {i : Int} (r : RepN N h (.int i) v) : ∃ t, v = .int i t := by obtain ⟨_, r, _⟩ := r; cases r; exact ⟨_, rfl⟩
theorem RepN.bool_inv {b : Bool} (r : RepN N h (.bool b) v) : v = .bool b := by obtain ⟨_, r, _⟩ := r; cases r; rfl
theorem RepN.none_inv (r : RepN N h .none v) : v = .none := by obtain ⟨_, r, _⟩ := r; cases r; rfl
theorem RepN.str_inv {x : Str} (r : RepN N h (.str x) v) : ∃ t, v = .str x t := by obtain ⟨_, r, _⟩ := r; cases r; exact ⟨_, rfl⟩
theorem RepN.list_inv {xs : List PyData} (r : RepN N h (.list xs) v) : ∃ a vs, v = .ref a ∧ N a ∧ h.PlainList a vs.toArray ∧ RepAllN N h xs vs := by
  obtain ⟨_, r, k⟩ := r
  cases r with
  | list ho hc hd ha =>
    rename_i vs n as
    obtain ⟨hN, items, n', hp⟩ := k _ (.head _)
    rw [ho] at hp
    obtain rfl := Option.some.inj hp
    cases hd
    exact ⟨_, vs.toList, rfl, hN, ⟨n, by simpa using ho⟩, as, ha, fun a m => k a (.tail _ m)⟩
theorem RepN.tuple_inv {xs : List PyData} (r : RepN N h (.tuple xs) v) : ∃ a vs, v = .ref a ∧ IsTup h a vs.toArray ∧ RepAllN N h xs vs := by
  obtain ⟨_, r, k⟩ := r
  cases r with
  | tuple ho hc hd ha =>
    rename_i vs n
    exact ⟨_, vs.toList, rfl, ⟨_, ho, hc, n, by simpa using hd⟩, _, ha, k⟩
theorem RepN.list {a : Addr} {vs : List Value} {xs : List PyData} (hN : N a) (hl : h.PlainList a vs.toArray) (r : RepAllN N h xs vs) : RepN N h (.list xs) (.ref a) := by
  obtain ⟨n, ho⟩ := hl
  obtain ⟨as, r, k⟩ := r
  exact ⟨a :: as, .list ho rfl rfl (by simpa using r), fun b m => (List.mem_cons.mp m).elim (fun e => e ▸ ⟨hN, _, _, ho⟩) (k b)⟩
theorem RepN.tuple {a : Addr} {vs : List Value} {xs : List PyData} (hl : IsTup h a vs.toArray) (r : RepAllN N h xs vs) : RepN N h (.tuple xs) (.ref a) := by
  obtain ⟨o, ho, hc, n, hd⟩ := hl
  obtain ⟨as, r, k⟩ := r
  exact ⟨as, .tuple ho hc hd (by simpa using r), k⟩
theorem RepAllN.nil : RepAllN N h [] [] := ⟨[], .nil, fun _ m => nomatch m⟩
theorem RepAllN.cons {d : PyData} {ds : List PyData} {vs : List Value} (r : RepN N h d v) (rs : RepAllN N h ds vs) : RepAllN N h (d :: ds) (v :: vs) := by
  obtain ⟨as, r, k⟩ := r
  obtain ⟨bs, rs, ks⟩ := rs
  exact ⟨as ++ bs, .cons r rs, fun a m => (List.mem_append.mp m).elim (k a) (ks a)⟩
theorem RepAllN.nil_inv {vs : List Value} (r : RepAllN N h [] vs) : vs = [] := by obtain ⟨_, r, _⟩ := r; cases r; rfl
theorem RepAllN.cons_inv {d : PyData} {ds : List PyData} {vs : List Value} (r : RepAllN N h (d :: ds) vs) : ∃ v r', vs = v :: r' ∧ RepN N h d v ∧ RepAllN N h ds r' := by
  obtain ⟨_, r, k⟩ := r
  cases r with
  | cons r1 r2 =>
    rename_i v vs as bs
    exact ⟨v, vs, rfl, ⟨as, r1, fun a m => k a (List.mem_append_left _ m)⟩, bs, r2, fun a m => k a (List.mem_append_right _ m)⟩
theorem RepAllN.length {ds : List PyData} {vs : List Value} (r : RepAllN N h ds vs) : vs.length = ds.length := by
  induction ds generalizing vs with
  | nil => rw [r.nil_inv]; rfl
  | cons d ds ih => obtain ⟨v, r', rfl, _, r2⟩ := r.cons_inv; simp [ih r2]
theorem RepAllN.append {ds ds' : List PyData} {vs vs' : List Value} (r : RepAllN N h ds vs) (r' : RepAllN N h ds' vs') : RepAllN N h (ds ++ ds') (vs ++ vs') := by
  induction ds generalizing vs with
  | nil => rw [r.nil_inv]; exact r'
  | cons d ds ih => obtain ⟨v, w, rfl, h1, h2⟩ := r.cons_inv; exact .cons h1 (ih h2)
theorem RepAllN.get {ds : List PyData} {vs : List Value} (r : RepAllN N h ds vs) {i : Nat} {d : PyData} (e : ds[i]? = some d) : ∃ v, vs[i]? = some v ∧ RepN N h d v := by
  induction ds generalizing vs i with
  | nil => simp at e
  | cons d' ds ih =>
    obtain ⟨v, w, rfl, h1, h2⟩ := r.cons_inv
    cases i with
    | zero => simp at e; subst e; exact ⟨v, rfl, h1⟩
    | succ i => simpa using ih h2 (by simpa using e)
theorem RepAllN.take {ds : List PyData} {vs : List Value} (r : RepAllN N h ds vs) (k : Nat) : RepAllN N h (ds.take k) (vs.take k) := by
  induction ds generalizing vs k with
  | nil => rw [r.nil_inv]; simpa using .nil
  | cons d ds ih =>
    obtain ⟨v, w, rfl, h1, h2⟩ := r.cons_inv
    cases k with
    | zero => exact .nil
    | succ k => exact .cons h1 (ih h2 k)
theorem RepAllN.drop {ds : List PyData} {vs : List Value} (r : RepAllN N h ds vs) (k : Nat) : RepAllN N h (ds.drop k) (vs.drop k) := by
  induction ds generalizing vs k with
  | nil => rw [r.nil_inv]; simpa using .nil
  | cons d ds ih =>
    obtain ⟨v, w, rfl, h1, h2⟩ := r.cons_inv
    cases k with
    | zero => exact .cons h1 h2
    | succ k => exact ih h2 k
theorem RepAllN.set {ds : List PyData} {vs : List Value} (r : RepAllN N h ds vs) (k : Nat) {d : PyData} (hd : RepN N h d v) : RepAllN N h (ds.set k d) (vs.set k v) := by
  induction ds generalizing vs k with
  | nil => rw [r.nil_inv]; simpa using .nil
  | cons d' ds ih =>
    obtain ⟨v', w, rfl, h1, h2⟩ := r.cons_inv
    cases k with
    | zero => exact .cons hd h2
    | succ k => exact .cons h1 (ih h2 k)
theorem RepAllN.eraseIdx {ds : List PyData} {vs : List Value} (r : RepAllN N h ds vs) (k : Nat) : RepAllN N h (ds.eraseIdx k) (vs.eraseIdx k) := by
  induction ds generalizing vs k with
  | nil => rw [r.nil_inv]; simpa using .nil
  | cons d' ds ih =>
    obtain ⟨v', w, rfl, h1, h2⟩ := r.cons_inv
    cases k with
    | zero => exact h2
    | succ k => exact .cons h1 (ih h2 k)
end

/-! the world that the law runs in -/
structure Cx where
  prog : Program
  w : World
  hb : Heap
  mg : Str → Option Value
  mb : Str → Option Value
structure CxOk (C : Cx) : Prop where
  nolim : C.hb.NoLimit
  g : C.hb.Ns mainGlobals C.mg
  b : C.hb.Ns builtinsNs C.mb
  bts : ∀ x : Str, x ≠ "__name__" → C.mb x = bootBuiltins x

structure AOk (k : Nat) (A : Around) : Prop where
  hd : A.handled = none
  dp : A.depth + k ≤ 900
  un : A.units + 100 * k ≤ 9500

theorem AOk.weaken {k k' : Nat} {A : Around} (h : AOk k A) (hk : k' ≤ k) : AOk k' A := ⟨h.hd, by have := h.dp; lia, by have := h.un; lia⟩
theorem AOk.room {k : Nat} {A : Around} (h : AOk k A) : A.depth < recursionLimit := by have := h.dp; unfold recursionLimit; lia
theorem AOk.units {k : Nat} {A : Around} (h : AOk k A) : A.units + 100 < cLine := by have := h.un; unfold cLine; lia
theorem AOk.deeper {k : Nat} {A : Around} {e : Env} (h : AOk (k + 1) A) : AOk k (A.deeper e) := ⟨h.hd, by show A.depth + 1 + k ≤ 900; have := h.dp; lia, by show A.units + 3 + 100 * k ≤ 9500; have := h.un; lia⟩

abbrev F0 : Value → Shared → Prop := fun _ _ => False

/-- nothing that stood is changed -/
structure Kp (s s' : Shared) : Prop where
  heap : ∀ b o, s.heap.get? b = some o → s'.heap.get? b = some o
  os : s'.os = s.os
  gens : ∀ (i : Nat) (x : GenState), s.gens[i]? = some x → s'.gens[i]? = some x
  bare : AllBare s.gens → AllBare s'.gens
theorem Kp.refl (s : Shared) : Kp s s := ⟨fun _ _ e => e, rfl, fun _ _ e => e, fun e => e⟩
theorem Kp.trans {a b c : Shared} (x : Kp a b) (y : Kp b c) : Kp a c := ⟨fun q o e => y.heap q o (x.heap q o e), y.os.trans x.os, fun i q e => y.gens i q (x.gens i q e), fun e => y.bare (x.bare e)⟩
theorem Kp.of {s : Shared} {h : Heap} {t : Nat} (k : ∀ b o, s.heap.get? b = some o → h.get? b = some o) : Kp s { s with heap := h, toks := t } := ⟨k, rfl, fun _ _ e => e, fun e => e⟩
theorem Kp.tok {s : Shared} {t : Nat} : Kp s { s with toks := t } := ⟨fun _ _ e => e, rfl, fun _ _ e => e, fun e => e⟩
theorem Kp.push {s : Shared} {o : Obj} {t : Nat} : Kp s { s with heap := s.heap.push o, toks := t } := .of fun _ _ e => Heap.get?_push_of_some _ e
theorem Kp.fresh {s s' : Shared} (k : Kp s s') {a : Addr} (h : s'.heap.get? a = none) : s.heap.get? a = none := by
  cases e : s.heap.get? a with
  | none => rfl
  | some o => rw [k.heap a o e] at h; cases h

/-- where a name's value lies -/
def VarIs (e : Env) (h : Heap) (x : Str) (v : Value) : Prop :=
  (e.kindOf x = some .local ∧ ∃ m, h.Ns e.locals m ∧ m x = some v) ∨
  ((e.kindOf x = some .cell ∨ e.kindOf x = some .free) ∧ ∃ c, e.cells.lookup x = some c ∧ h.IsCell c (some v))

inductive Slot where
  | un
  | val (d : PyData)
  | own (ds : List PyData)

def SlotOk (e : Env) (N : Addr → Prop) (S : Addr → Option Nat) (h : Heap) (i : Nat) (x : Str) : Slot → Prop
  | .un => True
  | .val d => ∃ v, VarIs e h x v ∧ RepN (fun a => N a ∧ S a = none) h d v
  | .own ds => ∃ a vs, VarIs e h x (.ref a) ∧ S a = some i ∧ N a ∧ h.PlainList a vs.toArray ∧ RepAllN (fun _ => False) h ds vs

/-- the frame of a def or of a comprehension, its names in order -/
structure EnvOk (C : Cx) (sc : Scope) (e : Env) (nm : List Str) : Prop where
  scope : e.scope = sc
  kind : sc.kind = .function
  glob : e.globals = mainGlobals
  blt : e.builtins = builtinsNs
  nodup : nm.Nodup
  cell : ∀ x, sc.names.lookup x = some .cell → ∃ c, e.cells.lookup x = some c
  inj : ∀ x y c, e.cells.lookup x = some c → e.cells.lookup y = some c → x = y
  lc : ∀ x c, e.cells.lookup x = some c → c ≠ e.locals
  hbL : C.hb.get? e.locals = none
  hbC : ∀ x c, e.cells.lookup x = some c → C.hb.get? c = none

structure Ok (C : Cx) (e : Env) (nm : List Str) (N : Addr → Prop) (Γ : List Slot) (S : Addr → Option Nat) (s : Shared) : Prop where
  base : ∀ b o, C.hb.get? b = some o → s.heap.get? b = some o
  fresh : ∀ a, s.heap.get? a = none → N a ∧ S a = none
  hbS : ∀ a, S a ≠ none → C.hb.get? a = none
  bare : AllBare s.gens
  ns : ∃ m, s.heap.Ns e.locals m
  cells : ∀ x c, e.cells.lookup x = some c → ∃ v, s.heap.IsCell c v
  list : ∀ a, S a ≠ none → ∃ vs, s.heap.IsList a vs
  slots : ∀ i x sl, nm[i]? = some x → Γ[i]? = some sl → SlotOk e N S s.heap i x sl

theorem VarIs.keeps {e : Env} {h h' : Heap} {x : Str} {v : Value} (r : VarIs e h x v) (k : ∀ b o, h.get? b = some o → h'.get? b = some o) : VarIs e h' x v := by
  rcases r with ⟨a, m, b, c⟩ | ⟨a, c, b, d⟩
  · exact .inl ⟨a, m, b.keeps k, c⟩
  · exact .inr ⟨a, c, b, d.keeps k⟩

theorem SlotOk.keeps {e : Env} {N : Addr → Prop} {S : Addr → Option Nat} {h h' : Heap} {i : Nat} {x : Str} {sl : Slot} (r : SlotOk e N S h i x sl)
    (k : ∀ b o, h.get? b = some o → h'.get? b = some o) : SlotOk e N S h' i x sl := by
  cases sl with
  | un => trivial
  | val d => obtain ⟨v, a, b⟩ := r; exact ⟨v, a.keeps k, b.keeps k⟩
  | own ds => obtain ⟨a, vs, b, c, d, ⟨n, f⟩, g⟩ := r; exact ⟨a, vs, b.keeps k, c, d, ⟨n, k _ _ f⟩, g.keeps k⟩

theorem Ok.kp {C : Cx} {e : Env} {nm : List Str} {N : Addr → Prop} {Γ : List Slot} {S : Addr → Option Nat} {s s' : Shared} (o : Ok C e nm N Γ S s) (k : Kp s s') : Ok C e nm N Γ S s' where
  base := fun b x q => k.heap b x (o.base b x q)
  fresh := fun a q => o.fresh a (k.fresh q)
  hbS := o.hbS
  bare := k.bare o.bare
  ns := let ⟨m, q⟩ := o.ns; ⟨m, q.keeps k.heap⟩
  cells := fun x c q => let ⟨v, r⟩ := o.cells x c q; ⟨v, r.keeps k.heap⟩
  list := fun a q => let ⟨v, r⟩ := o.list a q; ⟨v, r.at (k.heap a)⟩
  slots := fun i x sl q r => (o.slots i x sl q r).keeps k.heap

/-- an expression's value, nothing changed -/
abbrev EvS (C : Cx) (A : Around) (ex : Sem Value) (N : Addr → Prop) (d : PyData) (s : Shared) : Prop :=
  wpAny (model C.prog C.w) A ex (fun v s' => RepN N s'.heap d v ∧ Kp s s') F0 s

structure Ev (C : Cx) (k : Nat) (sc : Scope) (nm : List Str) (Γ : List Slot) (ex : Expr) (d : PyData) : Prop where
  run : ∀ A e N S s, AOk k A → EnvOk C sc e nm → Ok C e nm N Γ S s → EvS C A (eval ex e) (fun a => N a ∧ S a = none) d s

structure Tr (C : Cx) (k : Nat) (sc : Scope) (nm : List Str) (Γ : List Slot) (ex : Expr) (b : Bool) : Prop where
  run : ∀ A e N S s, AOk k A → EnvOk C sc e nm → Ok C e nm N Γ S s → wpAny (model C.prog C.w) A (isTrue ex e (eval ex e)) (fun r s' => r = b ∧ Kp s s') F0 s

/-- a statement's effect: its own frame and its own lists alone -/
structure Mv (e : Env) (S S' : Addr → Option Nat) (s s' : Shared) : Prop where
  heap : ∀ b o, s.heap.get? b = some o → b ≠ e.locals → (∀ x, e.cells.lookup x ≠ some b) → S b = none → s'.heap.get? b = some o
  live : ∀ b o, s.heap.get? b = some o → ∃ o', s'.heap.get? b = some o'
  own : ∀ b, S' b ≠ none → S b ≠ none ∨ s.heap.get? b = none
  os : s'.os = s.os
  gens : ∀ (i : Nat) (x : GenState), s.gens[i]? = some x → s'.gens[i]? = some x

theorem Mv.refl (e : Env) (S : Addr → Option Nat) (s : Shared) : Mv e S S s s := ⟨fun _ _ q _ _ _ => q, fun _ o q => ⟨o, q⟩, fun _ q => .inl q, rfl, fun _ _ q => q⟩
theorem Mv.trans {e : Env} {S S' S'' : Addr → Option Nat} {s s' s'' : Shared} (x : Mv e S S' s s') (y : Mv e S' S'' s' s'') : Mv e S S'' s s'' where
  heap := fun b o q h1 h2 h3 => y.heap b o (x.heap b o q h1 h2 h3) h1 h2 (by
    cases h : S' b with
    | none => rfl
    | some j =>
      rcases x.own b (by rw [h]; simp) with g | g
      · exact absurd h3 g
      · rw [q] at g; cases g)
  live := fun b o q => let ⟨o', q'⟩ := x.live b o q; y.live b o' q'
  own := fun b q => (y.own b q).elim (fun g => x.own b g) fun g => by
    cases h : s.heap.get? b with
    | none => exact .inr rfl
    | some o => obtain ⟨o', q'⟩ := x.live b o h; rw [g] at q'; cases q'
  os := y.os.trans x.os
  gens := fun i q r => y.gens i q (x.gens i q r)
theorem Mv.of_kp {e : Env} {S : Addr → Option Nat} {s s' : Shared} (k : Kp s s') : Mv e S S s s' := ⟨fun b o q _ _ _ => k.heap b o q, fun b o q => ⟨o, k.heap b o q⟩, fun _ q => .inl q, k.os, k.gens⟩

inductive Out where
  | next (Γ : List Slot)
  | cont (Γ : List Slot)
  | brk (Γ : List Slot)
  | ret (d : PyData)

def OutOk (C : Cx) (e : Env) (nm : List Str) (N : Addr → Prop) (S : Addr → Option Nat) (s : Shared) (fl : Flow) : Out → Prop
  | .next Γ => fl = .next ∧ Ok C e nm N Γ S s
  | .cont Γ => fl = .cont ∧ Ok C e nm N Γ S s
  | .brk Γ => fl = .brk ∧ Ok C e nm N Γ S s
  | .ret d => ∃ v, fl = .ret v ∧ RepN N s.heap d v ∧ ∃ Γ, Ok C e nm N Γ S s

structure ExS (C : Cx) (k : Nat) (sc : Scope) (nm : List Str) (Γ : List Slot) (t : Env → Sem Flow) (Φ : Out → Prop) : Prop where
  run : ∀ A e N S s, AOk k A → EnvOk C sc e nm → Ok C e nm N Γ S s →
    wpAny (model C.prog C.w) A (t e) (fun fl s' => ∃ o S', Φ o ∧ OutOk C e nm N S' s' fl o ∧ Mv e S S' s s') F0 s
abbrev Ex (C : Cx) (k : Nat) (sc : Scope) (nm : List Str) (Γ : List Slot) (l : List Stmt) (Φ : Out → Prop) : Prop := ExS C k sc nm Γ (execs l) Φ
abbrev E1 (C : Cx) (k : Nat) (sc : Scope) (nm : List Str) (Γ : List Slot) (st : Stmt) (Φ : Out → Prop) : Prop := ExS C k sc nm Γ (exec st) Φ

end Mine

-- text MExpr
namespace Mine
open PySem PySem.W PyProof.Rows

theorem get_none {h : Heap} {a : Addr} (ha : h.objs.size ≤ a) : h.get? a = none := by
  cases e : h.get? a with
  | none => rfl
  | some o => exact absurd (Heap.lt_size e) (Nat.not_lt.mpr ha)
theorem get_new (h : Heap) : h.get? h.objs.size = none := get_none (Nat.le_refl _)

inductive Slt : List Str → List Slot → Str → Slot → Nat → Prop where
  | here {x : Str} {ns : List Str} {sl : Slot} {Γ : List Slot} : Slt (x :: ns) (sl :: Γ) x sl 0
  | there {x n : Str} {ns : List Str} {sl g : Slot} {Γ : List Slot} {i : Nat} (h : Slt ns Γ x sl i) : Slt (n :: ns) (g :: Γ) x sl (i + 1)
theorem Slt.get {nm : List Str} {Γ : List Slot} {x : Str} {sl : Slot} {i : Nat} (h : Slt nm Γ x sl i) : nm[i]? = some x ∧ Γ[i]? = some sl := by
  induction h with
  | here => exact ⟨rfl, rfl⟩
  | there _ ih => exact ⟨by simpa using ih.1, by simpa using ih.2⟩
theorem Slt.mem {nm : List Str} {Γ : List Slot} {x : Str} {sl : Slot} {i : Nat} (h : Slt nm Γ x sl i) : x ∈ nm := List.mem_of_getElem? h.get.1

abbrev S (l : List Nat) : PyData := .str ⟨l.toArray⟩

/-- the names are plain ones -/
def plainName (x : Str) : Bool := !(x == ("__debug__" : Str)) && !(x == ("__classdict__" : Str))
theorem plainName.dbg {x : Str} (h : plainName x = true) : (x == ("__debug__" : Str)) = false := by
  unfold plainName at h; cases hx : x == ("__debug__" : Str) <;> simp [hx] at h ⊢
theorem plainName.cls {x : Str} (h : plainName x = true) : (x == ("__classdict__" : Str)) = false := by
  unfold plainName at h; cases hx : x == ("__classdict__" : Str) <;> simp [hx] at h ⊢

section
variable {C : Cx} {k : Nat} {sc : Scope} {nm : List Str} {Γ : List Slot} {A : Around} {e : Env} {N : Addr → Prop} {Sg : Addr → Option Nat} {s : Shared}

theorem wp_keep {α : Type} {t : Sem α} {Q Q' : α → Shared → Prop} (h : wpAny (model C.prog C.w) A t Q F0 s) (hq : ∀ a s', Q a s' → Q' a s') : wpAny (model C.prog C.w) A t Q' F0 s :=
  wpAny_mono h hq fun _ _ x => x

theorem load_var {x : Str} {v : Value} {Q : Value → Shared → Prop} (E : EnvOk C sc e nm) (hn : plainName x = true) (hv : VarIs e s.heap x v) (h : Q v s) :
    wpAny (model C.prog C.w) A (loadName e x) Q F0 s := by
  have hk : e.scope.kind = .function := by rw [E.scope]; exact E.kind
  rcases hv with ⟨a, m, b, c⟩ | ⟨a | a, c, b, d⟩
  · exact wpAny_loadName_local hk a b c h
  · exact wpAny_loadName_cell hk a b d h
  · exact wpAny_loadName_free hk a b d h (plainName.cls hn)

theorem Ev.name {x : Str} {pos : Pos} {d : PyData} {i : Nat} (h : Slt nm Γ x (.val d) i) (hn : plainName x = true) : Ev C k sc nm Γ (.Name x pos) d := by
  refine ⟨?_⟩; intro A e N Sg s _ E o
  obtain ⟨v, hv, hr⟩ := o.slots i x _ h.get.1 h.get.2
  exact wpAny_Name (load_var E hn hv ⟨hr, Kp.refl s⟩) (plainName.dbg hn)

theorem Ev.gconst {x : Str} {pos : Pos} {d : PyData} {v : Value} (W : CxOk C) (hx : sc.names.lookup x = some .globalImplicit) (hg : C.mg x = some v) (hr : ∀ h : Heap, Reads h v d [])
    (hn : plainName x = true) : Ev C k sc nm Γ (.Name x pos) d := by
  refine ⟨?_⟩; intro A e N Sg s _ E o
  have hk : e.scope.kind = .function := by rw [E.scope]; exact E.kind
  refine Calls.Name_function_global hk (by unfold Env.kindOf; rw [E.scope]; exact hx) ?_ (plainName.dbg hn)
  exact Calls.loadGlobal_global (by rw [E.glob]; exact W.g.keeps o.base) hg ⟨⟨[], hr _, fun _ m => nomatch m⟩, Kp.refl s⟩

theorem Ev.cint {i : Int} {n : Nat} {pos : Pos} : Ev C k sc nm Γ (.Constant (.int i) n pos) (.int i) :=
  ⟨fun _ _ _ _ _ _ _ _ => wpAny_Constant_int ⟨.int, .tok⟩⟩
theorem Ev.cstr {x : Str} {l : List Nat} {n : Nat} {pos : Pos} (h : x = ⟨l.toArray⟩) : Ev C k sc nm Γ (.Constant (.str x) n pos) (S l) :=
  ⟨fun _ _ _ _ _ _ _ _ => wpAny_Constant_str ⟨h ▸ .str, .tok⟩⟩
theorem Ev.cnone {n : Nat} {pos : Pos} : Ev C k sc nm Γ (.Constant .none n pos) .none := ⟨fun _ _ _ _ _ _ _ _ => wpAny_Constant_none ⟨.none, .refl _⟩⟩
theorem Ev.cbool {b : Bool} {n : Nat} {pos : Pos} : Ev C k sc nm Γ (.Constant (.bool b) n pos) (.bool b) := ⟨fun _ _ _ _ _ _ _ _ => wpAny_Constant_bool ⟨.bool, .refl _⟩⟩

/-- fresh addresses are of the kind -/
abbrev Frs (N : Addr → Prop) (s : Shared) : Prop := ∀ a, s.heap.get? a = none → N a
theorem Frs.kp {N : Addr → Prop} {s s' : Shared} (f : Frs N s) (h : Kp s s') : Frs N s' := fun a e => f a (h.fresh e)

/-- an operation over values, by their data -/
structure Op1 (C : Cx) (f : Value → Sem Value) (d₁ d : PyData) : Prop where
  run : ∀ A (N : Addr → Prop) s v₁, AOk 0 A → Frs N s → RepN N s.heap d₁ v₁ → EvS C A (f v₁) N d s
structure Op2 (C : Cx) (f : Value → Value → Sem Value) (d₁ d₂ d : PyData) : Prop where
  run : ∀ A (N : Addr → Prop) s v₁ v₂, AOk 0 A → Frs N s → RepN N s.heap d₁ v₁ → RepN N s.heap d₂ v₂ → EvS C A (f v₁ v₂) N d s
structure OpL (C : Cx) (f : List Value → Sem Value) (ds : List PyData) (d : PyData) : Prop where
  run : ∀ A (N : Addr → Prop) s vs, AOk 0 A → Frs N s → RepAllN N s.heap ds vs → EvS C A (f vs) N d s
structure Tru (C : Cx) (d : PyData) (b : Bool) : Prop where
  run : ∀ A (N : Addr → Prop) s v, AOk 0 A → RepN N s.heap d v → wpAny (model C.prog C.w) A (truthy v) (fun r s' => r = b ∧ Kp s s') F0 s

theorem Ok.frs {e : Env} (o : Ok C e nm N Γ Sg s) : Frs (fun a => N a ∧ Sg a = none) s := o.fresh
theorem AOk.zero {k : Nat} {A : Around} (h : AOk k A) : AOk 0 A := h.weaken (Nat.zero_le _)

theorem ev_then {ex : Expr} {d : PyData} {Q : Value → Shared → Prop} (h : Ev C k sc nm Γ ex d) (a : AOk k A) (E : EnvOk C sc e nm) (o : Ok C e nm N Γ Sg s)
    (hq : ∀ v s', RepN (fun a => N a ∧ Sg a = none) s'.heap d v → Kp s s' → Ok C e nm N Γ Sg s' → Q v s') : wpAny (model C.prog C.w) A (eval ex e) Q F0 s :=
  wp_keep ((h).run A e N Sg s a E o) fun v s' hv => hq v s' hv.1 hv.2 (o.kp hv.2)

theorem Ev.bin {l r : Expr} {op : Operator} {pos : Pos} {d₁ d₂ d : PyData} (h₁ : Ev C k sc nm Γ l d₁) (h₂ : Ev C k sc nm Γ r d₂) (h : Op2 C (binaryOp op) d₁ d₂ d) : Ev C k sc nm Γ (.BinOp l op r pos) d := by
  refine ⟨?_⟩; intro A e N Sg s a E o
  refine wpAny_BinOp (ev_then h₁ a E o fun v₁ s₁ r₁ k₁ o₁ => ev_then h₂ a E o₁ fun v₂ s₂ r₂ k₂ o₂ => ?_)
  exact wp_keep (h.run A _ s₂ v₁ v₂ a.zero o₂.frs (r₁.keeps k₂.heap) r₂) fun v s' hv => ⟨hv.1, (k₁.trans k₂).trans hv.2⟩

theorem Ev.cmp {l r : Expr} {op : CmpOp} {pos : Pos} {d₁ d₂ d : PyData} (h₁ : Ev C k sc nm Γ l d₁) (h₂ : Ev C k sc nm Γ r d₂) (h : Op2 C (compareOp op) d₁ d₂ d)
    (hm : behindInMarks op r = false := by with_unfolding_all rfl) : Ev C k sc nm Γ (.Compare l [op] [r] pos) d := by
  refine ⟨?_⟩; intro A e N Sg s a E o
  refine wpAny_Compare1 (ev_then h₁ a E o fun v₁ s₁ r₁ k₁ o₁ => ev_then h₂ a E o₁ fun v₂ s₂ r₂ k₂ o₂ => ?_) hm
  exact wp_keep (h.run A _ s₂ v₁ v₂ a.zero o₂.frs (r₁.keeps k₂.heap) r₂) fun v s' hv => ⟨hv.1, (k₁.trans k₂).trans hv.2⟩

theorem Tr.cmp {l r : Expr} {op : CmpOp} {pos : Pos} {d₁ d₂ : PyData} {b : Bool} (h₁ : Ev C k sc nm Γ l d₁) (h₂ : Ev C k sc nm Γ r d₂) (h : Op2 C (compareOp op) d₁ d₂ (.bool b))
    (hm : behindInMarks op r = false := by with_unfolding_all rfl) : Tr C k sc nm Γ (.Compare l [op] [r] pos) b := by
  refine ⟨?_⟩; intro A e N Sg s a E o
  refine wpAny_isTrue_Compare1 (ev_then h₁ a E o fun v₁ s₁ r₁ k₁ o₁ => ev_then h₂ a E o₁ fun v₂ s₂ r₂ k₂ o₂ => ?_) hm
  refine wp_keep (h.run A _ s₂ v₁ v₂ a.zero o₂.frs (r₁.keeps k₂.heap) r₂) fun v s' hv => ?_
  obtain rfl := hv.1.bool_inv
  exact wpAny_truthy_bool ⟨rfl, (k₁.trans k₂).trans hv.2⟩

theorem Tr.val {ex : Expr} {d : PyData} {b : Bool} (h : Ev C k sc nm Γ ex d) (ht : Tru C d b) (he : ∀ e whole, isTrue ex e whole = (do let v ← whole; standAt ex.pos; holding [v] (truthy v)) := by intro _ _; rfl) :
    Tr C k sc nm Γ ex b := by
  refine ⟨?_⟩; intro A e N Sg s a E o
  refine wpAny_isTrue_value (ev_then h a E o fun v s₁ r₁ k₁ o₁ => ?_) (he e _)
  exact wp_keep (ht.run A _ s₁ v a.zero r₁) fun r s' hr => ⟨hr.1, k₁.trans hr.2⟩

theorem Tr.not {ex : Expr} {b : Bool} {pos : Pos} (h : Tr C k sc nm Γ ex b) : Tr C k sc nm Γ (.UnaryOp .Not ex pos) (!b) := by
  refine ⟨?_⟩; intro A e N Sg s a E o
  exact wpAny_isTrue_Not (wp_keep ((h).run A e N Sg s a E o) fun r s' hr => ⟨by rw [hr.1], hr.2⟩)

/-- and, or of tests -/
structure AllT (C : Cx) (k : Nat) (sc : Scope) (nm : List Str) (Γ : List Slot) (op : BoolOp) (exs : List Expr) (b : Bool) : Prop where
  run : ∀ A e N Sg s, AOk k A → EnvOk C sc e nm → Ok C e nm N Γ Sg s → wpAny (model C.prog C.w) A (allTrue op exs e) (fun r s' => r = b ∧ Kp s s') F0 s
theorem AllT.and_nil : AllT C k sc nm Γ .And [] true := ⟨fun _ _ _ _ s _ _ _ => wpAny_allTrue_And_nil ⟨rfl, .refl s⟩⟩
theorem AllT.or_nil : AllT C k sc nm Γ .Or [] false := ⟨fun _ _ _ _ s _ _ _ => wpAny_allTrue_Or_nil ⟨rfl, .refl s⟩⟩
theorem AllT.and_cons {ex : Expr} {exs : List Expr} {b c : Bool} (h : Tr C k sc nm Γ ex b) (hr : b = true → AllT C k sc nm Γ .And exs c) : AllT C k sc nm Γ .And (ex :: exs) (b && c) := by
  refine ⟨?_⟩; intro A e N Sg s a E o
  refine wpAny_allTrue_And_cons (wp_keep ((h).run A e N Sg s a E o) fun r s₁ hr₁ => ?_)
  obtain ⟨rfl, k₁⟩ := hr₁
  cases r with
  | true => exact wp_keep ((hr rfl).run A e N Sg s₁ a E (o.kp k₁)) fun r s' h' => ⟨by simp [h'.1], k₁.trans h'.2⟩
  | false => exact ⟨rfl, k₁⟩
theorem AllT.or_cons {ex : Expr} {exs : List Expr} {b c : Bool} (h : Tr C k sc nm Γ ex b) (hr : b = false → AllT C k sc nm Γ .Or exs c) : AllT C k sc nm Γ .Or (ex :: exs) (b || c) := by
  refine ⟨?_⟩; intro A e N Sg s a E o
  refine wpAny_allTrue_Or_cons (wp_keep ((h).run A e N Sg s a E o) fun r s₁ hr₁ => ?_)
  obtain ⟨rfl, k₁⟩ := hr₁
  cases r with
  | true => exact ⟨rfl, k₁⟩
  | false => exact wp_keep ((hr rfl).run A e N Sg s₁ a E (o.kp k₁)) fun r s' h' => ⟨by simp [h'.1], k₁.trans h'.2⟩
theorem Tr.and {exs : List Expr} {pos : Pos} {b : Bool} (h : AllT C k sc nm Γ .And exs b) : Tr C k sc nm Γ (.BoolOp .And exs pos) b := ⟨fun A e N Sg s a E o => wpAny_isTrue_BoolOp (h.run A e N Sg s a E o)⟩
theorem Tr.or {exs : List Expr} {pos : Pos} {b : Bool} (h : AllT C k sc nm Γ .Or exs b) : Tr C k sc nm Γ (.BoolOp .Or exs pos) b := ⟨fun A e N Sg s a E o => wpAny_isTrue_BoolOp (h.run A e N Sg s a E o)⟩

theorem Ev.not {ex : Expr} {pos : Pos} {d : PyData} {b : Bool} (h : Ev C k sc nm Γ ex d) (ht : Tru C d b) : Ev C k sc nm Γ (.UnaryOp .Not ex pos) (.bool (!b)) := by
  refine ⟨?_⟩; intro A e N Sg s a E o
  refine wpAny_UnaryOp (ev_then h a E o fun v s₁ r₁ k₁ o₁ => ?_)
  exact not_value (wp_keep (ht.run A _ s₁ v a.zero r₁) fun r s' hr => ⟨hr.1 ▸ .bool, k₁.trans hr.2⟩)
theorem Ev.neg {ex : Expr} {pos : Pos} {i : Int} (h : Ev C k sc nm Γ ex (.int i)) : Ev C k sc nm Γ (.UnaryOp .USub ex pos) (.int (-i)) := by
  refine ⟨?_⟩; intro A e N Sg s a E o
  refine wpAny_UnaryOp (ev_then h a E o fun v s₁ r₁ k₁ o₁ => ?_)
  obtain ⟨t, rfl⟩ := r₁.int_inv
  exact neg_int ⟨.int, k₁.trans .tok⟩
theorem Ev.ifexp {test body orelse : Expr} {pos : Pos} {d : PyData} {b : Bool} (h : Tr C k sc nm Γ test b) (ht : b = true → Ev C k sc nm Γ body d) (hf : b = false → Ev C k sc nm Γ orelse d) :
    Ev C k sc nm Γ (.IfExp test body orelse pos) d := by
  refine ⟨?_⟩; intro A e N Sg s a E o
  refine wpAny_IfExp (wp_keep ((h).run A e N Sg s a E o) fun r s₁ hr => ?_)
  obtain ⟨rfl, k₁⟩ := hr
  cases r with
  | true => exact wp_keep ((ht rfl).run A e N Sg s₁ a E (o.kp k₁)) fun v s' hv => ⟨hv.1, k₁.trans hv.2⟩
  | false => exact wp_keep ((hf rfl).run A e N Sg s₁ a E (o.kp k₁)) fun v s' hv => ⟨hv.1, k₁.trans hv.2⟩
theorem Ev.or2 {x y : Expr} {pos : Pos} {d₁ d : PyData} {b : Bool} (h : Ev C k sc nm Γ x d₁) (ht : Tru C d₁ b) (h1 : b = true → d = d₁) (h2 : b = false → Ev C k sc nm Γ y d) : Ev C k sc nm Γ (.BoolOp .Or [x, y] pos) d := by
  refine ⟨?_⟩; intro A e N Sg s a E o
  refine wpAny_Or2 (ev_then h a E o fun v s₁ r₁ k₁ o₁ => wp_keep (ht.run A _ s₁ v a.zero r₁) fun r s₂ hr => ?_)
  obtain ⟨rfl, k₂⟩ := hr
  cases r with
  | true => rw [if_pos rfl]; exact ⟨h1 rfl ▸ r₁.keeps k₂.heap, k₁.trans k₂⟩
  | false => exact wp_keep ((h2 rfl).run A e N Sg s₂ a E (o₁.kp k₂)) fun v s' hv => ⟨hv.1, (k₁.trans k₂).trans hv.2⟩

/-- several expressions, in order -/
structure EvL (C : Cx) (k : Nat) (sc : Scope) (nm : List Str) (Γ : List Slot) (exs : List Expr) (ds : List PyData) : Prop where
  run : ∀ A e N Sg s pos, AOk k A → EnvOk C sc e nm → Ok C e nm N Γ Sg s →
    wpAny (model C.prog C.w) A (spliced (backTo pos (starEach exs e))) (fun vs s' => RepAllN (fun a => N a ∧ Sg a = none) s'.heap ds vs ∧ Kp s s') F0 s
theorem EvL.nil : EvL C k sc nm Γ [] [] := ⟨fun _ _ _ _ s _ _ _ _ => wpAny_items_nil ⟨.nil, .refl s⟩⟩
theorem EvL.cons {ex : Expr} {exs : List Expr} {d : PyData} {ds : List PyData} (h : Ev C k sc nm Γ ex d) (hs : EvL C k sc nm Γ exs ds)
    (he : ∀ e, starEach (ex :: exs) e = (false, eval ex e) :: starEach exs e := by intro _; rfl) : EvL C k sc nm Γ (ex :: exs) (d :: ds) := by
  refine ⟨?_⟩; intro A e N Sg s pos a E o
  refine wpAny_items_cons (ev_then h a E o fun v s₁ r₁ k₁ o₁ => wp_keep ((hs).run A e N Sg s₁ pos a E o₁) fun vs s' hv => ?_) (he e)
  exact ⟨.cons (r₁.keeps hv.2.heap) hv.1, k₁.trans hv.2⟩

theorem Ev.tuple {exs : List Expr} {n : Nat} {pos : Pos} {ds : List PyData} (h : EvL C k sc nm Γ exs ds) (hsz : ds.length ≤ 1000) : Ev C k sc nm Γ (.Tuple exs n pos) (.tuple ds) := by
  refine ⟨?_⟩; intro A e N Sg s a E o
  refine wpAny_Tuple (wp_keep ((h).run A e N Sg s pos a E o) fun vs s₁ hv => ?_)
  refine ⟨by rw [hv.1.length]; unfold sizeLine; lia, ?_, hv.2.trans .push⟩
  exact .tuple (IsTup.new _ _) (hv.1.keeps fun b x q => Heap.get?_push_of_some _ q)
theorem Ev.list {exs : List Expr} {pos : Pos} {ds : List PyData} (h : EvL C k sc nm Γ exs ds) (hsz : ds.length ≤ 1000) : Ev C k sc nm Γ (.List exs pos) (.list ds) := by
  refine ⟨?_⟩; intro A e N Sg s a E o
  refine wpAny_List (wp_keep ((h).run A e N Sg s pos a E o) fun vs s₁ hv => ?_)
  refine ⟨by rw [hv.1.length]; unfold sizeLine; lia, ?_, hv.2.trans .push⟩
  refine .list ?_ ⟨0, Heap.get?_push_size _ rfl⟩ (hv.1.keeps fun b x q => Heap.get?_push_of_some _ q)
  refine (o.kp hv.2).fresh _ ?_
  exact get_new _
end
end Mine

-- text MOps
namespace Mine
open PySem PySem.W PyProof.Rows

section
variable {C : Cx}

/-! ints -/
theorem Op2.addI {a b : Int} : Op2 C (binaryOp .Add) (.int a) (.int b) (.int (a + b)) := by
  refine ⟨?_⟩; intro A N s v₁ v₂ _ _ r₁ r₂; obtain ⟨t, rfl⟩ := r₁.int_inv; obtain ⟨u, rfl⟩ := r₂.int_inv; exact add_int ⟨.int, .tok⟩
theorem Op2.subI {a b : Int} : Op2 C (binaryOp .Sub) (.int a) (.int b) (.int (a - b)) := by
  refine ⟨?_⟩; intro A N s v₁ v₂ _ _ r₁ r₂; obtain ⟨t, rfl⟩ := r₁.int_inv; obtain ⟨u, rfl⟩ := r₂.int_inv; exact sub_int ⟨.int, .tok⟩
theorem Op2.mulI {a b : Int} (h : -(2 ^ 64) < a ∧ a < 2 ^ 64) : Op2 C (binaryOp .Mult) (.int a) (.int b) (.int (a * b)) := by
  refine ⟨?_⟩; intro A N s v₁ v₂ _ _ r₁ r₂; obtain ⟨t, rfl⟩ := r₁.int_inv; obtain ⟨u, rfl⟩ := r₂.int_inv
  exact mul_int ⟨.int, .tok⟩ (.of_left (intBits_le_64 h.1 h.2))
theorem Op2.divI {a b : Int} (h0 : b ≠ 0) (h : b.natAbs < 1073741824) : Op2 C (binaryOp .FloorDiv) (.int a) (.int b) (.int (a.fdiv b)) := by
  refine ⟨?_⟩; intro A N s v₁ v₂ _ _ r₁ r₂; obtain ⟨t, rfl⟩ := r₁.int_inv; obtain ⟨u, rfl⟩ := r₂.int_inv
  exact floordiv_int h0 ⟨.int, .tok⟩ (.inl (PyProof.noPylong_small h))
theorem Op2.modI {a b : Int} (h0 : b ≠ 0) : Op2 C (binaryOp .Mod) (.int a) (.int b) (.int (a.fmod b)) := by
  refine ⟨?_⟩; intro A N s v₁ v₂ _ _ r₁ r₂; obtain ⟨t, rfl⟩ := r₁.int_inv; obtain ⟨u, rfl⟩ := r₂.int_inv; exact mod_int' h0 ⟨.int, .tok⟩
theorem Op2.powI {a b : Int} (ha : a.natAbs < 2 ^ 64) (h0 : 0 ≤ b) (h1 : b ≤ 1000000) : Op2 C (binaryOp .Pow) (.int a) (.int b) (.int (a ^ b.toNat)) := by
  refine ⟨?_⟩; intro A N s v₁ v₂ _ _ r₁ r₂; obtain ⟨t, rfl⟩ := r₁.int_inv; obtain ⟨u, rfl⟩ := r₂.int_inv; exact pow_int_small h0 h1 ha ⟨.int, .tok⟩
theorem Op2.shrI {a b : Int} (h0 : 0 ≤ b) : Op2 C (binaryOp .RShift) (.int a) (.int b) (.int (a.fdiv (2 ^ b.toNat))) := by
  refine ⟨?_⟩; intro A N s v₁ v₂ _ _ r₁ r₂; obtain ⟨t, rfl⟩ := r₁.int_inv; obtain ⟨u, rfl⟩ := r₂.int_inv; exact rshift_int h0 ⟨.int, .tok⟩
theorem Op2.andI {a b : Int} : Op2 C (binaryOp .BitAnd) (.int a) (.int b) (.int (Builtin.bitAnd a b)) := by
  refine ⟨?_⟩; intro A N s v₁ v₂ _ _ r₁ r₂; obtain ⟨t, rfl⟩ := r₁.int_inv; obtain ⟨u, rfl⟩ := r₂.int_inv; exact and_int ⟨.int, .tok⟩
theorem Op2.iaddI {a b : Int} : Op2 C (inplaceOp .Add) (.int a) (.int b) (.int (a + b)) := by
  refine ⟨?_⟩; intro A N s v₁ v₂ _ _ r₁ r₂; obtain ⟨t, rfl⟩ := r₁.int_inv; obtain ⟨u, rfl⟩ := r₂.int_inv; exact iadd_int ⟨.int, .tok⟩
theorem Op2.isubI {a b : Int} : Op2 C (inplaceOp .Sub) (.int a) (.int b) (.int (a - b)) := by
  refine ⟨?_⟩; intro A N s v₁ v₂ _ _ r₁ r₂; obtain ⟨t, rfl⟩ := r₁.int_inv; obtain ⟨u, rfl⟩ := r₂.int_inv; exact isub_int ⟨.int, .tok⟩
theorem Op2.eqI {a b : Int} : Op2 C (compareOp .Eq) (.int a) (.int b) (.bool (a == b)) := by
  refine ⟨?_⟩; intro A N s v₁ v₂ _ _ r₁ r₂; obtain ⟨t, rfl⟩ := r₁.int_inv; obtain ⟨u, rfl⟩ := r₂.int_inv; exact eq_int ⟨.bool, .refl _⟩
theorem Op2.neI {a b : Int} : Op2 C (compareOp .NotEq) (.int a) (.int b) (.bool (a != b)) := by
  refine ⟨?_⟩; intro A N s v₁ v₂ _ _ r₁ r₂; obtain ⟨t, rfl⟩ := r₁.int_inv; obtain ⟨u, rfl⟩ := r₂.int_inv; exact ne_int ⟨.bool, .refl _⟩
theorem Op2.ltI {a b : Int} : Op2 C (compareOp .Lt) (.int a) (.int b) (.bool (decide (a < b))) := by
  refine ⟨?_⟩; intro A N s v₁ v₂ _ _ r₁ r₂; obtain ⟨t, rfl⟩ := r₁.int_inv; obtain ⟨u, rfl⟩ := r₂.int_inv; exact lt_int ⟨.bool, .refl _⟩
theorem Op2.gtI {a b : Int} : Op2 C (compareOp .Gt) (.int a) (.int b) (.bool (decide (b < a))) := by
  refine ⟨?_⟩; intro A N s v₁ v₂ _ _ r₁ r₂; obtain ⟨t, rfl⟩ := r₁.int_inv; obtain ⟨u, rfl⟩ := r₂.int_inv; exact gt_int ⟨.bool, .refl _⟩
theorem Op2.geI {a b : Int} : Op2 C (compareOp .GtE) (.int a) (.int b) (.bool (decide (b ≤ a))) := by
  refine ⟨?_⟩; intro A N s v₁ v₂ _ _ r₁ r₂; obtain ⟨t, rfl⟩ := r₁.int_inv; obtain ⟨u, rfl⟩ := r₂.int_inv; exact PyProof.Rows.ge_int ⟨.bool, .refl _⟩

/-! strs -/
theorem mk_append (x y : List Nat) : (⟨x.toArray⟩ : Str) ++ ⟨y.toArray⟩ = ⟨(x ++ y).toArray⟩ := by
  show (⟨x.toArray ++ y.toArray⟩ : Str) = _
  rw [List.append_toArray]
theorem mk_length (x : List Nat) : (⟨x.toArray⟩ : Str).length = x.length := by simp [Str.length]
theorem mk_beq (x y : List Nat) : ((⟨x.toArray⟩ : Str) == ⟨y.toArray⟩) = (x == y) := by
  by_cases h : x = y
  · subst h; simp
  · have : ¬ (⟨x.toArray⟩ : Str) = ⟨y.toArray⟩ := fun e => h (by injection e with e; injection e)
    rw [beq_eq_false_iff_ne.mpr this, beq_eq_false_iff_ne.mpr h]

theorem Op2.addS {x y : List Nat} (h : x.length + y.length ≤ 1000000) : Op2 C (binaryOp .Add) (S x) (S y) (S (x ++ y)) := by
  refine ⟨?_⟩; intro A N s v₁ v₂ _ _ r₁ r₂; obtain ⟨t, rfl⟩ := r₁.str_inv; obtain ⟨u, rfl⟩ := r₂.str_inv
  refine add_str (fun t' tk => ⟨?_, .tok⟩) (by rw [mk_length, mk_length]; unfold sizeLine; lia)
  rw [mk_append]; exact .str
theorem Op2.iaddS {x y : List Nat} (h : x.length + y.length ≤ 1000000) : Op2 C (inplaceOp .Add) (S x) (S y) (S (x ++ y)) := by
  refine ⟨?_⟩; intro A N s v₁ v₂ _ _ r₁ r₂; obtain ⟨t, rfl⟩ := r₁.str_inv; obtain ⟨u, rfl⟩ := r₂.str_inv
  refine iadd_str (fun t' tk => ⟨?_, .tok⟩) (by rw [mk_length, mk_length]; unfold sizeLine; lia)
  rw [mk_append]; exact .str
theorem Op2.eqS {x y : List Nat} : Op2 C (compareOp .Eq) (S x) (S y) (.bool (x == y)) := by
  refine ⟨?_⟩; intro A N s v₁ v₂ _ _ r₁ r₂; obtain ⟨t, rfl⟩ := r₁.str_inv; obtain ⟨u, rfl⟩ := r₂.str_inv
  refine PyProof.Rows.eq_str ?_; rw [mk_beq]; exact ⟨.bool, .refl _⟩
theorem Op2.neS {x y : List Nat} : Op2 C (compareOp .NotEq) (S x) (S y) (.bool (x != y)) := by
  refine ⟨?_⟩; intro A N s v₁ v₂ _ _ r₁ r₂; obtain ⟨t, rfl⟩ := r₁.str_inv; obtain ⟨u, rfl⟩ := r₂.str_inv
  refine PyProof.Rows.ne_str ?_; unfold bne; rw [mk_beq]; exact ⟨.bool, .refl _⟩

/-- the places of a part in a text -/
abbrev occ (x y : List Nat) (lo hi lim : Nat) : List Nat := Builtin.Str.occurrences ⟨x.toArray⟩ ⟨y.toArray⟩ lo hi lim
theorem Op2.inS {x y : List Nat} : Op2 C (compareOp .In) (S y) (S x) (.bool (!(occ x y 0 x.length 1).isEmpty)) := by
  refine ⟨?_⟩; intro A N s v₁ v₂ _ _ r₁ r₂; obtain ⟨t, rfl⟩ := r₁.str_inv; obtain ⟨u, rfl⟩ := r₂.str_inv
  refine PyProof.Rows.in_str ?_; rw [mk_length]; exact ⟨.bool, .refl _⟩
theorem Op2.ninS {x y : List Nat} : Op2 C (compareOp .NotIn) (S y) (S x) (.bool ((occ x y 0 x.length 1).isEmpty)) := by
  refine ⟨?_⟩; intro A N s v₁ v₂ _ _ r₁ r₂; obtain ⟨t, rfl⟩ := r₁.str_inv; obtain ⟨u, rfl⟩ := r₂.str_inv
  refine PyProof.Rows.notIn_str ?_; rw [mk_length, Bool.not_not]; exact ⟨.bool, .refl _⟩

/-! is -/
theorem Op2.isB {a b : Bool} : Op2 C (compareOp .Is) (.bool a) (.bool b) (.bool (a == b)) := by
  refine ⟨?_⟩; intro A N s v₁ v₂ _ _ r₁ r₂; obtain rfl := r₁.bool_inv; obtain rfl := r₂.bool_inv; exact is_bool ⟨.bool, .refl _⟩
theorem Op2.isnB {a b : Bool} : Op2 C (compareOp .IsNot) (.bool a) (.bool b) (.bool (a != b)) := by
  refine ⟨?_⟩; intro A N s v₁ v₂ _ _ r₁ r₂; obtain rfl := r₁.bool_inv; obtain rfl := r₂.bool_inv; exact isnot_bool ⟨.bool, .refl _⟩
theorem Op2.isN : Op2 C (compareOp .Is) .none .none (.bool true) := by
  refine ⟨?_⟩; intro A N s v₁ v₂ _ _ r₁ r₂; obtain rfl := r₁.none_inv; obtain rfl := r₂.none_inv; exact is_none_none ⟨.bool, .refl _⟩
theorem Op2.isIN {a : Int} : Op2 C (compareOp .Is) (.int a) .none (.bool false) := by
  refine ⟨?_⟩; intro A N s v₁ v₂ _ _ r₁ r₂; obtain ⟨t, rfl⟩ := r₁.int_inv; obtain rfl := r₂.none_inv; exact is_int_none ⟨.bool, .refl _⟩

/-! data compared -/
theorem Op2.eqD {a b : PyData} (ha : a.canLay0 = true) (hb : b.canLay0 = true) (hd : a.depth ≤ 64) : Op2 C (compareOp .Eq) a b (.bool (PyData.eqv a b)) := by
  refine ⟨?_⟩; intro A N s v₁ v₂ ao _ r₁ r₂
  obtain ⟨as, r₁, _⟩ := r₁; obtain ⟨bs, r₂, _⟩ := r₂
  exact SeqAt.compareEq_reads r₁ r₂ ha hb (by have := ao.units; have : min a.depth b.depth ≤ a.depth := Nat.min_le_left _ _; lia) ⟨.bool, .refl _⟩
theorem Op2.neD {a b : PyData} (ha : a.canLay0 = true) (hb : b.canLay0 = true) (hd : a.depth ≤ 64) : Op2 C (compareOp .NotEq) a b (.bool (!PyData.eqv a b)) := by
  refine ⟨?_⟩; intro A N s v₁ v₂ ao _ r₁ r₂
  obtain ⟨as, r₁, _⟩ := r₁; obtain ⟨bs, r₂, _⟩ := r₂
  exact SeqAt.compareNe_reads r₁ r₂ ha hb (by have := ao.units; have : min a.depth b.depth ≤ a.depth := Nat.min_le_left _ _; lia) ⟨.bool, .refl _⟩

/-! truth -/
theorem Tru.b {b : Bool} : Tru C (.bool b) b := by
  refine ⟨?_⟩; intro A N s v _ r; obtain rfl := r.bool_inv; exact wpAny_truthy_bool ⟨rfl, .refl _⟩
theorem Tru.i {a : Int} : Tru C (.int a) (a != 0) := by
  refine ⟨?_⟩; intro A N s v _ r; obtain ⟨t, rfl⟩ := r.int_inv; exact PyProof.Rows.truthy_int ⟨rfl, .refl _⟩
theorem Tru.s {x : List Nat} (h : x.length ≤ 1000000) : Tru C (S x) (!x.isEmpty) := by
  refine ⟨?_⟩; intro A N s v _ r; obtain ⟨t, rfl⟩ := r.str_inv
  refine PySem.P.truthy_str (by rw [mk_length]; lia) ⟨?_, .tok⟩
  rw [mk_length]; cases x <;> simp <;> lia
theorem Tru.n : Tru C .none false := by
  refine ⟨?_⟩; intro A N s v _ r; obtain rfl := r.none_inv; exact fun _ _ _ => ⟨rfl, .refl _⟩
end
end Mine

-- text MCall
namespace Mine
open PySem PySem.W PyProof.Rows

abbrev L (ns : List Int) : PyData := .list (ns.map .int)
abbrev LS (xs : List (List Nat)) : PyData := .list (xs.map S)

theorem ints_of {N : Addr → Prop} {h : Heap} {ns : List Int} {vs : List Value} (r : RepAllN N h (ns.map .int) vs) : IntsAre vs ns := by
  induction ns generalizing vs with
  | nil => rw [r.nil_inv]; exact .nil
  | cons n ns ih => obtain ⟨v, w, rfl, h1, h2⟩ := r.cons_inv; obtain ⟨t, rfl⟩ := h1.int_inv; exact .cons n t (ih h2)
theorem of_ints {N : Addr → Prop} {h : Heap} {ns : List Int} {vs : List Value} (r : IntsAre vs ns) : RepAllN N h (ns.map .int) vs := by
  induction r with
  | nil => exact .nil
  | cons n t _ ih => exact .cons .int ih
theorem strs_of {N : Addr → Prop} {h : Heap} {xs : List (List Nat)} {vs : List Value} (r : RepAllN N h (xs.map S) vs) : ∃ l : List (Str × Tok), vs = strValues l ∧ l.map (·.1) = xs.map fun x => ⟨x.toArray⟩ := by
  induction xs generalizing vs with
  | nil => rw [r.nil_inv]; exact ⟨[], rfl, rfl⟩
  | cons n ns ih =>
    obtain ⟨v, w, rfl, h1, h2⟩ := r.cons_inv; obtain ⟨t, rfl⟩ := h1.str_inv; obtain ⟨l, rfl, e⟩ := ih h2
    exact ⟨(⟨n.toArray⟩, t) :: l, rfl, by simp [e]⟩
theorem of_strs {N : Addr → Prop} {h : Heap} {xs : List (List Nat)} {l : List (Str × Tok)} (e : l.map (·.1) = xs.map fun x => ⟨x.toArray⟩) : RepAllN N h (xs.map S) (strValues l) := by
  induction xs generalizing l with
  | nil => have : l = [] := by simpa using e
           subst this; exact .nil
  | cons n ns ih =>
    cases l with
    | nil => simp at e
    | cons p l =>
      obtain ⟨x, t⟩ := p
      simp only [List.map_cons, List.cons.injEq] at e
      obtain ⟨rfl, e⟩ := e
      exact .cons .str (ih e)

def tyD : PyData → String
  | .str _ => "str"
  | .list _ => "list"
  | .tuple _ => "tuple"
  | .int _ => "int"
  | .bool _ => "bool"
  | .none => "NoneType"
  | .dict _ => "dict"
theorem RepN.typeIs {N : Addr → Prop} {s : Shared} {d : PyData} {v : Value} (r : RepN N s.heap d v) (h : tyD d = "str" ∨ tyD d = "list") : s.TypeIs v (tyD d) ∧ ∀ a, v = .ref a → ∃ ob, s.heap.get? a = some ob ∧ ob.dict = Option.none := by
  cases d with
  | str x => obtain ⟨t, rfl⟩ := r.str_inv; exact ⟨rfl, fun a e => nomatch e⟩
  | list xs => obtain ⟨a, vs, rfl, _, ⟨n, hp⟩, _⟩ := r.list_inv; exact ⟨⟨_, hp, rfl⟩, fun b e => by cases e; exact ⟨_, hp, rfl⟩⟩
  | none => simp [tyD] at h
  | bool => simp [tyD] at h
  | int => simp [tyD] at h
  | tuple => simp [tyD] at h
  | dict => simp [tyD] at h

section
variable {C : Cx} {k : Nat} {sc : Scope} {nm : List Str} {Γ : List Slot} {A : Around} {e : Env} {N : Addr → Prop} {Sg : Addr → Option Nat} {s : Shared}

/-- the arguments of a call that bears no star -/
theorem evalArgs_any {f : Value} {args : List (Bool × Sem Value)} {Q : Args → Shared → Prop} (hp : args.any (·.1) = false)
    (h : wpAny (model C.prog C.w) A (spliced args) (fun vs s' => Q ⟨vs, []⟩ s') F0 s) : wpAny (model C.prog C.w) A (evalArgs f true args []) Q F0 s := by
  cases args with
  | nil =>
    unfold evalArgs
    show wpAny _ A (spliced [] >>= _) Q F0 s
    refine wpAny_bind (wp_keep h fun vs s' h' => ?_)
    exact wpAny_holding (wpAny_bind (wpAny_pure (wpAny_bind (wpAny_pure (wpAny_pure h')))))
  | cons x r =>
    obtain ⟨b, x⟩ := x
    have hb : b = false := by cases b <;> simp at hp ⊢
    subst hb
    exact Calls.evalArgs_plain h

theorem args_ {f : Value} {pos : Pos} {exs : List Expr} {ds : List PyData} {Q : Args → Shared → Prop} (h : EvL C k sc nm Γ exs ds) (a : AOk k A) (E : EnvOk C sc e nm) (o : Ok C e nm N Γ Sg s)
    (hp : (backTo pos (starEach exs e)).any (·.1) = false)
    (hq : ∀ vs s', RepAllN (fun a => N a ∧ Sg a = none) s'.heap ds vs → Kp s s' → Ok C e nm N Γ Sg s' → Q ⟨vs, []⟩ s') :
    wpAny (model C.prog C.w) A (evalArgs f true (backTo pos (starEach exs e)) []) Q F0 s :=
  evalArgs_any hp (wp_keep (h.run A e N Sg s pos a E o) fun vs s' hv => hq vs s' hv.1 hv.2 (o.kp hv.2))

/-- a method of a str or of a list, by name -/
theorem Ev.meth {o : Expr} {name : Str} {apos pos : Pos} {exs : List Expr} {d₀ d : PyData} {ds : List PyData} {id : String}
    (h₀ : Ev C k sc nm Γ o d₀) (hs : EvL C k sc nm Γ exs ds) (ht : tyD d₀ = "str" ∨ tyD d₀ = "list") (slot : PySem.Slot (tyD d₀) name id) (hty : typeOf (.builtin id) = pure (.type "method_descriptor"))
    (hop : OpL C (fun vs => call (.builtin id) vs) (d₀ :: ds) d)
    (hbase : ∀ e, attributeBase o name e (eval o e) = eval o e := by intro _; rfl)
    (hfew : ∀ e, ((backTo pos (starEach exs e)).all (fun x => !x.1) && (backToKw pos (keywordEach [] e)).all (fun x => x.1.isSome)
      && decide (exs.length + ([] : List Keyword).length + (if ([] : List Keyword).isEmpty then 0 else 1) < 30)) = true := by intro _; rfl)
    (hp : ∀ e, (backTo pos (starEach exs e)).any (·.1) = false := by intro _; rfl)
    (hline : (apos.endLine == pos.line) = true := by rfl) : Ev C k sc nm Γ (.Call (.Attribute o name apos) exs [] pos) d := by
  refine ⟨?_⟩; intro A e N Sg s a E ok
  have pa : PlainAttrs (tyD d₀) := by
    rcases ht with h | h
    · rw [h]; exact PySem.F.plainAttrs_str
    · rw [h]; exact PySem.F.plainAttrs_list
  refine wpAny_Call_method (hbase e) (hfew e) hline pa slot hty (ev_then h₀ a E ok fun v s₁ r₁ k₁ o₁ => ?_)
  obtain ⟨hT, hd⟩ := r₁.typeIs ht
  refine ⟨hT, hd, Calls.callWith_builtin (hp e) (args_ hs a E o₁ (hp e) fun vs s₂ r₂ k₂ o₂ => ?_)⟩
  exact wp_keep (hop.run A _ s₂ (v :: vs) a.zero o₂.frs (.cons (r₁.keeps k₂.heap) r₂)) fun v s' hv => ⟨hv.1, (k₁.trans k₂).trans hv.2⟩

/-- a built-in function, by its name -/
theorem Ev.blt {f : Str} {fpos pos : Pos} {exs : List Expr} {ds : List PyData} {d : PyData} {id : String} (W : CxOk C) (hx : sc.names.lookup f = some .globalImplicit) (hm : C.mg f = none)
    (hb : bootBuiltins f = some (.builtin id)) (hs : EvL C k sc nm Γ exs ds) (hop : OpL C (fun vs => call (.builtin id) vs) ds d) (hn : plainName f = true) (hnn : f ≠ ("__name__" : Str))
    (hp : ∀ e, (backTo pos (starEach exs e)).any (·.1) = false := by intro _; rfl) :
    Ev C k sc nm Γ (.Call (.Name f fpos) exs [] pos) d := by
  refine ⟨?_⟩; intro A e N Sg s a E ok
  have hk : e.scope.kind = .function := by rw [E.scope]; exact E.kind
  show wpAny _ A (do callWith pos (← eval (.Name f fpos) e) [] (backTo pos (starEach exs e)) (backToKw pos (keywordEach [] e))) _ _ s
  refine wpAny_bind (Calls.Name_function_global hk (by unfold Env.kindOf; rw [E.scope]; exact hx) ?_ (plainName.dbg hn))
  refine Calls.loadGlobal_builtin (by rw [E.glob]; exact W.g.keeps ok.base) hm (by rw [E.blt]; exact W.b.keeps ok.base) ((W.bts f hnn).trans hb) ?_
  refine Calls.callWith_builtin (hp e) (args_ hs a E ok (hp e) fun vs s₂ r₂ k₂ o₂ => ?_)
  exact wp_keep (hop.run A _ s₂ vs a.zero o₂.frs r₂) fun v s' hv => ⟨hv.1, k₂.trans hv.2⟩

/-- a built-in type called, by its name -/
theorem Ev.typ {f : Str} {fpos pos : Pos} {exs : List Expr} {ds : List PyData} {d : PyData} {T : String} (W : CxOk C) (hx : sc.names.lookup f = some .globalImplicit) (hm : C.mg f = none)
    (hb : bootBuiltins f = some (.type T)) (hs : EvL C k sc nm Γ exs ds) (hop : OpL C (fun vs => call (.type T) vs) ds d) (hn : plainName f = true) (hnn : f ≠ ("__name__" : Str))
    (hp : ∀ e, (backTo pos (starEach exs e)).any (·.1) = false := by intro _; rfl) :
    Ev C k sc nm Γ (.Call (.Name f fpos) exs [] pos) d := by
  refine ⟨?_⟩; intro A e N Sg s a E ok
  have hk : e.scope.kind = .function := by rw [E.scope]; exact E.kind
  show wpAny _ A (do callWith pos (← eval (.Name f fpos) e) [] (backTo pos (starEach exs e)) (backToKw pos (keywordEach [] e))) _ _ s
  refine wpAny_bind (Calls.Name_function_global hk (by unfold Env.kindOf; rw [E.scope]; exact hx) ?_ (plainName.dbg hn))
  refine Calls.loadGlobal_builtin (by rw [E.glob]; exact W.g.keeps ok.base) hm (by rw [E.blt]; exact W.b.keeps ok.base) ((W.bts f hnn).trans hb) ?_
  refine PyProof.Rows.callWith_type (hp e) (args_ hs a E ok (hp e) fun vs s₂ r₂ k₂ o₂ => ?_)
  exact wp_keep (hop.run A _ s₂ vs a.zero o₂.frs r₂) fun v s' hv => ⟨hv.1, k₂.trans hv.2⟩

/-- what a def of the text is at the base -/
structure Fn (C : Cx) (f : Str) (a : Addr) (params : Arguments) (body : List Stmt) (sc : Scope) : Prop where
  g : C.mg f = some (.ref a)
  at_ : ∃ o pm cd doc, C.hb.get? a = some o ∧ o.data = .func (Calls.docDef f params body sc pm cd doc) ∧ C.hb.CodeRec cd f

/-- a def called: what it hands back, nothing changed -/
structure CallD (C : Cx) (k : Nat) (a : Addr) (ds : List PyData) (d : PyData) : Prop where
  run : ∀ A (N : Addr → Prop) s vs, AOk k A → (∀ b o, C.hb.get? b = some o → s.heap.get? b = some o) → AllBare s.gens → Frs N s → RepAllN N s.heap ds vs → EvS C A (call (.ref a) vs []) N d s

theorem Ev.fn {f : Str} {fpos pos : Pos} {exs : List Expr} {ds : List PyData} {d : PyData} {a : Addr} {params : Arguments} {body : List Stmt} {scf : Scope} (W : CxOk C) (hx : sc.names.lookup f = some .globalImplicit)
    (F : Fn C f a params body scf) (hs : EvL C k sc nm Γ exs ds) (hc : CallD C k a ds d) (hn : plainName f = true)
    (hp : ∀ e, (backTo pos (starEach exs e)).any (·.1) = false := by intro _; rfl) :
    Ev C k sc nm Γ (.Call (.Name f fpos) exs [] pos) d := by
  refine ⟨?_⟩; intro A e N Sg s ao E ok
  have hk : e.scope.kind = .function := by rw [E.scope]; exact E.kind
  obtain ⟨o, pm, cd, doc, ho, hd, _⟩ := F.at_
  show wpAny _ A (do callWith pos (← eval (.Name f fpos) e) [] (backTo pos (starEach exs e)) (backToKw pos (keywordEach [] e))) _ _ s
  refine wpAny_bind (Calls.Name_function_global hk (by unfold Env.kindOf; rw [E.scope]; exact hx) ?_ (plainName.dbg hn))
  refine Calls.loadGlobal_global (by rw [E.glob]; exact W.g.keeps ok.base) F.g ?_
  refine Calls.callWith_function (o := o) (args_ hs ao E ok (hp e) fun vs s₂ r₂ k₂ o₂ => ⟨⟨o₂.base _ _ ho, hd⟩, ?_⟩)
  exact wp_keep (hc.run A _ s₂ vs ao o₂.base o₂.bare o₂.frs r₂) fun v s' hv => ⟨hv.1, k₂.trans hv.2⟩
end
end Mine

-- text MCall2
namespace Mine
open PySem PySem.W PyProof.Rows

abbrev tx (x : List Nat) : Str := ⟨x.toArray⟩

section
variable {C : Cx}

theorem PlainList.isl {h : Heap} {a : Addr} {vs : Array Value} (p : h.PlainList a vs) : h.IsList a vs := let ⟨n, e⟩ := p; ⟨_, e, rfl, n, rfl⟩

/-! lists -/
theorem OpL.lenL {xs : List PyData} (h : xs.length ≤ 1000000) : OpL C (fun vs => call (.builtin "len") vs) [.list xs] (.int xs.length) := by
  refine ⟨?_⟩; intro A N s vs _ _ r
  obtain ⟨v, w, rfl, r1, r2⟩ := r.cons_inv
  obtain rfl := r2.nil_inv
  obtain ⟨a, vs, rfl, _, hp, rs⟩ := r1.list_inv
  have hl := rs.length
  refine Calls.call_len_list (PlainList.isl hp) (by simp only [List.size_toArray]; lia) ?_
  rw [List.size_toArray, hl]
  exact ⟨.int, .tok⟩
theorem OpL.lenS {x : List Nat} (h : x.length ≤ 1000000) : OpL C (fun vs => call (.builtin "len") vs) [S x] (.int x.length) := by
  refine ⟨?_⟩; intro A N s vs _ _ r
  obtain ⟨v, w, rfl, r1, r2⟩ := r.cons_inv
  obtain rfl := r2.nil_inv
  obtain ⟨t, rfl⟩ := r1.str_inv
  refine PyProof.Rows.len_str (by rw [mk_length]; lia) ?_
  rw [mk_length]
  exact ⟨.int, .tok⟩
theorem Op2.addL {xs ys : List PyData} (h : xs.length + ys.length ≤ 1000000) : Op2 C (binaryOp .Add) (.list xs) (.list ys) (.list (xs ++ ys)) := by
  refine ⟨?_⟩; intro A N s v₁ v₂ _ fr r₁ r₂
  obtain ⟨a, vs, rfl, _, ⟨n, hp⟩, rs⟩ := r₁.list_inv
  obtain ⟨b, ws, rfl, _, ⟨n2, hp2⟩, rs2⟩ := r₂.list_inv
  have hl := rs.length
  have hl2 := rs2.length
  refine P.add_list hp hp2 ⟨?_, ?_⟩ (by simp only [List.size_toArray]; unfold sizeLine; lia)
  · refine .list (fr _ (get_new _)) ⟨0, ?_⟩ ((rs.append rs2).keeps fun b o e => Heap.get?_push_of_some _ e)
    rw [List.append_toArray]
    exact Heap.get?_push_size _ rfl
  · exact .push
theorem OpL.sumL {ns : List Int} : OpL C (fun vs => call (.builtin "sum") vs) [L ns] (.int ns.sum) := by
  refine ⟨?_⟩; intro A N s vs a _ r
  obtain ⟨v, w, rfl, r1, r2⟩ := r.cons_inv
  obtain rfl := r2.nil_inv
  obtain ⟨l, vs, rfl, _, hp, rs⟩ := r1.list_inv
  have hi := ints_of rs
  obtain ⟨xs, hxs⟩ := hi.allInts.items
  have hp' : s.heap.IsList l (intItems xs) := by rw [← hxs]; exact PlainList.isl hp
  refine sum_intListG a.hd hp' fun h' tk t' hk => ⟨?_, .of hk⟩
  have : preSum (numAt xs) xs.size = ns.sum := by
    rw [preSum_eq, List.take_of_length_le (by simp)]
    have := hi.numsOf
    rw [show vs = vs.toArray.toList from rfl, hxs, nums_intItems] at this
    rw [this]
  rw [this]; exact .int
theorem OpL.maxI {a b : Int} : OpL C (fun vs => call (.builtin "max") vs) [.int a, .int b] (.int (max a b)) := by
  refine ⟨?_⟩; intro A N s vs ao _ r
  obtain ⟨v, w, rfl, r1, r2⟩ := r.cons_inv
  obtain ⟨v', w', rfl, q2, r3⟩ := r2.cons_inv
  obtain rfl := r3.nil_inv
  obtain ⟨t, rfl⟩ := r1.int_inv
  obtain ⟨u, rfl⟩ := q2.int_inv
  refine max_two_ints ao.hd fun h' tk hk => ⟨?_, .of hk⟩
  by_cases hc : b > a
  · rw [if_pos hc, show max a b = b by lia]; exact .int
  · rw [if_neg hc, show max a b = a by lia]; exact .int
theorem OpL.minI {a b : Int} : OpL C (fun vs => call (.builtin "min") vs) [.int a, .int b] (.int (min a b)) := by
  refine ⟨?_⟩; intro A N s vs ao _ r
  obtain ⟨v, w, rfl, r1, r2⟩ := r.cons_inv
  obtain ⟨v', w', rfl, q2, r3⟩ := r2.cons_inv
  obtain rfl := r3.nil_inv
  obtain ⟨t, rfl⟩ := r1.int_inv
  obtain ⟨u, rfl⟩ := q2.int_inv
  refine min_two_ints ao.hd fun h' tk hk => ⟨?_, .of hk⟩
  by_cases hc : b < a
  · rw [if_pos hc, show min a b = b by lia]; exact .int
  · rw [if_neg hc, show min a b = a by lia]; exact .int
theorem OpL.sortedL {ns ms : List Int} (hp : ms.Perm ns) (hs : ms.Pairwise (· ≤ ·)) (h64 : ns.length < 64) : OpL C (fun vs => call (.builtin "sorted") vs) [L ns] (L ms) := by
  refine ⟨?_⟩; intro A N s vs a fr r
  obtain ⟨v, w, rfl, r1, r2⟩ := r.cons_inv
  obtain rfl := r2.nil_inv
  obtain ⟨l, vs, rfl, _, hpl, rs⟩ := r1.list_inv
  have hi := ints_of rs
  refine sorted_ints (PlainList.isl hpl) hi (by rw [hi.length]; exact h64) fun out ns' h1 h2 h3 => ?_
  have e : ns' = ms := List.Perm.eq_of_pairwise (le := (· ≤ ·)) (fun a b _ _ x y => Int.le_antisymm x y) h3 hs (h2.trans hp.symm)
  subst e
  obtain ⟨n, he⟩ := sortedAll_at s.heap vs out
  have old : ∀ b o, s.heap.get? b = some o → (sortedAll s.heap vs out).get? b = some o := fun _ _ => sortedAll_old
  refine ⟨.list (vs := out.toList) (fr _ (get_none (Nat.le_succ _))) ⟨n, by simpa [seqObj] using he⟩ (of_ints h1), ⟨old, rfl, fun _ _ q => q, fun q => q⟩⟩

theorem OpL.index {ns : List Int} {k : Int} {j : Nat} (hj : j < ns.length) (h1 : ns[j] = k) (h2 : ∀ i, i < j → ns[i]? ≠ some k) (hsz : ns.length ≤ 1000000) :
    OpL C (fun vs => call (.builtin "list.index") vs) [L ns, .int k] (.int j) := by
  refine ⟨?_⟩; intro A N s vs a fr r
  obtain ⟨v, w, rfl, r1, r2⟩ := r.cons_inv
  obtain ⟨v', w', rfl, q2, r3⟩ := r2.cons_inv
  obtain rfl := r3.nil_inv
  obtain ⟨t, rfl⟩ := q2.int_inv
  obtain ⟨l, vs, rfl, _, ⟨n, hp⟩, rs⟩ := r1.list_inv
  have hi := ints_of rs
  have hlen := hi.length
  refine call_meets PySem.F.slot_list_index ⟨_, hp, rfl⟩ PySem.F.entry_list_index (PySem.F.args_list_index_2 _ _)
    (MeetsSeq.list_index l vs.toArray n (.int k t) (isInt k) (fun y hy => eq_isInt k t hi y (by simpa using hy)) j (by simpa [hlen] using hj) (by lia) ?_ ?_) ⟨hp, ⟨.int, .tok⟩⟩
  · show isInt k vs[j] = true
    rw [isInt_at k hi _ (by lia) hj, h1]; simp
  · intro m hm hlt
    show isInt k vs[m] = false
    have hm' : m < ns.length := by lia
    rw [isInt_at k hi m (by simpa using hm) hm']
    have := h2 m hlt
    rw [List.getElem?_eq_getElem hm'] at this
    simpa using this
theorem OpL.count {ns : List Int} {k : Int} : OpL C (fun vs => call (.builtin "list.count") vs) [L ns, .int k] (.int (ns.count k : Nat)) := by
  refine ⟨?_⟩; intro A N s vs a fr r
  obtain ⟨v, w, rfl, r1, r2⟩ := r.cons_inv
  obtain ⟨v', w', rfl, q2, r3⟩ := r2.cons_inv
  obtain rfl := r3.nil_inv
  obtain ⟨t, rfl⟩ := q2.int_inv
  obtain ⟨l, vs, rfl, _, hp, rs⟩ := r1.list_inv
  exact count_list_ints (PlainList.isl hp) (ints_of rs) ⟨.int, .tok⟩
theorem Op2.inL {ns : List Int} {k : Int} : Op2 C (compareOp .In) (.int k) (L ns) (.bool (ns.any (· == k))) := by
  refine ⟨?_⟩; intro A N s v₁ v₂ _ _ r₁ r₂
  obtain ⟨t, rfl⟩ := r₁.int_inv
  obtain ⟨l, vs, rfl, _, hp, rs⟩ := r₂.list_inv
  have hi := ints_of rs
  refine PySem.SeqInW.in_listW (isInt k) (fun y hy => eq_isInt k t hi y (by simpa using hy)) (PlainList.isl hp) ?_
  rw [show vs.toArray.any (isInt k) = vs.any (isInt k) by simp, any_isInt k hi]
  exact ⟨.bool, .refl _⟩

/-! strs -/
theorem OpL.starts {x y : List Nat} {b : Bool} (h : Txt.startswith (tx x) (tx y) = b) : OpL C (fun vs => call (.builtin "str.startswith") vs) [S x, S y] (.bool b) := by
  refine ⟨?_⟩; intro A N s vs _ _ r
  obtain ⟨v, w, rfl, r1, r2⟩ := r.cons_inv
  obtain ⟨v', w', rfl, q2, r3⟩ := r2.cons_inv
  obtain rfl := r3.nil_inv
  obtain ⟨t, rfl⟩ := r1.str_inv
  obtain ⟨u, rfl⟩ := q2.str_inv
  exact SC.startswith ⟨h ▸ .bool, .refl _⟩
theorem OpL.ends {x y : List Nat} {b : Bool} (h : Txt.endswith (tx x) (tx y) = b) : OpL C (fun vs => call (.builtin "str.endswith") vs) [S x, S y] (.bool b) := by
  refine ⟨?_⟩; intro A N s vs _ _ r
  obtain ⟨v, w, rfl, r1, r2⟩ := r.cons_inv
  obtain ⟨v', w', rfl, q2, r3⟩ := r2.cons_inv
  obtain rfl := r3.nil_inv
  obtain ⟨t, rfl⟩ := r1.str_inv
  obtain ⟨u, rfl⟩ := q2.str_inv
  exact SC.endswith ⟨h ▸ .bool, .refl _⟩
theorem OpL.lower {x y : List Nat} (h : Txt.lower (tx x) = tx y) (hy : y.length ≤ 1000000) : OpL C (fun vs => call (.builtin "str.lower") vs) [S x] (S y) := by
  refine ⟨?_⟩; intro A N s vs _ _ r
  obtain ⟨v, w, rfl, r1, r2⟩ := r.cons_inv
  obtain rfl := r2.nil_inv
  obtain ⟨t, rfl⟩ := r1.str_inv
  refine SC.lower ?_ ⟨h ▸ .str, .tok⟩
  rw [h, mk_length]; unfold Builtin.Str.tooLong sizeLine; simp; lia
theorem OpL.upper {x y : List Nat} (h : Txt.upper (tx x) = tx y) (hy : y.length ≤ 1000000) : OpL C (fun vs => call (.builtin "str.upper") vs) [S x] (S y) := by
  refine ⟨?_⟩; intro A N s vs _ _ r
  obtain ⟨v, w, rfl, r1, r2⟩ := r.cons_inv
  obtain rfl := r2.nil_inv
  obtain ⟨t, rfl⟩ := r1.str_inv
  refine SC.upper ?_ ⟨h ▸ .str, .tok⟩
  rw [h, mk_length]; unfold Builtin.Str.tooLong sizeLine; simp; lia
theorem OpL.join {sep r : List Nat} {xs : List (List Nat)} (h : Txt.join (tx sep) (xs.map tx) = tx r) (hok : JoinOk (tx sep) (xs.map tx) = true) :
    OpL C (fun vs => call (.builtin "str.join") vs) [S sep, LS xs] (S r) := by
  refine ⟨?_⟩; intro A N s vs _ _ r
  obtain ⟨v, w, rfl, r1, r2⟩ := r.cons_inv
  obtain ⟨v', w', rfl, q2, r3⟩ := r2.cons_inv
  obtain rfl := r3.nil_inv
  obtain ⟨t, rfl⟩ := r1.str_inv
  obtain ⟨l, vs, rfl, _, hp, rs⟩ := q2.list_inv
  obtain ⟨ps, rfl, e⟩ := strs_of rs
  refine SC.join (PlainList.isl hp) e hok fun t' k => ⟨?_, .tok⟩
  rw [h]; exact .str
open Builtin Builtin.Str in
theorem OpL.split {x y : List Nat} {xs : List (List Nat)} (h : Txt.split (tx x) (tx y) = xs.map tx) (hy : y ≠ []) (hx : x.length ≤ 1000000) (hxs : xs.length ≤ 1000000) :
    OpL C (fun vs => call (.builtin "str.split") vs) [S x, S y] (LS xs) := by
  refine ⟨?_⟩; intro A N s vs _ fr r
  obtain ⟨v, w, rfl, r1, r2⟩ := r.cons_inv
  obtain ⟨v', w', rfl, q2, r3⟩ := r2.cons_inv
  obtain rfl := r3.nil_inv
  obtain ⟨t, rfl⟩ := r1.str_inv
  obtain ⟨u, rfl⟩ := q2.str_inv
  have hy0 : ((tx y).length == 0) = false := by rw [mk_length]; cases y with
    | nil => exact absurd rfl hy
    | cons a l => rfl
  have fin : ∀ (l : List (Str × Tok)) tk, l.map (·.1) = xs.map tx → RepN N (s.heap.push { cls := .type "list", data := .seq (strValues l).toArray }) (LS xs) (.ref s.heap.objs.size) ∧
      Kp s { s with heap := s.heap.push { cls := .type "list", data := .seq (strValues l).toArray }, toks := tk } :=
    fun l tk e => ⟨.list (fr _ (get_new _)) ⟨0, Heap.get?_push_size _ rfl⟩ (of_strs e), .push⟩
  unfold Txt.split at h
  cases h1 : (decide ((tx x).length < (tx y).length) || decide (strKind (tx x) < strKind (tx y)))
  · rw [h1] at h
    cases hf : (occurrences (tx x) (tx y) 0 (tx x).length ((tx x).length + 1)).isEmpty
    · rw [hf] at h
      simp only [Bool.false_eq_true, if_false] at h
      have hlen : (partsBetween (tx x) (occurrences (tx x) (tx y) 0 (tx x).length ((tx x).length + 1)) (tx y).length).length ≤ sizeLine := by
        rw [h, List.length_map]; unfold sizeLine; lia
      refine call_meets F.slot_str_split (typeIs_str _ _ _) F.entry_str_split (F.args_str_split_2 _ _) (meets_str_split_sep (tx x) (tx y) t u h1 hy0 hf (by rw [mk_length]; unfold sizeLine; lia) hlen) ?_
      rw [strsFrom_eq]
      exact fin (numbered s.toks _) _ ((numbered_texts _ _).trans h)
    · rw [hf] at h
      simp only [Bool.false_eq_true, if_false, if_true] at h
      exact call_meets F.slot_str_split (typeIs_str _ _ _) F.entry_str_split (F.args_str_split_2 _ _) (meets_str_split_not_found (tx x) (tx y) t u h1 hy0 hf) (fin [(tx x, t)] s.toks (by simpa using h))
  · rw [h1] at h
    simp only [if_true] at h
    exact call_meets F.slot_str_split (typeIs_str _ _ _) F.entry_str_split (F.args_str_split_2 _ _) (meets_str_split_cannot_occur (tx x) (tx y) t u h1) (fin [(tx x, t)] s.toks (by simpa using h))

open Builtin Builtin.Str in
theorem gives_find4 (x y : Str) (i j : Int) (t u v w : Tok) (hi : 0 ≤ i) (hj : 0 ≤ j) :
    Gives («str.find» ⟨[.str x t, .str y u, .int i v, .int j w], []⟩) (.int (match occurrences x y i.toNat (min j.toNat x.length) 1 with | k :: _ => (k : Int) | [] => -1)) := by
  show Gives (match occurrences x y (max 0 (if i < 0 then i + x.length else i)).toNat (min (max 0 (if j < 0 then j + x.length else j)).toNat x.length) 1 with | k :: _ => retInt k | [] => (do rule "str.find.not-found"; retInt (-1))) _
  rw [if_neg (by lia), if_neg (by lia), Int.max_eq_right hi, Int.max_eq_right hj]
  cases occurrences x y i.toNat (min j.toNat x.length) 1 with
  | nil => exact .rule (.of_eq rfl)
  | cons k _ => exact .of_eq rfl
theorem OpL.find4 {x y : List Nat} {i j r : Int} (hi : 0 ≤ i) (hj : 0 ≤ j) (h : (match occ x y i.toNat (min j.toNat x.length) 1 with | k :: _ => (k : Int) | [] => -1) = r) :
    OpL C (fun vs => call (.builtin "str.find") vs) [S x, S y, .int i, .int j] (.int r) := by
  refine ⟨?_⟩; intro A N s vs _ _ rr
  obtain ⟨v, w, rfl, r1, r2⟩ := rr.cons_inv
  obtain ⟨v', w', rfl, q2, r3⟩ := r2.cons_inv
  obtain ⟨v'', w'', rfl, q3, r4⟩ := r3.cons_inv
  obtain ⟨v''', w''', rfl, q4, r5⟩ := r4.cons_inv
  obtain rfl := r5.nil_inv
  obtain ⟨t, rfl⟩ := r1.str_inv
  obtain ⟨u, rfl⟩ := q2.str_inv
  obtain ⟨t', rfl⟩ := q3.int_inv
  obtain ⟨u', rfl⟩ := q4.int_inv
  refine call_gives F.slot_str_find (typeIs_str _ _ _) F.entry_str_find (F.args_str_find_4 _ _ _ _) (gives_find4 _ _ i j _ _ _ _ hi hj) ?_
  rw [mk_length, h]
  exact ⟨.int, .tok⟩
end
end Mine

-- text MSub
namespace Mine
open PySem PySem.W PyProof.Rows

theorem seqIndex_spec {i : Int} {n j : Nat} (h : seqIndex? i n = some j) : j < n ∧ ((0 ≤ i ∧ i = j) ∨ (i < 0 ∧ i + n = j)) := by
  unfold seqIndex? at h
  by_cases hi : i < 0
  · simp only [hi, if_true] at h
    by_cases hc : (decide (0 ≤ i + (n : Int)) && decide (i + (n : Int) < n)) = true
    · rw [if_pos hc] at h
      simp only [Bool.and_eq_true, decide_eq_true_eq] at hc
      have := Option.some.inj h
      lia
    · rw [if_neg hc] at h; cases h
  · simp only [hi, if_false] at h
    by_cases hc : (decide (0 ≤ i) && decide (i < n)) = true
    · rw [if_pos hc] at h
      simp only [Bool.and_eq_true, decide_eq_true_eq] at hc
      have := Option.some.inj h
      lia
    · rw [if_neg hc] at h; cases h

/-- the slice of a list of anything -/
def psl {α : Type} (xs : List α) (lo hi : Option Int) : List α :=
  (xs.drop (lo.elim 0 (clipAt xs.length))).take (hi.elim xs.length (clipAt xs.length) - lo.elim 0 (clipAt xs.length))
/-- with a step -/
def pst {α : Type} (xs : List α) (lo hi st : Option Int) : List α :=
  (sliceRange (sliceBounds lo hi st xs.length).1 (sliceBounds lo hi st xs.length).2.1 (sliceBounds lo hi st xs.length).2.2).filterMap (xs[·]?)

theorem psl_length {α : Type} (xs : List α) (lo hi : Option Int) : (psl xs lo hi).length ≤ xs.length := by
  unfold psl
  rw [List.length_take, List.length_drop]; lia

section
variable {C : Cx} {k : Nat} {sc : Scope} {nm : List Str} {Γ : List Slot}

/-- an item by an index -/
structure Itm (C : Cx) (d₁ : PyData) (i : Int) (d : PyData) : Prop where
  run : ∀ A (N : Addr → Prop) s v₁ t, AOk 0 A → RepN N s.heap d₁ v₁ → (∃ T id, s.TypeIs v₁ T ∧ typeLookup (.type T) "__getitem__" = pure (some (.builtin id))) ∧ EvS C A (getItem v₁ (.int i t)) N d s

theorem Itm.list {xs : List PyData} {i : Int} {j : Nat} {d : PyData} (hj : seqIndex? i xs.length = some j) (hd : xs[j]? = some d) (hsz : xs.length ≤ 1000000) : Itm C (.list xs) i d := by
  refine ⟨?_⟩; intro A N s v₁ t _ r
  obtain ⟨a, vs, rfl, _, hp, rs⟩ := r.list_inv
  have hl := rs.length
  obtain ⟨v, hv, rv⟩ := rs.get hd
  have hL := PlainList.isl hp
  refine ⟨⟨_, _, hL.typeIs, slot_list_getitem.lookup⟩, ?_⟩
  obtain ⟨h1, ⟨h2, h3⟩ | ⟨h2, h3⟩⟩ := seqIndex_spec hj
  · refine wpAny_getItem_list (x := v) hL h2 (by lia) ?_ ⟨rv, .refl _⟩
    rw [h3]; simpa using hv
  · refine wpAny_getItem_list_neg (x := v) hL h2 (by simp only [List.size_toArray]; lia) (by lia) ?_ ⟨rv, .refl _⟩
    have e : (i + (vs.toArray.size : Int)).toNat = j := by simp only [List.size_toArray]; lia
    rw [e]; simpa using hv
theorem Itm.tuple {xs : List PyData} {i : Int} {j : Nat} {d : PyData} (hj : seqIndex? i xs.length = some j) (hd : xs[j]? = some d) (hsz : xs.length ≤ 1000000) : Itm C (.tuple xs) i d := by
  refine ⟨?_⟩; intro A N s v₁ t _ r
  obtain ⟨a, vs, rfl, hT, rs⟩ := r.tuple_inv
  have hl := rs.length
  obtain ⟨v, hv, rv⟩ := rs.get hd
  refine ⟨⟨_, _, hT.typeIs, slot_tuple_getitem.lookup⟩, ?_⟩
  obtain ⟨h1, h2⟩ := seqIndex_spec hj
  exact PyProof.Rows.getItem_tuple (x := v) hT (by lia) (by lia) (by simpa [hl] using hj) (by simpa using hv) ⟨rv, .refl _⟩
theorem Itm.str {xs : List Nat} {i : Int} {j c : Nat} (hj : seqIndex? i xs.length = some j) (hd : xs[j]? = some c) (hsz : xs.length ≤ 1000000) : Itm C (S xs) i (S [c]) := by
  refine ⟨?_⟩; intro A N s v₁ t _ r
  obtain ⟨u, rfl⟩ := r.str_inv
  refine ⟨⟨_, _, typeIs_str _ _ _, F.slot_str_getitem.lookup⟩, ?_⟩
  obtain ⟨h1, h2⟩ := seqIndex_spec hj
  refine PyProof.Rows.getItem_str (c := c) ?_ ?_ ⟨.str, .tok⟩
  · simp; lia
  · rw [mk_length, hj]; simpa using hd

theorem Ev.item {value slice : Expr} {pos : Pos} {d₁ d : PyData} {i : Int} (h₁ : Ev C k sc nm Γ value d₁) (h₂ : Ev C k sc nm Γ slice (.int i)) (h : Itm C d₁ i d)
    (hs : ∀ o i, subscripted slice false o i = operate [o, i] (getItem o i) := by intro _ _; rfl) : Ev C k sc nm Γ (.Subscript value slice pos) d := by
  refine ⟨?_⟩; intro A e N Sg s a E o
  refine Subscript_ (ev_then h₁ a E o fun v₁ s₁ r₁ k₁ o₁ => ev_then h₂ a E o₁ fun v₂ s₂ r₂ k₂ o₂ => ?_)
  obtain ⟨t, rfl⟩ := r₂.int_inv
  obtain ⟨⟨T, id, hT, hl⟩, hg⟩ := h.run A _ s₂ v₁ t a.zero (r₁.keeps k₂.heap)
  exact tail_any hT hl (wp_keep hg fun v s' hv => ⟨hv.1, (k₁.trans k₂).trans hv.2⟩) (hs _ _)

/-- an item of a list that is being built -/
theorem Ev.itemOwn {x : Str} {slice : Expr} {pos xpos : Pos} {xs : List PyData} {d : PyData} {i : Int} {j n : Nat} (h₁ : Slt nm Γ x (.own xs) n) (hn : plainName x = true) (h₂ : Ev C k sc nm Γ slice (.int i))
    (hj : seqIndex? i xs.length = some j) (hd : xs[j]? = some d) (hsz : xs.length ≤ 1000000)
    (hs : ∀ o i, subscripted slice false o i = operate [o, i] (getItem o i) := by intro _ _; rfl) : Ev C k sc nm Γ (.Subscript (.Name x xpos) slice pos) d := by
  refine ⟨?_⟩; intro A e N Sg s a E o
  obtain ⟨b, vs, hv, hS, hN, hp, rs⟩ := o.slots n x _ h₁.get.1 h₁.get.2
  refine Subscript_ (wpAny_Name (load_var E hn hv (ev_then h₂ a E o fun v₂ s₂ r₂ k₂ o₂ => ?_)) (plainName.dbg hn))
  obtain ⟨t, rfl⟩ := r₂.int_inv
  have hp₂ : s₂.heap.PlainList b vs.toArray := let ⟨n, e⟩ := hp; ⟨n, k₂.heap _ _ e⟩
  have rs₂ := rs.keeps k₂.heap
  have hl := rs.length
  obtain ⟨v, hv, rv⟩ := rs₂.get hd
  have hL := PlainList.isl hp₂
  refine tail_any hL.typeIs slot_list_getitem.lookup ?_ (hs _ _)
  obtain ⟨h1, ⟨h2, h3⟩ | ⟨h2, h3⟩⟩ := seqIndex_spec hj
  · refine wpAny_getItem_list (x := v) hL h2 (by lia) ?_ ⟨rv.mono fun _ h => h.elim, k₂⟩
    rw [h3]; simpa using hv
  · refine wpAny_getItem_list_neg (x := v) hL h2 (by simp only [List.size_toArray]; lia) (by lia) ?_ ⟨rv.mono fun _ h => h.elim, k₂⟩
    have e : (i + (vs.toArray.size : Int)).toNat = j := by simp only [List.size_toArray]; lia
    rw [e]; simpa using hv

/-- a part of a slice -/
structure Pt (C : Cx) (k : Nat) (sc : Scope) (nm : List Str) (Γ : List Slot) (x : Option Expr) (p : Option Int) : Prop where
  run : ∀ A e N Sg s, AOk k A → EnvOk C sc e nm → Ok C e nm N Γ Sg s → wpAny (model C.prog C.w) A (evalPart x e) (fun v s' => IsPart v p ∧ Kp s s') F0 s
theorem Pt.no : Pt C k sc nm Γ none none := ⟨fun _ _ _ _ s _ _ _ => wpAny_pure ⟨.none, .refl s⟩⟩
theorem Pt.int {x : Expr} {i : Int} (h : Ev C k sc nm Γ x (.int i)) : Pt C k sc nm Γ (some x) (some i) :=
  ⟨fun A e N Sg s a E o => wp_keep (h.run A e N Sg s a E o) fun v s' hv => by obtain ⟨t, rfl⟩ := hv.1.int_inv; exact ⟨.int i t, hv.2⟩⟩
theorem Pt.none {x : Expr} (h : Ev C k sc nm Γ x .none) : Pt C k sc nm Γ (some x) Option.none :=
  ⟨fun A e N Sg s a E o => wp_keep (h.run A e N Sg s a E o) fun v s' hv => by obtain rfl := hv.1.none_inv; exact ⟨.none, hv.2⟩⟩

theorem part_value {v : Value} {p : Option Int} (h : IsPart v p) : ∃ l : Option (Int × Tok), v = partValue l ∧ l.map (·.1) = p := by
  cases h with
  | none => exact ⟨none, rfl, rfl⟩
  | int i t => exact ⟨some (i, t), rfl, rfl⟩

theorem pick_reps {N : Addr → Prop} {h : Heap} {ds : List PyData} {vs : List Value} (r : RepAllN N h ds vs) (js : List Nat) : RepAllN N h (js.filterMap (ds[·]?)) (js.filterMap (vs[·]?)) := by
  have hl := r.length
  induction js with
  | nil => exact .nil
  | cons j js ih =>
    rw [List.filterMap_cons, List.filterMap_cons]
    cases hd : ds[j]? with
    | none =>
      have : vs[j]? = none := by rw [List.getElem?_eq_none_iff] at hd ⊢; lia
      rw [this]; exact ih
    | some d =>
      obtain ⟨v, hv, rv⟩ := r.get hd
      rw [hv]; exact .cons rv ih

theorem Ev.sliceL {value : Expr} {lo hi st : Option Expr} {p pos : Pos} {xs : List PyData} {l u t : Option Int} (h : Ev C k sc nm Γ value (.list xs)) (hlo : Pt C k sc nm Γ lo l) (hhi : Pt C k sc nm Γ hi u) (hst : Pt C k sc nm Γ st t)
    (h0 : t ≠ some 0) (hsz : xs.length ≤ 1000000) : Ev C k sc nm Γ (.Subscript value (.Slice lo hi st p) pos) (.list (pst xs l u t)) := by
  refine ⟨?_⟩; intro A e N Sg s a E o
  refine Subscript_ (ev_then h a E o fun v₁ s₁ r₁ k₁ o₁ => wpAny_Slice (wp_keep (hlo.run A e N Sg s₁ a E o₁) fun v₂ s₂ h₂ => wp_keep (hhi.run A e N Sg s₂ a E (o₁.kp h₂.2)) fun v₃ s₃ h₃ => wp_keep (hst.run A e N Sg s₃ a E ((o₁.kp h₂.2).kp h₃.2)) fun v₄ s₄ h₄ => ?_))
  have kk := (h₂.2.trans h₃.2).trans h₄.2
  obtain ⟨b, vs, rfl, _, ⟨n, hp⟩, rs⟩ := (r₁.keeps kk.heap).list_inv
  have hl := rs.length
  have kp : Kp s₄ { s₄ with heap := s₄.heap.push { cls := .type "slice", data := .fields #[v₂, v₃, v₄] } } := .push
  have hL : ({ s₄ with heap := s₄.heap.push { cls := .type "slice", data := .fields #[v₂, v₃, v₄] } } : Shared).heap.IsList b vs.toArray := ⟨_, kp.heap _ _ hp, rfl, n, rfl⟩
  have hg : ∀ ops, subscripted (.Slice lo hi st p) false (.ref b) (.ref s₄.heap.objs.size) = operate ops (getItem (.ref b) (.ref s₄.heap.objs.size)) →
      wpAny (model C.prog C.w) A (subscriptTail value (.Slice lo hi st p) (.ref b) (.ref s₄.heap.objs.size)) (fun v s' => RepN (fun a => N a ∧ Sg a = none) s'.heap (.list (pst xs l u t)) v ∧ Kp s s') F0
        { s₄ with heap := s₄.heap.push { cls := .type "slice", data := .fields #[v₂, v₃, v₄] } } := by
    intro ops hops
    refine tail_any hL.typeIs slot_list_getitem.lookup (wpAny_getItem_list_slice hL (Heap.IsSliceOf.new _ _ _ _) h₂.1 h₃.1 h₄.1 h0 ⟨?_, ?_⟩ (by simp only [List.size_toArray]; unfold sizeLine; lia)) hops
    · have fr : N (s₄.heap.push { cls := .type "slice", data := .fields #[v₂, v₃, v₄] }).objs.size ∧ Sg (s₄.heap.push { cls := .type "slice", data := .fields #[v₂, v₃, v₄] }).objs.size = none := by
        refine ((o₁.kp kk).kp kp).fresh _ ?_
        exact get_new _
      refine .list (vs := (slicePick vs.toArray l u t).toList) fr ⟨0, Heap.get?_push_size _ rfl⟩ ?_
      have := pick_reps (rs.keeps (h' := (s₄.heap.push { cls := .type "slice", data := .fields #[v₂, v₃, v₄] }).push { cls := .type "list", data := .seq (slicePick vs.toArray l u t) }) fun b o e => Heap.get?_push_of_some _ (kp.heap b o e))
        (sliceRange (sliceBounds l u t xs.length).1 (sliceBounds l u t xs.length).2.1 (sliceBounds l u t xs.length).2.2)
      unfold pst
      have e : (slicePick vs.toArray l u t).toList = (sliceRange (sliceBounds l u t xs.length).1 (sliceBounds l u t xs.length).2.1 (sliceBounds l u t xs.length).2.2).filterMap (vs[·]?) := by
        unfold slicePick
        simp [hl]
      rw [e]
      exact this
    · exact (k₁.trans kk).trans (kp.trans .push)
  cases st with
  | none => exact hg _ rfl
  | some => exact hg _ rfl

theorem pst_none {α : Type} (xs : List α) (lo hi : Option Int) : pst xs lo hi none = psl xs lo hi := by
  unfold pst psl
  rw [sliceBounds_plain]
  simp only [sliceRange_one]
  have : ∀ a k : Nat, ((List.range k).map (a + ·)).filterMap (xs[·]?) = (xs.drop a).take k := fun a k => by
    have := pick_run (xs.toArray) a k
    simpa using this
  exact this _ _

theorem Ev.sliceS {value : Expr} {lo hi : Option Expr} {p pos : Pos} {x : List Nat} {l u : Option Int} (h : Ev C k sc nm Γ value (S x)) (hlo : Pt C k sc nm Γ lo l) (hhi : Pt C k sc nm Γ hi u)
    (hsz : x.length ≤ 1000000) : Ev C k sc nm Γ (.Subscript value (.Slice lo hi none p) pos) (S (psl x l u)) := by
  refine ⟨?_⟩; intro A e N Sg s a E o
  refine Subscript_ (ev_then h a E o fun v₁ s₁ r₁ k₁ o₁ => wpAny_Slice (wp_keep (hlo.run A e N Sg s₁ a E o₁) fun v₂ s₂ h₂ => wp_keep (hhi.run A e N Sg s₂ a E (o₁.kp h₂.2)) fun v₃ s₃ h₃ => ?_))
  rw [evalPart_none]
  refine wpAny_pure ?_
  obtain ⟨t, rfl⟩ := r₁.str_inv
  obtain ⟨l', rfl, hl'⟩ := part_value h₂.1
  obtain ⟨u', rfl, hu'⟩ := part_value h₃.1
  refine tail_any (ops := [_, _]) (typeIs_str _ _ _) F.slot_str_getitem.lookup (wpAny_getItem_str_slice (l := l') (u := u') (st := none) ⟨_, Heap.get?_push_size _ rfl, rfl, rfl⟩ rfl ?_) rfl
  have kk : Kp s { s₃ with heap := s₃.heap.push { cls := .type "slice", data := .fields #[partValue l', partValue u', .none] } } := ((k₁.trans h₂.2).trans h₃.2).trans .push
  have e : (slicePicked (tx x) l' u' none).filterMap ((tx x).cps[·]?) = psl x l u := by
    rw [← pst_none]
    unfold slicePicked pst
    rw [hl', hu', mk_length]
    have e1 : Builtin.Str.strSliceIndices l u (((none : Option (Int × Tok)).map (·.1)).getD 1) x.length = sliceRange (sliceBounds l u none x.length).1 (sliceBounds l u none x.length).2.1 (sliceBounds l u none x.length).2.2 := by
      cases l <;> cases u <;> rfl
    rw [e1]
    simp
  have hlen : (slicePicked (tx x) l' u' none).length = (psl x l u).length := by
    unfold slicePicked
    have e1 : Builtin.Str.strSliceIndices l u (((none : Option (Int × Tok)).map (·.1)).getD 1) x.length = sliceRange (sliceBounds l u none x.length).1 (sliceBounds l u none x.length).2.1 (sliceBounds l u none x.length).2.2 := by
      cases l <;> cases u <;> rfl
    rw [hl', hu', mk_length, e1, sliceBounds_plain]
    simp only [sliceRange_one, List.length_map, List.length_range]
    unfold psl
    rw [List.length_take, List.length_drop]
    have h1 : (u.elim x.length (clipAt x.length)) ≤ x.length := by
      cases u with
      | none => exact Nat.le_refl _
      | some i => have := clipAt_cast x.length i; simp only [Option.elim]; lia
    lia
  unfold sliceMade
  by_cases hc : ((((none : Option (Int × Tok)).map (·.1)).getD 1) == (1 : Int) && (slicePicked (tx x) l' u' none).length == (tx x).length) = true
  · rw [if_pos hc]
    have hlx : (psl x l u).length = x.length := by
      simp only [Bool.and_eq_true, beq_iff_eq] at hc
      rw [← hlen, hc.2, mk_length]
    have : psl x l u = x := by
      unfold psl at hlx ⊢
      rw [List.length_take, List.length_drop] at hlx
      by_cases hx : x.length = 0
      · have : x = [] := List.length_eq_zero_iff.mp hx
        subst this; simp
      · have h0 : l.elim 0 (clipAt x.length) = 0 := by lia
        rw [h0, List.drop_zero]
        exact List.take_of_length_le (by lia)
    rw [this]
    exact ⟨.str, kk⟩
  · rw [if_neg hc, e]
    refine ⟨?_, .str, kk.trans .tok⟩
    rw [mk_length]
    have := psl_length x l u
    unfold sizeLine; lia
end
end Mine

-- text MStmt
namespace Mine
open PySem PySem.W PyProof.Rows

theorem nodup_idx {l : List Str} (h : l.Nodup) {i j : Nat} {x : Str} (hi : l[i]? = some x) (hj : l[j]? = some x) : i = j := by
  obtain ⟨h1, e1⟩ := List.getElem?_eq_some_iff.mp hi
  obtain ⟨h2, e2⟩ := List.getElem?_eq_some_iff.mp hj
  rcases Nat.lt_trichotomy i j with g | g | g
  · exact absurd (e1.trans e2.symm) (List.pairwise_iff_getElem.mp h i j h1 h2 g)
  · exact g
  · exact absurd (e2.trans e1.symm) (List.pairwise_iff_getElem.mp h j i h2 h1 g)

/-- a slot set -/
inductive Upd : List Str → List Slot → Str → Slot → Nat → List Slot → Prop where
  | here {x : Str} {ns : List Str} {g sl : Slot} {Γ : List Slot} : Upd (x :: ns) (g :: Γ) x sl 0 (sl :: Γ)
  | there {x n : Str} {ns : List Str} {sl g : Slot} {Γ Γ' : List Slot} {i : Nat} (h : Upd ns Γ x sl i Γ') : Upd (n :: ns) (g :: Γ) x sl (i + 1) (g :: Γ')
theorem Upd.get {nm : List Str} {Γ Γ' : List Slot} {x : Str} {sl : Slot} {i : Nat} (h : Upd nm Γ x sl i Γ') : nm[i]? = some x ∧ Γ' = Γ.set i sl ∧ i < Γ.length := by
  induction h with
  | here => exact ⟨rfl, rfl, by simp⟩
  | there _ ih => exact ⟨by simpa using ih.1, by rw [ih.2.1]; rfl, by simpa using ih.2.2⟩

/-- less known -/
inductive SLe : Slot → Slot → Prop where
  | same {a : Slot} : SLe a a
  | un {a : Slot} : SLe a .un
inductive GLe : List Slot → List Slot → Prop where
  | nil : GLe [] []
  | cons {a b : Slot} {Γ Γ' : List Slot} (h : SLe a b) (hs : GLe Γ Γ') : GLe (a :: Γ) (b :: Γ')
theorem GLe.get {Γ Γ' : List Slot} (h : GLe Γ Γ') {i : Nat} {b : Slot} (e : Γ'[i]? = some b) : ∃ a, Γ[i]? = some a ∧ SLe a b := by
  induction h generalizing i with
  | nil => simp at e
  | cons h _ ih =>
    cases i with
    | zero => simp at e; subst e; exact ⟨_, rfl, h⟩
    | succ i => simpa using ih (by simpa using e)
theorem GLe.refl : ∀ Γ : List Slot, GLe Γ Γ
  | [] => .nil
  | _ :: r => .cons .same (GLe.refl r)

theorem not_seq_ns {h : Heap} {a : Addr} {m : Str → Option Value} (x : h.Ns a m) : ∀ o, h.get? a = some o → ¬ ∃ vs n, o.data = .seq vs n := by
  obtain ⟨o, es, ep, ho, hd, _⟩ := x
  intro o' ho' ⟨vs, n, e⟩
  rw [ho] at ho'; cases ho'
  rw [hd] at e; cases e
theorem not_seq_cell {h : Heap} {a : Addr} {v : Option Value} (x : h.IsCell a v) : ∀ o, h.get? a = some o → ¬ ∃ vs n, o.data = .seq vs n := by
  obtain ⟨o, ho, hd⟩ := x
  intro o' ho' ⟨vs, n, e⟩
  rw [ho] at ho'; cases ho'
  rw [hd] at e; cases e

section
variable {C : Cx} {k : Nat} {sc : Scope} {nm : List Str} {Γ Γ' : List Slot} {A : Around} {e : Env} {N : Addr → Prop} {Sg : Addr → Option Nat} {s s' : Shared}

theorem Ok.le (o : Ok C e nm N Γ Sg s) (h : GLe Γ Γ') : Ok C e nm N Γ' Sg s where
  base := o.base
  fresh := o.fresh
  hbS := o.hbS
  bare := o.bare
  ns := o.ns
  cells := o.cells
  list := o.list
  slots := fun i x sl q r => by
    obtain ⟨a, ha, hs⟩ := h.get r
    cases hs with
    | same => exact o.slots i x _ q ha
    | un => trivial

/-- a frame's own cell or dict is written -/
theorem ok_frame {b : Addr} {x : Str} {i : Nat} {sl : Slot} (E : EnvOk C sc e nm) (o : Ok C e nm N Γ Sg s) (hi : nm[i]? = some x) (hb : C.hb.get? b = none)
    (hs : ∀ ob, s.heap.get? b = some ob → ¬ ∃ vs n, ob.data = .seq vs n) (hlive : ∃ ob, s'.heap.get? b = some ob) (hsame : Heap.SameBut b s.heap s'.heap) (hos : s'.os = s.os) (hg : s'.gens = s.gens)
    (hfr : b = e.locals ∨ ∃ y, e.cells.lookup y = some b)
    (ns : ∃ m, s'.heap.Ns e.locals m) (cells : ∀ x c, e.cells.lookup x = some c → ∃ v, s'.heap.IsCell c v)
    (vars : ∀ y v, y ≠ x → VarIs e s.heap y v → VarIs e s'.heap y v) (hsl : SlotOk e N Sg s'.heap i x sl) : Ok C e nm N (Γ.set i sl) Sg s' ∧ Mv e Sg Sg s s' := by
  have keep : ∀ c oc, s.heap.get? c = some oc → (∃ vs n, oc.data = .seq vs n) → s'.heap.get? c = some oc := fun c oc q d => by
    by_cases h : c = b
    · subst h; exact absurd d (hs _ q)
    · exact (hsame.2 c h).trans q
  have back : ∀ c, s'.heap.get? c = none → s.heap.get? c = none := fun c q => by
    by_cases h : c = b
    · subst h; obtain ⟨ob, q'⟩ := hlive; rw [q] at q'; cases q'
    · exact (hsame.2 c h).symm.trans q
  refine ⟨⟨fun c oc q => ?_, fun c q => o.fresh c (back c q), o.hbS, by rw [hg]; exact o.bare, ns, cells, fun c q => ?_, fun j y sl' q r => ?_⟩, ⟨fun c oc q h1 h2 _ => ?_, fun c oc q => ?_, fun c q => .inl q, hos, fun i x q => by rw [hg]; exact q⟩⟩
  · by_cases h : c = b
    · subst h; rw [hb] at q; cases q
    · exact (hsame.2 c h).trans (o.base c oc q)
  · obtain ⟨vs, oc, ho, hc, n, hd⟩ := o.list c q
    exact ⟨vs, oc, keep c oc ho ⟨vs, n, hd⟩, hc, n, hd⟩
  · by_cases hj : j = i
    · subst hj
      rw [hi] at q; cases q
      by_cases hlt : j < Γ.length
      · rw [List.getElem?_set_self hlt] at r; cases r; exact hsl
      · rw [List.getElem?_eq_none (by simpa using hlt)] at r; cases r
    · rw [List.getElem?_set_ne (Ne.symm hj)] at r
      have hxy : y ≠ x := fun h => by
        subst h
        exact hj (nodup_idx E.nodup q hi)
      have ho := o.slots j y sl' q r
      cases sl' with
      | un => trivial
      | val d => obtain ⟨v, a, b⟩ := ho; exact ⟨v, vars y v hxy a, b.stable fun b o e d _ => keep b o e d⟩
      | own ds => obtain ⟨a, vs, b, c, d, ⟨n, f⟩, g⟩ := ho; exact ⟨a, vs, vars y _ hxy b, c, d, ⟨n, keep _ _ f ⟨_, _, rfl⟩⟩, g.stable fun b o e d _ => keep b o e d⟩
  · by_cases h : c = b
    · subst h
      rcases hfr with rfl | ⟨y, hy⟩
      · exact absurd rfl h1
      · exact absurd hy (h2 y)
    · exact (hsame.2 c h).trans q
  · by_cases h : c = b
    · subst h; exact hlive
    · exact ⟨oc, (hsame.2 c h).trans q⟩

/-- a name of the frame that may be stored to -/
def canStore (sc : Scope) (x : Str) : Bool := sc.names.lookup x == some .local || sc.names.lookup x == some .cell

theorem store_slotK {x : Str} {i : Nat} {v : Value} {sl : Slot} {Q : Unit → Shared → Prop} (E : EnvOk C sc e nm) (o : Ok C e nm N Γ Sg s) (hi : nm[i]? = some x) (hc : canStore sc x = true)
    (hsl : ∀ h' : Heap, VarIs e h' x v → (∀ b o, s.heap.get? b = some o → (∃ vs n, o.data = .seq vs n) → h'.get? b = some o) → SlotOk e N Sg h' i x sl)
    (hq : ∀ s', Ok C e nm N (Γ.set i sl) Sg s' → Mv e Sg Sg s s' → (∀ b o, s.heap.get? b = some o → (∃ vs n, o.data = .seq vs n) → s'.heap.get? b = some o) → Q () s') : wpAny (model C.prog C.w) A (storeName e x v) Q F0 s := by
  have hkind : e.scope.kind = .function := by rw [E.scope]; exact E.kind
  have hk : e.kindOf x = some .local ∨ e.kindOf x = some .cell := by
    unfold canStore at hc
    unfold Env.kindOf
    rw [E.scope]
    cases h : sc.names.lookup x with
    | none => rw [h] at hc; cases hc
    | some kd => rw [h] at hc; cases kd <;> first | exact .inl rfl | exact .inr rfl | cases hc
  rcases hk with hk | hk
  · obtain ⟨m, hns⟩ := o.ns
    refine wpAny_storeName_local hk hns (fun h' hn' hs' => ?_) (by rw [hkind]; rfl)
    have hv : VarIs e h' x v := .inl ⟨hk, _, hn', by simp⟩
    have hsq := not_seq_ns hns
    have keep : ∀ c oc, s.heap.get? c = some oc → (∃ vs n, oc.data = .seq vs n) → h'.get? c = some oc := fun c oc q d => by
      by_cases h : c = e.locals
      · subst h; exact absurd d (hsq _ q)
      · exact (hs'.2 c h).trans q
    obtain ⟨ob, es, ep, hob, _⟩ := id hn'
    have r := ok_frame (s' := { s with heap := h', toks := s.toks + 1 }) (b := e.locals) (sl := sl) E o hi E.hbL hsq ⟨ob, hob⟩ hs' rfl rfl (.inl rfl) ⟨_, hn'⟩
      (fun y c hy => let ⟨w, hw⟩ := o.cells y c hy; ⟨w, hw.sameBut hs' (E.lc y c hy)⟩)
      (fun y w hyx hy => by
        rcases hy with ⟨a, m', b, c⟩ | ⟨a, c, b, d⟩
        · refine .inl ⟨a, _, hn', ?_⟩
          rw [if_neg hyx]
          obtain ⟨o1, es1, ep1, h1, h2, h3, h4⟩ := hns
          obtain ⟨o2, es2, ep2, g1, g2, g3, g4⟩ := b
          rw [h1] at g1; cases g1; rw [h2] at g2; cases g2
          rw [← h4 y, g4 y]; exact c
        · exact .inr ⟨a, c, b, d.sameBut hs' (E.lc y c b)⟩)
      (hsl h' hv keep)
    exact hq _ r.1 r.2 keep
  · have hsc : sc.names.lookup x = some .cell := by unfold Env.kindOf at hk; rw [E.scope] at hk; exact hk
    obtain ⟨c, hcl⟩ := E.cell x hsc
    obtain ⟨w, hw⟩ := o.cells x c hcl
    refine wpAny_storeName_cell hkind hk hcl hw fun h' hv' hs' => ?_
    have hv : VarIs e h' x v := .inr ⟨.inl hk, c, hcl, hv'⟩
    have hsq := not_seq_cell hw
    have keep : ∀ b oc, s.heap.get? b = some oc → (∃ vs n, oc.data = .seq vs n) → h'.get? b = some oc := fun b oc q d => by
      by_cases h : b = c
      · subst h; exact absurd d (hsq _ q)
      · exact (hs'.2 b h).trans q
    obtain ⟨ob, hob, _⟩ := id hv'
    obtain ⟨m, hns⟩ := o.ns
    have r := ok_frame (s' := { s with heap := h' }) (b := c) (sl := sl) E o hi (E.hbC x c hcl) hsq ⟨ob, hob⟩ hs' rfl rfl (.inr ⟨x, hcl⟩) ⟨m, hns.sameBut hs' (Ne.symm (E.lc x c hcl))⟩
      (fun y c' hy => by
        by_cases h : c' = c
        · subst h; exact ⟨_, hv'⟩
        · obtain ⟨w', hw'⟩ := o.cells y c' hy; exact ⟨w', hw'.sameBut hs' h⟩)
      (fun y w' hyx hy => by
        rcases hy with ⟨a, m', b, d⟩ | ⟨a, c', b, d⟩
        · exact .inl ⟨a, m', b.sameBut hs' (Ne.symm (E.lc x c hcl)), d⟩
        · refine .inr ⟨a, c', b, d.sameBut hs' fun h => ?_⟩
          subst h; exact hyx (E.inj y x c' b hcl))
      (hsl h' hv keep)
    exact hq _ r.1 r.2 keep

theorem store_slot {x : Str} {i : Nat} {v : Value} {sl : Slot} {Q : Unit → Shared → Prop} (E : EnvOk C sc e nm) (o : Ok C e nm N Γ Sg s) (hi : nm[i]? = some x) (hc : canStore sc x = true)
    (hsl : ∀ h' : Heap, VarIs e h' x v → (∀ b o, s.heap.get? b = some o → (∃ vs n, o.data = .seq vs n) → h'.get? b = some o) → SlotOk e N Sg h' i x sl)
    (hq : ∀ s', Ok C e nm N (Γ.set i sl) Sg s' → Mv e Sg Sg s s' → Q () s') : wpAny (model C.prog C.w) A (storeName e x v) Q F0 s :=
  store_slotK E o hi hc hsl fun s' a b _ => hq s' a b

theorem store_val {x : Str} {i : Nat} {v : Value} {d : PyData} {Q : Unit → Shared → Prop} (E : EnvOk C sc e nm) (o : Ok C e nm N Γ Sg s) (hi : nm[i]? = some x) (hc : canStore sc x = true)
    (hr : RepN (fun a => N a ∧ Sg a = none) s.heap d v) (hq : ∀ s', Ok C e nm N (Γ.set i (.val d)) Sg s' → Mv e Sg Sg s s' → Q () s') : wpAny (model C.prog C.w) A (storeName e x v) Q F0 s :=
  store_slot (sl := .val d) E o hi hc (fun h' hv hk => ⟨v, hv, hr.stable fun b o e d _ => hk b o e d⟩) hq

/-- plain data, no list within -/
def isFlat : PyData → Bool
  | .none | .bool _ | .int _ | .str _ => true
  | _ => false
theorem RepN.flat {N N' : Addr → Prop} {h h' : Heap} {d : PyData} {v : Value} (r : RepN N h d v) (hf : isFlat d = true) : RepN N' h' d v := by
  cases d with
  | none => rw [r.none_inv]; exact .none
  | bool b => rw [r.bool_inv]; exact .bool
  | int i => obtain ⟨t, rfl⟩ := r.int_inv; exact .int
  | str x => obtain ⟨t, rfl⟩ := r.str_inv; exact .str
  | list => cases hf
  | tuple => cases hf
  | dict => cases hf

/-- a new list, of plain data -/
structure EvF (C : Cx) (k : Nat) (sc : Scope) (nm : List Str) (Γ : List Slot) (ex : Expr) (ds : List PyData) : Prop where
  run : ∀ A e N S s, AOk k A → EnvOk C sc e nm → Ok C e nm N Γ S s → wpAny (model C.prog C.w) A (eval ex e) (fun v s' => ∃ a vs, v = .ref a ∧ s.heap.get? a = none ∧ s'.heap.PlainList a vs.toArray ∧
    RepAllN (fun _ => False) s'.heap ds vs ∧ Kp s s') F0 s

theorem EvF.nil {pos : Pos} : EvF C k sc nm Γ (.List [] pos) [] :=
  ⟨fun A e N S s a E o => wpAny_List (wpAny_items_nil ⟨Nat.zero_le _, _, [], rfl, get_new _, ⟨0, Heap.get?_push_size _ rfl⟩, .nil, .push⟩)⟩

/-- the map of owners with one more -/
def own1 (S : Addr → Option Nat) (a : Addr) (i : Nat) : Addr → Option Nat := fun b => if b = a then some i else S b
def free1 (S : Addr → Option Nat) (a : Addr) : Addr → Option Nat := fun b => if b = a then none else S b

/-- an address of no slot becomes one of the frame's own -/
theorem Ok.own {a : Addr} {i : Nat} (o : Ok C e nm N Γ Sg s) (ha : ∃ vs, s.heap.IsList a vs) (hb : C.hb.get? a = none)
    (hf : ∀ j x sl, nm[j]? = some x → Γ[j]? = some sl → SlotOk e (fun b => N b ∧ b ≠ a) Sg s.heap j x sl) : Ok C e nm N Γ (own1 Sg a i) s where
  base := o.base
  fresh := fun b q => by
    obtain ⟨h1, h2⟩ := o.fresh b q
    refine ⟨h1, ?_⟩
    unfold own1
    rw [if_neg]; exact h2
    rintro rfl
    obtain ⟨vs, ob, ho, _⟩ := ha
    rw [q] at ho; cases ho
  hbS := fun b q => by
    unfold own1 at q
    by_cases h : b = a
    · subst h; exact hb
    · rw [if_neg h] at q; exact o.hbS b q
  bare := o.bare
  ns := o.ns
  cells := o.cells
  list := fun b q => by
    unfold own1 at q
    by_cases h : b = a
    · subst h; exact ha
    · rw [if_neg h] at q; exact o.list b q
  slots := fun j x sl q r => by
    have := hf j x sl q r
    cases sl with
    | un => trivial
    | val d =>
      obtain ⟨v, h1, h2⟩ := this
      refine ⟨v, h1, h2.mono fun b hb => ⟨hb.1.1, ?_⟩⟩
      unfold own1; rw [if_neg hb.1.2]; exact hb.2
    | own ds =>
      obtain ⟨b, vs, h1, h2, h3, h4, h5⟩ := this
      refine ⟨b, vs, h1, ?_, h3.1, h4, h5⟩
      unfold own1; rw [if_neg h3.2]; exact h2

theorem SlotOk.fresh {a : Addr} {h : Heap} {j : Nat} {x : Str} {sl : Slot} (r : SlotOk e N Sg h j x sl) (ha : h.get? a = none) : SlotOk e (fun b => N b ∧ b ≠ a) Sg h j x sl := by
  cases sl with
  | un => trivial
  | val d =>
    obtain ⟨v, h1, as, h2, h3⟩ := r
    refine ⟨v, h1, as, h2, fun b m => ⟨⟨⟨(h3 b m).1.1, ?_⟩, (h3 b m).1.2⟩, (h3 b m).2⟩⟩
    rintro rfl
    obtain ⟨i, n, e⟩ := (h3 b m).2
    rw [ha] at e; cases e
  | own ds =>
    obtain ⟨b, vs, h1, h2, h3, h4, h5⟩ := r
    refine ⟨b, vs, h1, h2, ⟨h3, ?_⟩, h4, h5⟩
    rintro rfl
    obtain ⟨n, e⟩ := h4
    rw [ha] at e; cases e

/-- a list of the frame's own, no more written -/
theorem Ok.freeze {x : Str} {i : Nat} {ds : List PyData} (o : Ok C e nm N Γ Sg s) (hi : nm[i]? = some x) (hs : Γ[i]? = some (.own ds)) : ∃ S', Ok C e nm N (Γ.set i (.val (.list ds))) S' s ∧ ∀ b, S' b ≠ none → Sg b ≠ none := by
  obtain ⟨a, vs, h1, h2, h3, h4, h5⟩ := o.slots i x _ hi hs
  have hS : ∀ b, free1 Sg a b ≠ none → Sg b ≠ none := fun b q => by
    unfold free1 at q
    by_cases h : b = a
    · subst h; rw [if_pos rfl] at q; exact absurd rfl q
    · rw [if_neg h] at q; exact q
  have hSn : ∀ b, Sg b = none → free1 Sg a b = none := fun b q => by unfold free1; by_cases h : b = a <;> simp [h, q]
  refine ⟨free1 Sg a, ⟨o.base, fun b q => ⟨(o.fresh b q).1, hSn b (o.fresh b q).2⟩, fun b q => o.hbS b (hS b q), o.bare, o.ns, o.cells, fun b q => o.list b (hS b q), fun j y sl q r => ?_⟩, hS⟩
  by_cases hj : j = i
  · subst hj
    rw [hi] at q; cases q
    have hlt : j < Γ.length := by
      rcases Nat.lt_or_ge j Γ.length with h | h
      · exact h
      · rw [List.getElem?_eq_none h] at hs; cases hs
    rw [List.getElem?_set_self hlt] at r; cases r
    exact ⟨_, h1, .list ⟨h3, by unfold free1; rw [if_pos rfl]⟩ h4 (h5.mono fun _ f => f.elim)⟩
  · rw [List.getElem?_set_ne (Ne.symm hj)] at r
    have := o.slots j y sl q r
    cases sl with
    | un => trivial
    | val d => obtain ⟨v, g1, g2⟩ := this; exact ⟨v, g1, g2.mono fun b hb => ⟨hb.1, hSn b hb.2⟩⟩
    | own ds' =>
      obtain ⟨b, ws, g1, g2, g3, g4, g5⟩ := this
      refine ⟨b, ws, g1, ?_, g3, g4, g5⟩
      unfold free1
      rw [if_neg]; exact g2
      rintro rfl
      rw [h2] at g2
      exact hj (Option.some.inj g2).symm
end
end Mine

-- text MStmt2
namespace Mine
open PySem PySem.W PyProof.Rows

section
variable {C : Cx} {k : Nat} {sc : Scope} {nm : List Str} {Γ Γ' : List Slot} {A : Around} {e : Env} {N : Addr → Prop} {Sg : Addr → Option Nat} {s s' : Shared}

abbrev Nx (Γ : List Slot) : Out → Prop := fun o => o = .next Γ

/-! sequences -/
theorem Ex.nil {Φ : Out → Prop} (h : Φ (.next Γ)) : Ex C k sc nm Γ [] Φ :=
  ⟨fun A e N S s a E o => wpAny_execs_nil ⟨.next Γ, S, h, ⟨rfl, o⟩, .refl e S s⟩⟩
theorem Ex.nil' : Ex C k sc nm Γ [] (Nx Γ) := .nil rfl

theorem OutOk.not_next {fl : Flow} {o : Out} (h : OutOk C e nm N Sg s fl o) (hn : ∀ Γ, o ≠ .next Γ) : fl ≠ .next := by
  cases o with
  | next Γ => exact absurd rfl (hn Γ)
  | cont Γ => rw [h.1]; nofun
  | brk Γ => rw [h.1]; nofun
  | ret d => obtain ⟨v, e, _⟩ := h; rw [e]; nofun

theorem Ex.cons' {st : Stmt} {rest : List Stmt} {Φ₁ Φ : Out → Prop} (h₁ : E1 C k sc nm Γ st Φ₁) (h₂ : ∀ Γ', Φ₁ (.next Γ') → Ex C k sc nm Γ' rest Φ) (h₃ : ∀ o, Φ₁ o → (∀ Γ', o ≠ .next Γ') → Φ o) :
    Ex C k sc nm Γ (st :: rest) Φ := by
  refine ⟨?_⟩; intro A e N S s a E o
  refine wpAny_execs_cons (wp_keep (h₁.run A e N S s a E o) fun fl s₁ h => ?_)
  obtain ⟨out, S₁, hΦ, hout, hmv⟩ := h
  by_cases hn : ∃ Γ', out = .next Γ'
  · obtain ⟨Γ', rfl⟩ := hn
    obtain ⟨rfl, ok⟩ := hout
    refine wp_keep ((h₂ Γ' hΦ).run A e N S₁ s₁ a E ok) fun fl' s₂ h' => ?_
    obtain ⟨out', S₂, hΦ', hout', hmv'⟩ := h'
    exact ⟨out', S₂, hΦ', hout', hmv.trans hmv'⟩
  · have hn' : ∀ Γ', out ≠ .next Γ' := fun Γ' q => hn ⟨Γ', q⟩
    have := OutOk.not_next hout hn'
    cases fl with
    | next => exact absurd rfl this
    | brk => exact ⟨out, S₁, h₃ out hΦ hn', hout, hmv⟩
    | cont => exact ⟨out, S₁, h₃ out hΦ hn', hout, hmv⟩
    | ret v => exact ⟨out, S₁, h₃ out hΦ hn', hout, hmv⟩
theorem Ex.cons {st : Stmt} {rest : List Stmt} {Γ₁ : List Slot} {Φ : Out → Prop} (h₁ : E1 C k sc nm Γ st (Nx Γ₁)) (h₂ : Ex C k sc nm Γ₁ rest Φ) : Ex C k sc nm Γ (st :: rest) Φ :=
  Ex.cons' h₁ (fun Γ' h => by cases h; exact h₂) fun o h hn => absurd h (hn _)
/-- a last statement -/
theorem Ex.last {st : Stmt} {Φ : Out → Prop} (h : E1 C k sc nm Γ st Φ) : Ex C k sc nm Γ [st] Φ :=
  Ex.cons' h (fun Γ' h => .nil h) fun o h _ => h
theorem ExS.mono {t : Env → Sem Flow} {Φ Ψ : Out → Prop} (h : ExS C k sc nm Γ t Φ) (hm : ∀ o, Φ o → Ψ o) : ExS C k sc nm Γ t Ψ :=
  ⟨fun A e N S s a E o => wp_keep (h.run A e N S s a E o) fun fl s' h' => let ⟨o, S', a, b, c⟩ := h'; ⟨o, S', hm o a, b, c⟩⟩
/-- from less -/
theorem ExS.le {t : Env → Sem Flow} {Φ : Out → Prop} (h : ExS C k sc nm Γ' t Φ) (hl : GLe Γ Γ') : ExS C k sc nm Γ t Φ :=
  ⟨fun A e N S s a E o => h.run A e N S s a E (o.le hl)⟩
/-- a list no more written -/
theorem ExS.freeze {t : Env → Sem Flow} {Φ : Out → Prop} {x : Str} {i : Nat} {ds : List PyData} (hs : Slt nm Γ x (.own ds) i) (hu : Upd nm Γ x (.val (.list ds)) i Γ') (h : ExS C k sc nm Γ' t Φ) : ExS C k sc nm Γ t Φ := by
  refine ⟨?_⟩; intro A e N S s a E o
  obtain ⟨S', o', hS⟩ := o.freeze hs.get.1 hs.get.2
  rw [← hu.get.2.1] at o'
  refine wp_keep (h.run A e N S' s a E o') fun fl s' h' => ?_
  obtain ⟨out, S'', h1, h2, h3⟩ := h'
  refine ⟨out, S'', h1, h2, ⟨fun b ob q g1 g2 g3 => h3.heap b ob q g1 g2 ?_, h3.live, fun b q => (h3.own b q).imp_left (hS b), h3.os, h3.gens⟩⟩
  cases hb : S' b with
  | none => rfl
  | some j => exact absurd g3 (hS b (by rw [hb]; simp))

/-! stores -/
theorem E1.assign {x : Str} {px pos : Pos} {value : Expr} {d : PyData} {i : Nat} (h : Ev C k sc nm Γ value d) (hu : Upd nm Γ x (.val d) i Γ') (hc : canStore sc x = true)
    (hs : ∀ e, e.scope = sc → swapsWith value (some (.Name x px)) pos.line e = pure false := by intro _ _; rfl) : E1 C k sc nm Γ (.Assign [.Name x px] value pos) (Nx Γ') := by
  refine ⟨?_⟩; intro A e N S s a E o
  refine wpAny_Assign_Name (ev_then h a E o fun v s₁ r₁ k₁ o₁ => store_val E o₁ hu.get.1 hc r₁ fun s₂ o₂ m₂ => ?_) (hs e E.scope)
  rw [← hu.get.2.1] at o₂
  exact ⟨_, S, rfl, ⟨rfl, o₂⟩, (Mv.of_kp k₁).trans m₂⟩

theorem E1.assignOwn {x : Str} {px pos : Pos} {value : Expr} {ds : List PyData} {i : Nat} (h : EvF C k sc nm Γ value ds) (hu : Upd nm Γ x (.own ds) i Γ') (hc : canStore sc x = true)
    (hs : ∀ e, e.scope = sc → swapsWith value (some (.Name x px)) pos.line e = pure false := by intro _ _; rfl) : E1 C k sc nm Γ (.Assign [.Name x px] value pos) (Nx Γ') := by
  refine ⟨?_⟩; intro A e N S s a E o
  refine wpAny_Assign_Name (wp_keep (h.run A e N S s a E o) fun v s₁ hv => ?_) (hs e E.scope)
  obtain ⟨b, vs, rfl, hnew, hp, hr, k₁⟩ := hv
  have o₁ := o.kp k₁
  have hbn : C.hb.get? b = none := by
    cases q : C.hb.get? b with
    | none => rfl
    | some ob => have := o.base b ob q; rw [hnew] at this; cases this
  have o₂ : Ok C e nm N Γ (own1 S b i) s₁ := o₁.own ⟨_, PlainList.isl hp⟩ hbn fun j y sl q r => by
    have := SlotOk.fresh (o.slots j y sl q r) hnew
    exact this.keeps k₁.heap
  refine store_slot (sl := .own ds) E o₂ hu.get.1 hc (fun h' hv hk => ⟨b, vs, hv, by unfold own1; rw [if_pos rfl], (o.fresh b hnew).1, ?_, hr.stable fun c o q d _ => hk c o q d⟩) fun s₂ o₃ m₂ => ?_
  · obtain ⟨n, q⟩ := hp
    exact ⟨n, hk b _ q ⟨_, _, rfl⟩⟩
  rw [← hu.get.2.1] at o₃
  refine ⟨_, _, rfl, ⟨rfl, o₃⟩, ?_⟩
  refine ⟨fun c oc q g1 g2 g3 => ?_, fun c oc q => ?_, fun c q => ?_, m₂.os.trans k₁.os, fun i x q => m₂.gens i x (k₁.gens i x q)⟩
  · refine m₂.heap c oc (k₁.heap c oc q) g1 g2 ?_
    unfold own1; rw [if_neg]; exact g3
    rintro rfl; rw [hnew] at q; cases q
  · exact m₂.live c oc (k₁.heap c oc q)
  · by_cases hcb : c = b
    · subst hcb; exact .inr hnew
    · refine .inl ?_
      unfold own1 at q; rw [if_neg hcb] at q; exact q

theorem E1.aug {x : Str} {px pos : Pos} {op : Operator} {value : Expr} {d₀ d₁ d : PyData} {i j : Nat} (hx : Slt nm Γ x (.val d₀) j) (hn : plainName x = true) (h : Ev C k sc nm Γ value d₁) (hop : Op2 C (inplaceOp op) d₀ d₁ d)
    (hu : Upd nm Γ x (.val d) i Γ') (hc : canStore sc x = true) : E1 C k sc nm Γ (.AugAssign (.Name x px) op value pos) (Nx Γ') := by
  refine ⟨?_⟩; intro A e N S s a E o
  obtain ⟨v, hv, hr⟩ := o.slots j x _ hx.get.1 hx.get.2
  refine wpAny_AugAssign_Name (load_var E hn hv (ev_then h a E o fun v₁ s₁ r₁ k₁ o₁ => wp_keep (hop.run A _ s₁ v v₁ a.zero o₁.frs (hr.keeps k₁.heap) r₁) fun v₂ s₂ h₂ => store_val E (o₁.kp h₂.2) hu.get.1 hc h₂.1 fun s₃ o₃ m₃ => ?_))
  rw [← hu.get.2.1] at o₃
  exact ⟨_, S, rfl, ⟨rfl, o₃⟩, (Mv.of_kp (k₁.trans h₂.2)).trans m₃⟩

/-! control -/
theorem E1.ite {test : Expr} {body orelse : List Stmt} {pos : Pos} {b : Bool} {Φ : Out → Prop} (h : Tr C k sc nm Γ test b) (ht : b = true → Ex C k sc nm Γ body Φ) (hf : b = false → Ex C k sc nm Γ orelse Φ) :
    E1 C k sc nm Γ (.If test body orelse pos) Φ := by
  refine ⟨?_⟩; intro A e N S s a E o
  refine wpAny_If (wp_keep (h.run A e N S s a E o) fun r s₁ hr => ?_)
  obtain ⟨rfl, k₁⟩ := hr
  cases r with
  | true =>
    rw [if_pos rfl]
    exact wp_keep ((ht rfl).run A e N S s₁ a E (o.kp k₁)) fun fl s' h' => let ⟨out, S', a, b, c⟩ := h'; ⟨out, S', a, b, (Mv.of_kp k₁).trans c⟩
  | false =>
    rw [if_neg (by decide)]
    exact wp_keep ((hf rfl).run A e N S s₁ a E (o.kp k₁)) fun fl s' h' => let ⟨out, S', a, b, c⟩ := h'; ⟨out, S', a, b, (Mv.of_kp k₁).trans c⟩
theorem E1.ret {value : Expr} {pos : Pos} {d : PyData} {Φ : Out → Prop} (h : Ev C k sc nm Γ value d) (hΦ : Φ (.ret d)) : E1 C k sc nm Γ (.Return (some value) pos) Φ := by
  refine ⟨?_⟩; intro A e N S s a E o
  exact wpAny_Return_some (ev_then h a E o fun v s₁ r₁ k₁ o₁ => ⟨_, S, hΦ, ⟨v, rfl, r₁.mono fun _ h => h.1, Γ, o₁⟩, .of_kp k₁⟩)
theorem E1.assert {test : Expr} {msg : Option Expr} {pos : Pos} {b : Bool} (h : Tr C k sc nm Γ test b) (hb : b = true) : E1 C k sc nm Γ (.Assert test msg pos) (Nx Γ) := by
  refine ⟨?_⟩; intro A e N S s a E o
  exact wpAny_Assert_holds (wp_keep (h.run A e N S s a E o) fun r s₁ hr => ⟨hr.1.trans hb, _, S, rfl, ⟨rfl, o.kp hr.2⟩, .of_kp hr.2⟩)

/-! a list of the frame's own, written -/
theorem ok_mut {x : Str} {i : Nat} {ds ds' : List PyData} {a : Addr} {vs vs' : List Value} (E : EnvOk C sc e nm) (o : Ok C e nm N Γ Sg s) (hi : nm[i]? = some x) (hg : Γ[i]? = some (.own ds)) (hv : VarIs e s.heap x (.ref a)) (hS : Sg a = some i) (hN : N a)
    (hp : s.heap.PlainList a vs.toArray) (hp' : s'.heap.PlainList a vs'.toArray) (hsame : Heap.SameBut a s.heap s'.heap) (hr : RepAllN (fun _ => False) s.heap ds' vs') (hos : s'.os = s.os) (hgn : s'.gens = s.gens) :
    Ok C e nm N (Γ.set i (.own ds')) Sg s' ∧ Mv e Sg Sg s s' := by
  obtain ⟨n, hp⟩ := hp
  obtain ⟨n', hp'⟩ := hp'
  have keep : ∀ c oc, s.heap.get? c = some oc → c ≠ a → s'.heap.get? c = some oc := fun c oc q d => (hsame.2 c d).trans q
  have back : ∀ c, s'.heap.get? c = none → s.heap.get? c = none := fun c q => by
    by_cases h : c = a
    · subst h; rw [q] at hp'; cases hp'
    · exact (hsame.2 c h).symm.trans q
  have ha_ns : ∀ b m, s.heap.Ns b m → b ≠ a := fun b m q h => by subst h; exact not_seq_ns q _ hp ⟨_, _, rfl⟩
  have ha_cell : ∀ b v, s.heap.IsCell b v → b ≠ a := fun b m q h => by subst h; exact not_seq_cell q _ hp ⟨_, _, rfl⟩
  have var : ∀ y v, VarIs e s.heap y v → VarIs e s'.heap y v := fun y v q => by
    rcases q with ⟨q1, m, q2, q3⟩ | ⟨q1, c, q2, q3⟩
    · exact .inl ⟨q1, m, q2.sameBut hsame (ha_ns _ _ q2), q3⟩
    · exact .inr ⟨q1, c, q2, q3.sameBut hsame (ha_cell _ _ q3)⟩
  have tup : ∀ c oc, s.heap.get? c = some oc → oc.cls = .type "tuple" → s'.heap.get? c = some oc := fun c oc q d => keep c oc q fun h => by
    subst h; rw [hp] at q; cases q; simp at d
  refine ⟨⟨fun c oc q => keep c oc (o.base c oc q) fun h => ?_, fun c q => o.fresh c (back c q), o.hbS, by rw [hgn]; exact o.bare, ?_, fun y c q => ?_, fun c q => ?_, fun j y sl q r => ?_⟩,
    ⟨fun c oc q h1 h2 h3 => keep c oc q fun h => ?_, fun c oc q => ?_, fun c q => .inl q, hos, fun i x q => by rw [hgn]; exact q⟩⟩
  · subst h; have := o.hbS c (by rw [hS]; simp); rw [this] at q; cases q
  · obtain ⟨m, q⟩ := o.ns; exact ⟨m, q.sameBut hsame (ha_ns _ _ q)⟩
  · obtain ⟨v, r⟩ := o.cells y c q; exact ⟨v, r.sameBut hsame (ha_cell _ _ r)⟩
  · by_cases h : c = a
    · subst h; exact ⟨_, _, hp', rfl, n', rfl⟩
    · obtain ⟨ws, oc, q1, q2⟩ := o.list c q; exact ⟨ws, oc, keep c oc q1 h, q2⟩
  · by_cases hj : j = i
    · subst hj
      rw [hi] at q; cases q
      have hlt : j < Γ.length := by
        rcases Nat.lt_or_ge j Γ.length with h | h
        · exact h
        · rw [List.getElem?_eq_none h] at hg; cases hg
      rw [List.getElem?_set_self hlt] at r; cases r
      exact ⟨a, vs', var _ _ hv, hS, hN, ⟨n', hp'⟩, hr.stable fun c oc q d f => f.elim (fun t => tup c oc q t) fun f => f.elim⟩
    · rw [List.getElem?_set_ne (Ne.symm hj)] at r
      have := o.slots j y sl q r
      cases sl with
      | un => trivial
      | val d =>
        obtain ⟨v, g1, g2⟩ := this
        refine ⟨v, var _ _ g1, g2.stable fun c oc q _ f => f.elim (fun t => tup c oc q t) fun f => keep c oc q fun h => ?_⟩
        subst h; rw [hS] at f; cases f.2
      | own ds'' =>
        obtain ⟨b, ws, g1, g2, g3, ⟨m, g4⟩, g5⟩ := this
        refine ⟨b, ws, var _ _ g1, g2, g3, ⟨m, keep b _ g4 fun h => ?_⟩, g5.stable fun c oc q d f => f.elim (fun t => tup c oc q t) fun f => f.elim⟩
        subst h; rw [hS] at g2; exact hj (Option.some.inj g2).symm
  · subst h; rw [hS] at h3; cases h3
  · by_cases h : c = a
    · subst h; exact ⟨_, hp'⟩
    · exact ⟨oc, keep c oc q h⟩

theorem E1.append {x : Str} {px apos pos epos : Pos} {arg : Expr} {ds : List PyData} {d : PyData} {j : Nat} (hx : Slt nm Γ x (.own ds) j) (hn : plainName x = true) (h : Ev C k sc nm Γ arg d) (hf : isFlat d = true)
    (hsz : ds.length ≤ 1000000) (hu : Upd nm Γ x (.own (ds ++ [d])) j Γ')
    (hfew : ∀ e, ((backTo pos (starEach [arg] e)).all (fun x => !x.1) && (backToKw pos (keywordEach [] e)).all (fun x => x.1.isSome)
      && decide ([arg].length + ([] : List Keyword).length + (if ([] : List Keyword).isEmpty then 0 else 1) < 30)) = true := by intro _; rfl)
    (he : ∀ e, starEach [arg] e = (false, eval arg e) :: starEach [] e := by intro _; rfl)
    (hline : (apos.endLine == pos.line) = true := by rfl) : E1 C k sc nm Γ (.Expr (.Call (.Attribute (.Name x px) "append" apos) [arg] [] pos) epos) (Nx Γ') := by
  refine ⟨?_⟩; intro A e N S s a E o
  obtain ⟨b, vs, hv, hS, hN, hp, rs⟩ := o.slots j x _ hx.get.1 hx.get.2
  have hi : interactive e = false := by unfold interactive; rw [E.scope, E.kind]; rfl
  have hslot : PySem.Slot "list" ("append" : Str) "list.append" := F.slot_list_append
  refine wpAny_Expr (wpAny_Call_method (T := "list") (by rfl) (hfew e) hline PySem.F.plainAttrs_list hslot (by kernel_rfl) (wpAny_Name (load_var E hn hv ?_) (plainName.dbg hn))) hi
  obtain ⟨n, hp0⟩ := hp
  refine ⟨⟨_, hp0, rfl⟩, fun c q => by cases q; exact ⟨_, hp0, rfl⟩, Calls.callWith_builtin (by rw [he]; rfl) (evalArgs_any (by rw [he]; rfl) ?_)⟩
  refine wp_keep ((EvL.cons h EvL.nil he).run A e N S s pos a E o) fun ws s₁ hw => ?_
  obtain ⟨v, w, rfl, r1, r2⟩ := hw.1.cons_inv
  obtain rfl := r2.nil_inv
  have hl := rs.length
  refine wpAny_list_append_plain (items := vs.toArray) ⟨n, hw.2.heap _ _ hp0⟩ (fun h' hp' hs' => ?_) (by simp only [List.size_toArray]; unfold sizeLine; lia)
  have o₁ := o.kp hw.2
  have r := ok_mut (s' := { s₁ with heap := h' }) (vs' := vs ++ [v]) (ds' := ds ++ [d]) E o₁ hx.get.1 hx.get.2 (hv.keeps hw.2.heap) hS hN ⟨n, hw.2.heap _ _ hp0⟩ (by simpa using hp') hs' ((rs.keeps hw.2.heap).append (.cons (r1.flat hf) .nil)) rfl rfl
  rw [← hu.get.2.1] at r
  exact ⟨_, S, rfl, ⟨rfl, r.1⟩, (Mv.of_kp hw.2).trans r.2⟩

theorem E1.delItem {x : Str} {px spos pos : Pos} {idx : Expr} {ds : List PyData} {n : Int} {i j : Nat} (hx : Slt nm Γ x (.own ds) j) (hn : plainName x = true) (h : Ev C k sc nm Γ idx (.int n)) (hj : seqIndex? n ds.length = some i)
    (hsz : ds.length ≤ 1000000) (hu : Upd nm Γ x (.own (ds.eraseIdx i)) j Γ') : E1 C k sc nm Γ (.Delete [.Subscript (.Name x px) idx spos] pos) (Nx Γ') := by
  refine ⟨?_⟩; intro A e N S s a E o
  obtain ⟨b, vs, hv, hS, hN, ⟨c, hp0⟩, rs⟩ := o.slots j x _ hx.get.1 hx.get.2
  refine wpAny_Delete (wpAny_deleteEach_cons ?_)
  rw [arm_delete_Subscript]
  refine wpAny_bind (wpAny_Name (load_var E hn hv (wpAny_bind (wpAny_holding (ev_then h a E o fun v₁ s₁ r₁ k₁ o₁ => ?_)))) (plainName.dbg hn))
  obtain ⟨t, rfl⟩ := r₁.int_inv
  have hl := rs.length
  have hsp := seqIndex_spec hj
  refine wpAny_bind (wpAny_standAt (wpAny_bind (wpAny_holding (delItem_at (n := c) (k := i) (k₁.heap _ _ hp0) ?_ (by simpa [hl] using hj) (fun h' hs' hp' => ?_) (by simp only [List.size_toArray]; unfold sizeLine; lia)))))
  · unfold Builtin.List.listFitsIndex; simp only [Bool.and_eq_true, decide_eq_true_eq]; lia
  · have r := ok_mut (s' := { s₁ with heap := h' }) (vs' := vs.eraseIdx i) (ds' := ds.eraseIdx i) E o₁ hx.get.1 hx.get.2 (hv.keeps k₁.heap) hS hN ⟨c, k₁.heap _ _ hp0⟩ ⟨_, hp'⟩ hs' ((rs.keeps k₁.heap).eraseIdx i) rfl rfl
    rw [← hu.get.2.1] at r
    intro Γ p hΓ
    rw [Sem.wp_release]
    exact wpAny_deleteEach_nil ⟨_, S, rfl, ⟨rfl, r.1⟩, (Mv.of_kp k₁).trans r.2⟩

theorem E1.setItem {x : Str} {px spos pos : Pos} {idx value : Expr} {ds : List PyData} {d : PyData} {n : Int} {j : Nat} (hx : Slt nm Γ x (.own ds) j) (hn : plainName x = true) (hv : Ev C k sc nm Γ value d) (hf : isFlat d = true)
    (h : Ev C k sc nm Γ idx (.int n)) (h0 : 0 ≤ n) (h1 : n < ds.length) (hsz : ds.length ≤ 1000000) (hu : Upd nm Γ x (.own (ds.set n.toNat d)) j Γ')
    (hs : ∀ e, swapsWith value (some (.Subscript (.Name x px) idx spos)) pos.line e = pure false := by intro _; rfl) : E1 C k sc nm Γ (.Assign [.Subscript (.Name x px) idx spos] value pos) (Nx Γ') := by
  refine ⟨?_⟩; intro A e N S s a E o
  refine wpAny_Assign_Subscript (ev_then hv a E o fun v s₀ r₀ k₀ o₀ => ?_) (hs e)
  obtain ⟨b, vs, hv, hS, hN, ⟨c, hp0⟩, rs⟩ := o₀.slots j x _ hx.get.1 hx.get.2
  refine wpAny_Name (load_var E hn hv (ev_then h a E o₀ fun v₁ s₁ r₁ k₁ o₁ => ?_)) (plainName.dbg hn)
  obtain ⟨t, rfl⟩ := r₁.int_inv
  have hl := rs.length
  refine ki_setAt (items := vs.toArray) (n := c) (k₁.heap _ _ hp0) h0 (by lia) (by simp only [List.size_toArray]; lia) ?_
  have r := ok_mut (s' := { s₁ with heap := s₁.heap.update b (Obj.mapSeq (·.setIfInBounds n.toNat v)) }) (vs' := vs.set n.toNat v) (ds' := ds.set n.toNat d) E o₁ hx.get.1 hx.get.2 (hv.keeps k₁.heap) hS hN ⟨c, k₁.heap _ _ hp0⟩
    ⟨c, (Heap.get?_update_self _ (k₁.heap _ _ hp0) rfl).trans (by simp [Obj.mapSeq])⟩ (Heap.SameBut.update ..) ((rs.keeps k₁.heap).set n.toNat (r₀.flat hf)) rfl rfl
  rw [← hu.get.2.1] at r
  exact ⟨_, S, rfl, ⟨rfl, r.1⟩, (Mv.of_kp (k₀.trans k₁)).trans r.2⟩
end
end Mine

-- text MBind
namespace Mine
open PySem PySem.W PyProof.Rows

section
variable {C : Cx} {k : Nat} {sc : Scope} {nm : List Str} {Γ Γ₁ Γ' : List Slot} {A : Around} {e : Env} {N : Addr → Prop} {Sg : Addr → Option Nat} {s s' : Shared}

theorem mv_tuple (E : EnvOk C sc e nm) (o : Ok C e nm N Γ Sg s) (m : Mv e Sg Sg s s') {b : Addr} {ob : Obj} (q : s.heap.get? b = some ob) (d : ∃ vs n, ob.data = .seq vs n) (f : ob.cls = .type "tuple" ∨ (N b ∧ Sg b = none)) : s'.heap.get? b = some ob := by
  have h1 : b ≠ e.locals := by
    rintro rfl
    obtain ⟨mm, q'⟩ := o.ns
    exact not_seq_ns q' _ q d
  have h2 : ∀ x, e.cells.lookup x ≠ some b := fun x h => by
    obtain ⟨v, q'⟩ := o.cells x b h
    exact not_seq_cell q' _ q d
  refine m.heap b ob q h1 h2 ?_
  rcases f with f | f
  · cases h : Sg b with
    | none => rfl
    | some j =>
      obtain ⟨vs, ob', q1, q2, _⟩ := o.list b (by rw [h]; simp)
      rw [q] at q1; cases q1; rw [f] at q2; simp at q2
  · exact f.2
theorem RepN.mv {d : PyData} {v : Value} (r : RepN (fun a => N a ∧ Sg a = Option.none) s.heap d v) (E : EnvOk C sc e nm) (o : Ok C e nm N Γ Sg s) (m : Mv e Sg Sg s s') : RepN (fun a => N a ∧ Sg a = Option.none) s'.heap d v :=
  r.stable fun b ob q d f => mv_tuple E o m q d f
theorem RepAllN.mv {ds : List PyData} {vs : List Value} (r : RepAllN (fun a => N a ∧ Sg a = Option.none) s.heap ds vs) (E : EnvOk C sc e nm) (o : Ok C e nm N Γ Sg s) (m : Mv e Sg Sg s s') : RepAllN (fun a => N a ∧ Sg a = Option.none) s'.heap ds vs :=
  r.stable fun b ob q d f => mv_tuple E o m q d f

/-- a target takes a datum -/
structure Bnd (C : Cx) (sc : Scope) (nm : List Str) (Γ : List Slot) (target : Expr) (d : PyData) (Γ' : List Slot) : Prop where
  run : ∀ A e N S s v, AOk 0 A → EnvOk C sc e nm → Ok C e nm N Γ S s → RepN (fun a => N a ∧ S a = none) s.heap d v →
    wpAny (model C.prog C.w) A (assign target e v) (fun _ s' => Ok C e nm N Γ' S s' ∧ Mv e S S s s') F0 s
theorem Bnd.name {x : Str} {p : Pos} {d : PyData} {i : Nat} (hu : Upd nm Γ x (.val d) i Γ') (hc : canStore sc x = true) : Bnd C sc nm Γ (.Name x p) d Γ' := by
  refine ⟨?_⟩; intro A e N S s v a E o r
  refine wpAny_assign_Name (store_val E o hu.get.1 hc r fun s₂ o₂ m₂ => ?_)
  rw [← hu.get.2.1] at o₂
  exact ⟨o₂, m₂⟩

structure BndL (C : Cx) (sc : Scope) (nm : List Str) (Γ : List Slot) (targets : List Expr) (ds : List PyData) (Γ' : List Slot) : Prop where
  run : ∀ A e N S s vs, AOk 0 A → EnvOk C sc e nm → Ok C e nm N Γ S s → RepAllN (fun a => N a ∧ S a = none) s.heap ds vs →
    wpAny (model C.prog C.w) A (assignInOrder ((assignEach targets e).map (·.2)) vs) (fun _ s' => Ok C e nm N Γ' S s' ∧ Mv e S S s s') F0 s
  len : targets.length = ds.length
  star : ∀ e, (assignEach targets e).length = targets.length ∧ (assignEach targets e).findIdx? (·.1) = none
theorem BndL.nil : BndL C sc nm Γ [] [] Γ := by
  refine ⟨?_, rfl, fun _ => ⟨rfl, rfl⟩⟩; intro A e N S s vs a E o r
  obtain rfl := r.nil_inv
  exact wpAny_pure ⟨o, .refl e S s⟩
theorem BndL.cons {t : Expr} {ts : List Expr} {d : PyData} {ds : List PyData} (h : Bnd C sc nm Γ t d Γ₁) (hs : BndL C sc nm Γ₁ ts ds Γ')
    (ht : ∀ e, assignEach (t :: ts) e = (false, assign t e) :: assignEach ts e := by intro _; rfl) : BndL C sc nm Γ (t :: ts) (d :: ds) Γ' := by
  refine ⟨?_, by simp [hs.len], fun e => ?_⟩
  · intro A e N S s vs a E o r
    obtain ⟨v, w, rfl, r1, r2⟩ := r.cons_inv
    rw [ht]
    show wpAny _ A (do holding w (assign t e v); assignInOrder ((assignEach ts e).map (·.2)) w) _ _ s
    refine wpAny_bind (wpAny_holding (wp_keep (h.run A e N S s v a E o r1) fun _ s₁ h₁ => ?_))
    exact wp_keep (hs.run A e N S s₁ w a E h₁.1 (r2.mv E o h₁.2)) fun _ s₂ h₂ => ⟨h₂.1, h₁.2.trans h₂.2⟩
  · rw [ht, List.length_cons, List.findIdx?_cons]
    simp [hs.star e]

theorem Bnd.tup {ts : List Expr} {n : Nat} {p : Pos} {ds : List PyData} (h : BndL C sc nm Γ ts ds Γ') : Bnd C sc nm Γ (.Tuple ts n p) (.tuple ds) Γ' := by
  refine ⟨?_⟩; intro A e N S s v a E o r
  obtain ⟨t, vs, rfl, hT, rs⟩ := r.tuple_inv
  refine assign_Tuple_tuple a.hd hT (by rw [(h.star e).1, h.len, ← rs.length]; simp) (h.star e).2 fun h' he => ?_
  have kp : Kp s { s with heap := h' } := ⟨fun b ob q => he b ob (fun hb => by subst hb; rw [get_new] at q; cases q) q, rfl, fun _ _ q => q, fun q => q⟩
  exact wp_keep (h.run A e N S _ vs a E (o.kp kp) (rs.keeps kp.heap)) fun _ s₂ h₂ => ⟨h₂.1, (Mv.of_kp kp).trans h₂.2⟩

theorem E1.assignT {ts : List Expr} {n : Nat} {tpos pos : Pos} {value : Expr} {d : PyData} (h : Ev C k sc nm Γ value d) (hb : Bnd C sc nm Γ (.Tuple ts n tpos) d Γ')
    (hs : ∀ e, e.scope = sc → swapsWithSole [.Tuple ts n tpos] value pos.line e = pure false := by intro _ _; rfl)
    (hw : ∀ e, e.scope = sc → swappedStores [.Tuple ts n tpos] value e = pure none := by intro _ _; rfl) : E1 C k sc nm Γ (.Assign [.Tuple ts n tpos] value pos) (Nx Γ') := by
  refine ⟨?_⟩; intro A e N S s a E o
  refine PyProof.Rows.Assign_Tuple (ev_then h a E o fun v s₁ r₁ k₁ o₁ => wp_keep (hb.run A e N S s₁ v a.zero E o₁ r₁) fun _ s₂ h₂ => ?_) (hs e E.scope) (hw e E.scope)
  exact ⟨_, S, rfl, ⟨rfl, h₂.1⟩, (Mv.of_kp k₁).trans h₂.2⟩

/-- names that take data, one after the other -/
structure Sto (C : Cx) (sc : Scope) (nm : List Str) (Γ : List Slot) (xs : List Str) (ds : List PyData) (Γ' : List Slot) : Prop where
  run : ∀ A e N S s vs, AOk 0 A → EnvOk C sc e nm → Ok C e nm N Γ S s → RepAllN (fun a => N a ∧ S a = none) s.heap ds vs →
    wpAny (model C.prog C.w) A (assignInOrder (xs.map fun n => bindName e n) vs) (fun _ s' => Ok C e nm N Γ' S s' ∧ Mv e S S s s') F0 s
theorem Sto.nil : Sto C sc nm Γ [] [] Γ := by
  refine ⟨?_⟩; intro A e N S s vs a E o r
  obtain rfl := r.nil_inv
  exact wpAny_pure ⟨o, .refl e S s⟩
theorem Sto.cons {x : Str} {xs : List Str} {d : PyData} {ds : List PyData} {i : Nat} (hu : Upd nm Γ x (.val d) i Γ₁) (hc : canStore sc x = true) (hs : Sto C sc nm Γ₁ xs ds Γ') : Sto C sc nm Γ (x :: xs) (d :: ds) Γ' := by
  refine ⟨?_⟩; intro A e N S s vs a E o r
  obtain ⟨v, w, rfl, r1, r2⟩ := r.cons_inv
  show wpAny _ A (do holding w (bindName e x v); assignInOrder (xs.map fun n => bindName e n) w) _ _ s
  refine wpAny_bind (wpAny_holding (wpAny_bindName (store_val E o hu.get.1 hc r1 fun s₁ o₁ m₁ => ?_)))
  rw [← hu.get.2.1] at o₁
  exact wp_keep (hs.run A e N S s₁ w a E o₁ (r2.mv E o m₁)) fun _ s₂ h₂ => ⟨h₂.1, m₁.trans h₂.2⟩

theorem RepAllN.reverse {N : Addr → Prop} {h : Heap} {ds : List PyData} {vs : List Value} (r : RepAllN N h ds vs) : RepAllN N h ds.reverse vs.reverse := by
  induction ds generalizing vs with
  | nil => rw [r.nil_inv]; exact .nil
  | cons d ds ih =>
    obtain ⟨v, w, rfl, h1, h2⟩ := r.cons_inv
    rw [List.reverse_cons, List.reverse_cons]
    exact (ih h2).append (.cons h1 .nil)

/-- two names and more at once, of a display -/
theorem E1.assignSw {ts : List Expr} {n : Nat} {tpos pos : Pos} {value : Expr} {ds : List PyData} {names : List Str} (h : Ev C k sc nm Γ value (.tuple ds)) (hl : names.length = ds.length) (hb : Sto C sc nm Γ names.reverse ds.reverse Γ')
    (hw : ∀ e, e.scope = sc → swappedStores [.Tuple ts n tpos] value e = pure (some names))
    (hs : ∀ e, e.scope = sc → swapsWithSole [.Tuple ts n tpos] value pos.line e = pure false := by intro _ _; rfl) : E1 C k sc nm Γ (.Assign [.Tuple ts n tpos] value pos) (Nx Γ') := by
  refine ⟨?_⟩; intro A e N S s a E o
  refine PyProof.Rows.Assign_Tuple_swapped (names := names) (ev_then h a E o fun v s₁ r₁ k₁ o₁ => ?_) (hs e E.scope) (hw e E.scope)
  obtain ⟨t, vs, rfl, hT, rs⟩ := r₁.tuple_inv
  rw [show names.length = vs.toArray.size by rw [hl, ← rs.length]; simp]
  refine PyProof.Rows.unpackItems_tuple a.hd hT fun h' he => ?_
  have kp : Kp s₁ { s₁ with heap := h' } := ⟨fun b ob q => he b ob (fun hb => by subst hb; rw [get_new] at q; cases q) q, rfl, fun _ _ q => q, fun q => q⟩
  refine wp_keep (hb.run A e N S _ vs.reverse a.zero E (o₁.kp kp) (rs.keeps kp.heap).reverse) fun _ s₂ h₂ => ?_
  exact ⟨_, S, rfl, ⟨rfl, h₂.1⟩, (Mv.of_kp (k₁.trans kp)).trans h₂.2⟩
end
end Mine

-- text MIter
namespace Mine
open PySem PySem.W PyProof.Rows

theorem RepN.ex {N : Addr → Prop} {h : Heap} {d : PyData} {v : Value} (r : RepN N h d v) : RepN (fun b => N b ∧ ∃ o, h.get? b = some o) h d v :=
  let ⟨as, r, k⟩ := r; ⟨as, r, fun a m => ⟨⟨(k a m).1, let ⟨i, n, e⟩ := (k a m).2; ⟨_, e⟩⟩, (k a m).2⟩⟩
theorem RepAllN.ex {N : Addr → Prop} {h : Heap} {ds : List PyData} {vs : List Value} (r : RepAllN N h ds vs) : RepAllN (fun b => N b ∧ ∃ o, h.get? b = some o) h ds vs :=
  let ⟨as, r, k⟩ := r; ⟨as, r, fun a m => ⟨⟨(k a m).1, let ⟨i, n, e⟩ := (k a m).2; ⟨_, e⟩⟩, (k a m).2⟩⟩

/-- an iterator's step -/
structure Nxt (wr : List Addr) (gs : List Nat) (s s' : Shared) : Prop where
  heap : ∀ b o, s.heap.get? b = some o → b ∉ wr → s'.heap.get? b = some o
  os : s'.os = s.os
  gens : ∀ i x, s.gens[i]? = some x → i ∉ gs → s'.gens[i]? = some x
  bare : AllBare s.gens → AllBare s'.gens

/-- an iterator over data -/
structure WalkD (C : Cx) (A : Around) (I : Addr) (wr : List Addr) (gs : List Nat) (N : Addr → Prop) (ds : List PyData) (St : Nat → Shared → Prop) : Prop where
  frame : ∀ i s s', St i s → (∀ b o, s.heap.get? b = some o → (b ∈ wr ∨ ((∃ vs n, o.data = .seq vs n) ∧ (o.cls = .type "tuple" ∨ N b))) → s'.heap.get? b = some o) → (∀ g, g ∈ gs → s'.gens[g]? = s.gens[g]?) →
    (∀ b o, C.hb.get? b = some o → s'.heap.get? b = some o) → AllBare s'.gens → St i s'
  item : ∀ i s d, ds[i]? = some d → St i s → wpAny (model C.prog C.w) A (pyNext (.ref I)) (fun r s' => ∃ v, r = some v ∧ RepN N s'.heap d v ∧ St (i + 1) s' ∧ Nxt wr gs s s') F0 s
  done : ∀ s, St ds.length s → wpAny (model C.prog C.w) A (pyNext (.ref I)) (fun r s' => r = none ∧ Nxt wr gs s s') F0 s
  wrf : ∀ i s, St i s → ∀ b ∈ wr, ∃ o, s.heap.get? b = some o ∧ ¬ ∃ vs n, o.data = .seq vs n
  gsf : ∀ i s, St i s → ∀ g ∈ gs, ∃ y, s.gens[g]? = some y
  self : ∀ i s, St i s → wpAny (model C.prog C.w) A (pyIter (.ref I)) (fun r s' => r = .ref I ∧ s' = s) F0 s
  lot : ∀ i s target v, St i s → (∀ a, v = .ref a → ∃ o, s.heap.get? a = some o) → wpAny (model C.prog C.w) A (letOwnedTupleGo target (.ref I) v) (fun _ s' => s' = s) F0 s

/-- what may be gone through -/
structure Itr (C : Cx) (k : Nat) (sc : Scope) (nm : List Str) (Γ : List Slot) (ex : Expr) (ds : List PyData) : Prop where
  run : ∀ A e N S s, AOk k A → EnvOk C sc e nm → Ok C e nm N Γ S s → wpAny (model C.prog C.w) A (eval ex e) (fun x s₁ => wpAny (model C.prog C.w) A (pyIter x) (fun it s₂ => ∃ I wr gs NN St, it = .ref I ∧ Kp s s₂ ∧
    WalkD C A I wr gs NN ds St ∧ St 0 s₂ ∧ (∀ b ∈ wr, s.heap.get? b = none) ∧ (∀ g ∈ gs, s.gens[g]? = none) ∧ (∀ b, NN b → N b ∧ S b = none ∧ ∃ o, s₂.heap.get? b = some o)) F0 s₁) F0 s

/-- an iterator over data, of which more objects may come to be -/
structure WalkV (C : Cx) (A : Around) (I : Addr) (gs : List Nat) (N : Addr → Prop) (ds : List PyData) (St : Nat → List Addr → Shared → Prop) : Prop where
  frame : ∀ i wr s s', St (i + 1) wr s → (∀ b o, s.heap.get? b = some o → (b ∈ wr ∨ ((∃ vs n, o.data = .seq vs n) ∧ (o.cls = .type "tuple" ∨ N b))) → s'.heap.get? b = some o) → (∀ g, g ∈ gs → s'.gens[g]? = s.gens[g]?) →
    (∀ b o, C.hb.get? b = some o → s'.heap.get? b = some o) → AllBare s'.gens → St (i + 1) wr s'
  item : ∀ i wr s d, ds[i]? = some d → St i wr s → wpAny (model C.prog C.w) A (pyNext (.ref I)) (fun r s' => ∃ v wr', r = some v ∧ RepN N s'.heap d v ∧ St (i + 1) wr' s' ∧ Nxt wr gs s s' ∧ (∀ b ∈ wr', b ∈ wr ∨ s.heap.get? b = none) ∧ ∀ b ∈ wr, b ∈ wr') F0 s
  done : ∀ wr s, St ds.length wr s → wpAny (model C.prog C.w) A (pyNext (.ref I)) (fun r s' => r = none ∧ Nxt wr gs s s') F0 s
  wrf : ∀ i wr s, St i wr s → ∀ b ∈ wr, ∃ o, s.heap.get? b = some o ∧ ¬ ∃ vs n, o.data = .seq vs n
  gsf : ∀ i wr s, St i wr s → ∀ g ∈ gs, ∃ y, s.gens[g]? = some y
  lot : ∀ i wr s target v, St i wr s → (∀ a, v = .ref a → ∃ o, s.heap.get? a = some o) → wpAny (model C.prog C.w) A (letOwnedTupleGo target (.ref I) v) (fun _ s' => s' = s) F0 s

theorem WalkD.v {C : Cx} {A : Around} {I : Addr} {wr : List Addr} {gs : List Nat} {N : Addr → Prop} {ds : List PyData} {St : Nat → Shared → Prop} (W : WalkD C A I wr gs N ds St) :
    WalkV C A I gs N ds (fun i wr' s => wr' = wr ∧ St i s) where
  frame := fun i wr' s s' ⟨h, st⟩ k => by subst h; exact fun g h hb => ⟨rfl, W.frame (i + 1) s s' st k g h hb⟩
  item := fun i wr' s d hd ⟨h, st⟩ => by
    subst h
    exact wpAny_mono (W.item i s d hd st) (fun r s' ⟨v, h1, h2, h3, h4⟩ => ⟨v, _, h1, h2, ⟨rfl, h3⟩, h4, fun b m => .inl m, fun b m => m⟩) fun _ _ x => x
  done := fun wr' s ⟨h, st⟩ => by subst h; exact W.done s st
  wrf := fun i wr' s ⟨h, st⟩ => by subst h; exact W.wrf i s st
  gsf := fun i wr' s ⟨h, st⟩ => by subst h; exact W.gsf i s st
  lot := fun i wr' s t v ⟨h, st⟩ => by subst h; exact W.lot i s t v st

structure ItrV (C : Cx) (k : Nat) (sc : Scope) (nm : List Str) (Γ : List Slot) (ex : Expr) (ds : List PyData) : Prop where
  run : ∀ A e N S s, AOk k A → EnvOk C sc e nm → Ok C e nm N Γ S s → wpAny (model C.prog C.w) A (eval ex e) (fun x s₁ => wpAny (model C.prog C.w) A (pyIter x) (fun it s₂ => ∃ I wr gs NN St, it = .ref I ∧ Kp s s₂ ∧
    WalkV C A I gs NN ds St ∧ St 0 wr s₂ ∧ (∀ b ∈ wr, s.heap.get? b = none) ∧ (∀ g ∈ gs, s.gens[g]? = none) ∧ (∀ b, NN b → N b ∧ S b = none ∧ ∃ o, s₂.heap.get? b = some o)) F0 s₁) F0 s
theorem Itr.v {C : Cx} {k : Nat} {sc : Scope} {nm : List Str} {Γ : List Slot} {ex : Expr} {ds : List PyData} (h : Itr C k sc nm Γ ex ds) : ItrV C k sc nm Γ ex ds :=
  ⟨fun A e N S s a E o => wpAny_mono (h.run A e N S s a E o) (fun x s₁ h₁ => wpAny_mono h₁ (fun it s₂ ⟨I, wr, gs, NN, St, h1, h2, h3, h4, h5⟩ => ⟨I, wr, gs, NN, _, h1, h2, h3.v, ⟨rfl, h4⟩, h5⟩) fun _ _ x => x) fun _ _ x => x⟩

section
variable {C : Cx} {k : Nat} {sc : Scope} {nm : List Str} {Γ Γ₁ Γ' : List Slot} {A : Around} {e : Env} {N : Addr → Prop} {Sg S₁ : Addr → Option Nat} {s s₁ s' : Shared}

theorem Ok.nxt {wr : List Addr} {gs : List Nat} (o : Ok C e nm N Γ Sg s) (x : Nxt wr gs s s') (hw : ∀ b ∈ wr, ∃ ob, s.heap.get? b = some ob ∧ ¬ ∃ vs n, ob.data = .seq vs n) (hb : ∀ b ∈ wr, C.hb.get? b = none)
    (hL : e.locals ∉ wr) (hC : ∀ x c, e.cells.lookup x = some c → c ∉ wr)
    (hf : ∀ b ∈ wr, s'.heap.get? b = none → N b ∧ Sg b = none) : Ok C e nm N Γ Sg s' := by
  have seq : ∀ b ob, s.heap.get? b = some ob → (∃ vs n, ob.data = .seq vs n) → s'.heap.get? b = some ob := fun b ob q d => x.heap b ob q fun m => by
    obtain ⟨ob', q', d'⟩ := hw b m
    rw [q] at q'; cases q'; exact d' d
  have var : ∀ y v, VarIs e s.heap y v → VarIs e s'.heap y v := fun y v q => by
    rcases q with ⟨q1, m, ⟨ob, es, ep, h1, h2, h3⟩, q3⟩ | ⟨q1, c, q2, ob, h1, h2⟩
    · exact .inl ⟨q1, m, ⟨ob, es, ep, x.heap _ ob h1 hL, h2, h3⟩, q3⟩
    · exact .inr ⟨q1, c, q2, ob, x.heap _ ob h1 (hC _ _ q2), h2⟩
  refine ⟨fun b ob q => x.heap b ob (o.base b ob q) (fun m => by rw [hb b m] at q; cases q), fun b q => ?_, o.hbS, x.bare o.bare, ?_, fun y c q => ?_, fun b q => ?_, fun j y sl q r => ?_⟩
  · by_cases hm : b ∈ wr
    · exact hf b hm q
    · refine o.fresh b ?_
      cases h : s.heap.get? b with
      | none => rfl
      | some ob => rw [x.heap b ob h hm] at q; cases q
  · obtain ⟨m, ob, es, ep, h1, h2, h3⟩ := o.ns
    exact ⟨m, ob, es, ep, x.heap _ ob h1 hL, h2, h3⟩
  · obtain ⟨v, ob, h1, h2⟩ := o.cells y c q
    exact ⟨v, ob, x.heap _ ob h1 (hC y c q), h2⟩
  · obtain ⟨vs, ob, h1, h2, n, h3⟩ := o.list b q
    exact ⟨vs, ob, seq b ob h1 ⟨vs, n, h3⟩, h2, n, h3⟩
  · have := o.slots j y sl q r
    cases sl with
    | un => trivial
    | val d => obtain ⟨v, g1, g2⟩ := this; exact ⟨v, var _ _ g1, g2.stable fun b ob q d _ => seq b ob q d⟩
    | own ds => obtain ⟨b, vs, g1, g2, g3, ⟨n, g4⟩, g5⟩ := this; exact ⟨b, vs, var _ _ g1, g2, g3, ⟨n, seq b _ g4 ⟨_, _, rfl⟩⟩, g5.stable fun b ob q d _ => seq b ob q d⟩

theorem Mv.nxt {wr : List Addr} {gs : List Nat} (m : Mv e Sg S₁ s s₁) (x : Nxt wr gs s₁ s') (hw : ∀ b ∈ wr, s.heap.get? b = none) (hg : ∀ g ∈ gs, s.gens[g]? = none) : Mv e Sg S₁ s s' where
  heap := fun b o q h1 h2 h3 => x.heap b o (m.heap b o q h1 h2 h3) fun hm => by rw [hw b hm] at q; cases q
  live := fun b o q => let ⟨o', q'⟩ := m.live b o q; ⟨o', x.heap b o' q' fun hm => by rw [hw b hm] at q; cases q⟩
  own := m.own
  os := x.os.trans m.os
  gens := fun i y q => x.gens i y (m.gens i y q) fun hm => by rw [hg i hm] at q; cases q

theorem E1.forP {target iter : Expr} {body : List Stmt} {pos : Pos} {ds : List PyData} {Φ : Out → Prop} (Pi : Nat → Prop) (Inv : Nat → List Slot) (hit : ItrV C k sc nm Γ iter ds) (h0 : GLe Γ (Inv 0)) (hp0 : Pi 0)
    (hstep : ∀ (i : Nat) (d : PyData), Pi i → ds[i]? = some d → ∃ Γb, Bnd C sc nm (Inv i) target d Γb ∧ Ex C k sc nm Γb body (fun o => (∃ Γ', (o = .next Γ' ∨ o = .cont Γ') ∧ GLe Γ' (Inv (i + 1)) ∧ Pi (i + 1)) ∨ (∃ r, o = .ret r ∧ Φ (.ret r))))
    (hend : Pi ds.length → Φ (.next (Inv ds.length)))
    (hs : ∀ e x, foldedSetIterable iter e x = pure x := by intro _ _; rfl) : E1 C k sc nm Γ (.For target iter body [] pos) Φ := by
  refine ⟨?_⟩; intro A e N S s a E o
  refine wpAny_For (wp_keep (hit.run A e N S s a E o) fun x s₁ h₁ => wp_keep h₁ fun it s₂ h₂ => ?_) (hs e)
  obtain ⟨I, wr, gs, NN, St, rfl, k₂, W, hst, hwr, hgs, hNN⟩ := h₂
  have hbw : ∀ b, s.heap.get? b = none → C.hb.get? b = none := fun b m => by
    cases q : C.hb.get? b with
    | none => rfl
    | some ob => have := o.base b ob q; rw [m] at this; cases this
  have hwL : ∀ {wr : List Addr}, (∀ b ∈ wr, s.heap.get? b = none) → e.locals ∉ wr := fun hwr m => by obtain ⟨_, ob, _, _, q, _⟩ := o.ns; rw [hwr _ m] at q; cases q
  have hwC : ∀ {wr : List Addr}, (∀ b ∈ wr, s.heap.get? b = none) → ∀ x c, e.cells.lookup x = some c → c ∉ wr := fun hwr x c hc m => by obtain ⟨v, ob, q, _⟩ := o.cells x c hc; rw [hwr _ m] at q; cases q
  refine codeAny_forLoop_any
    (fun n s' => ∃ i wr S', n = ds.length + 1 - i ∧ i ≤ ds.length ∧ Pi i ∧ (∀ b ∈ wr, s.heap.get? b = none) ∧ St i wr s' ∧ Ok C e nm N (Inv i) S' s' ∧ Mv e S S' s s' ∧ (∀ b ob, s₂.heap.get? b = some ob → ∃ ob', s'.heap.get? b = some ob') ∧ (∀ b, S' b ≠ none → S b ≠ none ∨ s₂.heap.get? b = none)) ?_ (ds.length + 1)
    ⟨0, wr, S, rfl, Nat.zero_le _, hp0, hwr, hst, (o.kp k₂).le h0, .of_kp k₂, fun b ob q => ⟨ob, q⟩, fun b q => .inl q⟩
  clear hwr hst
  rintro n s₃ ⟨i, wr, S', rfl, hi, hpi, hwr, hst, o₃, m₃, l₃, w₃⟩
  have NNok : ∀ b, NN b → N b ∧ S' b = none := fun b hb => by
    obtain ⟨h1, h2, ob, h3⟩ := hNN b hb
    refine ⟨h1, ?_⟩
    cases h : S' b with
    | none => rfl
    | some j =>
      rcases w₃ b (by rw [h]; simp) with g | g
      · exact absurd h2 g
      · rw [h3] at g; cases g
  refine wpAny_noRaise ?_
  cases hd : ds[i]? with
  | none =>
    have hin : i = ds.length := by rw [List.getElem?_eq_none_iff] at hd; lia
    subst hin
    refine wp_keep (W.done wr s₃ hst) fun r s₄ h₄ => ?_
    obtain ⟨rfl, x₄⟩ := h₄
    refine wpAny_execs_nil ⟨_, S', hend hpi, ⟨rfl, o₃.nxt x₄ (W.wrf _ _ _ hst) (fun b m => hbw b (hwr b m)) (hwL hwr) (hwC hwr) fun b m _ => ⟨(o.fresh b (hwr b m)).1, ?_⟩⟩, m₃.nxt x₄ hwr hgs⟩
    cases h : S' b with
    | none => rfl
    | some j =>
      obtain ⟨ws, ob', g1, g2, n, g3⟩ := o₃.list b (by rw [h]; simp)
      obtain ⟨ob, q', d'⟩ := W.wrf _ _ _ hst b m
      rw [q'] at g1; cases g1; exact (d' ⟨_, _, g3⟩).elim
  | some d =>
    have hlt : i < ds.length := (List.getElem?_eq_some_iff.mp hd).1
    refine wp_keep (W.item i wr s₃ d hd hst) fun r s₄ h₄ => ?_
    obtain ⟨v, wr₄, rfl, r₄, st₄, x₄, nw₄, ow₄⟩ := h₄
    have lv : ∀ b ob, s₃.heap.get? b = some ob → ∃ ob', s₄.heap.get? b = some ob' := fun b ob q => by
      by_cases hm : b ∈ wr
      · obtain ⟨ob', q', _⟩ := W.wrf _ _ _ st₄ b (ow₄ b hm); exact ⟨ob', q'⟩
      · exact ⟨ob, x₄.heap b ob q hm⟩
    have o₄ := o₃.nxt x₄ (W.wrf _ _ _ hst) (fun b m => hbw b (hwr b m)) (hwL hwr) (hwC hwr) fun b hm q => by
      obtain ⟨ob', q', _⟩ := W.wrf _ _ _ st₄ b (ow₄ b hm); rw [q] at q'; cases q'
    have hwr₄ : ∀ b ∈ wr₄, s.heap.get? b = none := fun b m => (nw₄ b m).elim (hwr b) fun q => by
      cases h : s.heap.get? b with
      | none => rfl
      | some ob => obtain ⟨o1, q1⟩ := m₃.live b ob h; rw [q] at q1; cases q1
    have hv : ∀ a, v = .ref a → ∃ ob, s₄.heap.get? a = some ob := fun a q => by
      subst q
      obtain ⟨as, r, _⟩ := r₄
      cases r with
      | list ho => exact ⟨_, ho⟩
      | tuple ho => exact ⟨_, ho⟩
      | dict ho => exact ⟨_, ho⟩
    refine wpAny_noRaise (wp_keep (W.lot (i + 1) wr₄ s₄ target v st₄ hv) fun _ s₄' h₄' => ?_)
    rw [h₄']
    obtain ⟨Γb, hb, hx⟩ := hstep i d hpi hd
    refine wpAny_noRaise (wp_keep (hb.run A e N S' s₄ v a.zero E o₄ (r₄.mono NNok)) fun _ s₅ h₅ => ?_)
    refine wpAny_noRaise (wp_keep (hx.run A e N S' s₅ a E h₅.1) fun fl s₆ h₆ => ?_)
    obtain ⟨out, S'', hout, hok, m₆⟩ := h₆
    have m₅₆ : Mv e S' S'' s₄ s₆ := h₅.2.trans m₆
    have mall : Mv e S S'' s s₆ := (m₃.nxt x₄ hwr hgs).trans m₅₆
    rcases hout with ⟨Γ', hor, hle, hpn⟩ | ⟨rd, rfl, hΦ⟩
    · have hok' : (fl = .next ∨ fl = .cont) ∧ Ok C e nm N Γ' S'' s₆ := by
        rcases hor with rfl | rfl
        · exact ⟨.inl hok.1, hok.2⟩
        · exact ⟨.inr hok.1, hok.2⟩
      have fin : ∃ m, m < ds.length + 1 - i ∧ ∃ i wr S', m = ds.length + 1 - i ∧ i ≤ ds.length ∧ Pi i ∧ (∀ b ∈ wr, s.heap.get? b = none) ∧ St i wr s₆ ∧ Ok C e nm N (Inv i) S' s₆ ∧ Mv e S S' s s₆ ∧ (∀ b ob, s₂.heap.get? b = some ob → ∃ ob', s₆.heap.get? b = some ob') ∧ (∀ b, S' b ≠ none → S b ≠ none ∨ s₂.heap.get? b = none) := by
        have l₆ : ∀ b ob, s₂.heap.get? b = some ob → ∃ ob', s₆.heap.get? b = some ob' := fun b ob q => by
          obtain ⟨o1, q1⟩ := l₃ b ob q
          obtain ⟨o2, q2⟩ := lv b o1 q1
          exact m₅₆.live b o2 q2
        refine ⟨ds.length + 1 - (i + 1), by lia, i + 1, wr₄, S'', rfl, by lia, hpn, hwr₄, ?_, hok'.2.le hle, mall, l₆, fun b q => ?_⟩
        · refine W.frame i wr₄ s₄ s₆ st₄ (fun b ob q hdep => ?_) (fun g hg => ?_) hok'.2.base hok'.2.bare
          · have key : b ≠ e.locals ∧ (∀ x, e.cells.lookup x ≠ some b) ∧ S' b = none := by
              rcases hdep with hdep | ⟨hseq, hdep⟩
              · obtain ⟨ob', q', d'⟩ := W.wrf _ _ _ st₄ b hdep
                rw [q] at q'; cases q'
                refine ⟨fun h => hwL hwr₄ (h ▸ hdep), fun x hx => hwC hwr₄ x b hx hdep, ?_⟩
                cases h : S' b with
                | none => rfl
                | some j =>
                  obtain ⟨ws, ob', g1, g2, n, g3⟩ := o₄.list b (by rw [h]; simp)
                  rw [q] at g1; cases g1; exact (d' ⟨_, _, g3⟩).elim
              · refine ⟨?_, fun x hx => ?_, ?_⟩
                · rintro rfl
                  obtain ⟨mm, q'⟩ := o₄.ns
                  exact not_seq_ns q' _ q hseq
                · obtain ⟨vv, q'⟩ := o₄.cells x b hx
                  exact not_seq_cell q' _ q hseq
                · rcases hdep with t | t
                  · cases h : S' b with
                    | none => rfl
                    | some j =>
                      obtain ⟨ws, ob', g1, g2, n, g3⟩ := o₄.list b (by rw [h]; simp)
                      rw [q] at g1; cases g1; rw [t] at g2; simp at g2
                  · exact (NNok b t).2
            exact m₅₆.heap b ob q key.1 key.2.1 key.2.2
          · obtain ⟨y, q⟩ := W.gsf _ _ _ st₄ g hg
            rw [q]; exact m₅₆.gens g y q
        · rcases m₅₆.own b q with g | g
          · exact w₃ b g
          · refine .inr ?_
            cases h : s₂.heap.get? b with
            | none => rfl
            | some ob =>
              obtain ⟨o1, q1⟩ := l₃ b ob h
              obtain ⟨o2, q2⟩ := lv b o1 q1
              rw [g] at q2; cases q2
      rcases hok'.1 with rfl | rfl
      · exact fin
      · exact fin
    · obtain ⟨v, rfl, hrest⟩ := hok
      exact ⟨_, S'', hΦ, ⟨v, rfl, hrest⟩, mall⟩

theorem E1.forV {target iter : Expr} {body : List Stmt} {pos : Pos} {ds : List PyData} {Φ : Out → Prop} (Inv : Nat → List Slot) (hit : ItrV C k sc nm Γ iter ds) (h0 : GLe Γ (Inv 0))
    (hstep : ∀ (i : Nat) (d : PyData), ds[i]? = some d → ∃ Γb, Bnd C sc nm (Inv i) target d Γb ∧ Ex C k sc nm Γb body (fun o => (∃ Γ', (o = .next Γ' ∨ o = .cont Γ') ∧ GLe Γ' (Inv (i + 1))) ∨ (∃ r, o = .ret r ∧ Φ (.ret r))))
    (hend : Φ (.next (Inv ds.length)))
    (hs : ∀ e x, foldedSetIterable iter e x = pure x := by intro _ _; rfl) : E1 C k sc nm Γ (.For target iter body [] pos) Φ :=
  E1.forP (fun _ => True) Inv hit h0 trivial (fun i d _ hd => let ⟨Γb, h1, h2⟩ := hstep i d hd; ⟨Γb, h1, ⟨fun A e N S s a E o => wp_keep (h2.run A e N S s a E o) fun fl s' ⟨o, S', h3, h4⟩ => ⟨o, S', h3.imp_left fun ⟨Γ', a, b⟩ => ⟨Γ', a, b, trivial⟩, h4⟩⟩⟩) (fun _ => hend) hs

theorem E1.for_ {target iter : Expr} {body : List Stmt} {pos : Pos} {ds : List PyData} {Φ : Out → Prop} (Inv : Nat → List Slot) (hit : Itr C k sc nm Γ iter ds) (h0 : GLe Γ (Inv 0))
    (hstep : ∀ (i : Nat) (d : PyData), ds[i]? = some d → ∃ Γb, Bnd C sc nm (Inv i) target d Γb ∧ Ex C k sc nm Γb body (fun o => (∃ Γ', (o = .next Γ' ∨ o = .cont Γ') ∧ GLe Γ' (Inv (i + 1))) ∨ (∃ r, o = .ret r ∧ Φ (.ret r))))
    (hend : Φ (.next (Inv ds.length)))
    (hs : ∀ e x, foldedSetIterable iter e x = pure x := by intro _ _; rfl) : E1 C k sc nm Γ (.For target iter body [] pos) Φ := E1.forV Inv hit.v h0 hstep hend hs
end
end Mine

-- text MIter2
namespace Mine
open PySem PySem.W PyProof.Rows

section
variable {C : Cx} {k : Nat} {sc : Scope} {nm : List Str} {Γ Γ₁ Γ' : List Slot} {A : Around} {e : Env} {N : Addr → Prop} {Sg S₁ : Addr → Option Nat} {s s₁ s' : Shared}

theorem lot_none {target : Expr} {I : Addr} {v : Value} {o : Obj} {T : String} (ho : s.heap.get? I = some o) (hc : o.cls = .type T)
    (hn : (["enumerate", "zip", "dict_itemiterator", "dict_reverseitemiterator", "odict_iterator", "itertools.zip_longest", "itertools.pairwise"] : List String).contains T = false) :
    wpAny (model C.prog C.w) A (letOwnedTupleGo target (.ref I) v) (fun _ s' => s' = s) F0 s := by
  have key : wpAny (model C.prog C.w) A (do
      let (.ref r, .ref a) := (Value.ref I, v) | return
      let o ← load r
      match o.cls, o.data with
      | .type n, .fields vs =>
        if ["enumerate", "zip", "dict_itemiterator", "dict_reverseitemiterator", "odict_iterator", "itertools.zip_longest", "itertools.pairwise"].contains n && vs[0]? == some (rawInt a) then
          rule "for.unpacks-the-owned-tuple"
          updateField r 0 .none
      | _, _ => pure () : Sem Unit) (fun _ s' => s' = s) F0 s := by
    cases v with
    | ref a =>
      refine wpAny_bind (wpAny_load ho ?_)
      rw [hc]
      cases hd : o.data with
      | fields vs =>
        simp only [hn, Bool.false_and]
        exact wpAny_pure rfl
      | _ => exact wpAny_pure rfl
    | _ => exact wpAny_pure rfl
  cases target with
  | Tuple => exact key
  | List => exact key
  | _ => exact wpAny_pure rfl

theorem Nxt.same {I : Addr} {h' : Heap} {t : Nat} (x : Heap.SameBut I s.heap h') : Nxt [I] [] s { s with heap := h', toks := t } :=
  ⟨fun b o q m => (x.2 b (by simpa using m)).trans q, rfl, fun _ _ q _ => q, fun q => q⟩
theorem Nxt.ext {I : Addr} {h' : Heap} {t : Nat} (x : Heap.ExtBut I s.heap h') : Nxt [I] [] s { s with heap := h', toks := t } :=
  ⟨fun b o q m => x b o (by simpa using m) q, rfl, fun _ _ q _ => q, fun q => q⟩

theorem seq_ne {h : Heap} {I a : Addr} {oI : Obj} {vs : Array Value} {items : Array Value} {n : Nat} {oa : Obj} (hI : h.get? I = some oI) (hd : oI.data = .fields vs) (ha : h.get? a = some oa) (hda : oa.data = .seq items n) : a ≠ I := by
  rintro rfl; rw [hI] at ha; cases ha; rw [hd] at hda; cases hda

theorem RepAllN.same {N : Addr → Prop} {h h' : Heap} {ds : List PyData} {vs : List Value} {I : Addr} {oI : Obj} {w : Array Value} (r : RepAllN N h ds vs) (hI : h.get? I = some oI) (hd : oI.data = .fields w)
    (x : Heap.SameBut I h h') : RepAllN N h' ds vs :=
  r.stable fun b o q d _ => by obtain ⟨ws, n, d⟩ := d; exact (x.2 b (seq_ne hI hd q d)).trans q

theorem Itr.list {ex : Expr} {ds : List PyData} (h : Ev C k sc nm Γ ex (.list ds)) : Itr C k sc nm Γ ex ds := by
  refine ⟨?_⟩; intro A e N S s a E o
  refine ev_then h a E o fun v s₁ r₁ k₁ o₁ => ?_
  obtain ⟨l, vs, rfl, hN, hp, rs⟩ := r₁.ex.list_inv
  have hl := rs.length
  refine wpAny_pyIter_list (PlainList.isl hp) ?_
  have kp : Kp s₁ { s₁ with heap := s₁.heap.push { cls := .type "list_iterator", data := .fields #[.ref l, .int 0 0] } } := .push
  have hp' := hp
  obtain ⟨n, hpn⟩ := hp'
  refine ⟨_, [s₁.heap.objs.size], [], fun b => (N b ∧ S b = none) ∧ ∃ o, s₁.heap.get? b = some o, fun i s => s.heap.IsListIter s₁.heap.objs.size l i ∧ s.heap.PlainList l vs.toArray ∧ RepAllN (fun b => (N b ∧ S b = none) ∧ ∃ o, s₁.heap.get? b = some o) s.heap ds vs,
    rfl, k₁.trans kp, ⟨?_, ?_, ?_, ?_, ?_, ?_, ?_⟩, ⟨⟨_, Heap.get?_push_size _ rfl, rfl, rfl⟩, ⟨n, kp.heap _ _ hpn⟩, rs.keeps kp.heap⟩, ?_, (fun g m => nomatch m), fun b hb => ⟨hb.1.1, hb.1.2, let ⟨o, q⟩ := hb.2; ⟨o, kp.heap b o q⟩⟩⟩
  · rintro i s s' ⟨⟨oi, h1, h2, h3⟩, ⟨n, h4⟩, h5⟩ hk _ _ _
    exact ⟨⟨oi, hk _ _ h1 (.inl (by simp)), h2, h3⟩, ⟨n, hk _ _ h4 (.inr ⟨⟨_, _, rfl⟩, .inr hN⟩)⟩, h5.stable fun b o q d f => hk b o q (.inr ⟨d, f⟩)⟩
  · rintro i s d hd ⟨hI, hp, hr⟩
    obtain ⟨v, hv, rv⟩ := hr.get hd
    refine wpAny_pyNext_list_item hI (PlainList.isl hp) (x := v) (by simpa using hv) fun h' hI' hs => ?_
    obtain ⟨oi, g1, g2, g3⟩ := hI
    obtain ⟨n, g4⟩ := hp
    exact ⟨v, rfl, rv.stable fun b o q d _ => by { obtain ⟨ws, m, d⟩ := d; exact (hs.2 b (seq_ne g1 g3 q d)).trans q }, ⟨hI', ⟨n, (hs.2 _ (seq_ne g1 g3 g4 rfl)).trans g4⟩, hr.same g1 g3 hs⟩, .same hs⟩
  · rintro s ⟨hI, hp, hr⟩
    exact wpAny_pyNext_list_end a.hd hI (PlainList.isl hp) (by simp [hl]) fun h' hs => ⟨rfl, .ext hs⟩
  · rintro i s ⟨⟨oi, g1, g2, g3⟩, _⟩ b hb
    obtain rfl : b = _ := by simpa using hb
    exact ⟨oi, g1, fun ⟨_, _, q⟩ => by rw [g3] at q; cases q⟩
  · intro i s _ g hg; cases hg
  · rintro i s ⟨hI, _⟩
    exact wpAny_pyIter_listiter hI ⟨rfl, rfl⟩
  · rintro i s target v ⟨⟨oi, g1, g2, g3⟩, _⟩ _
    exact lot_none g1 g2 (by decide)
  · intro b hb
    obtain rfl : b = _ := by simpa using hb
    exact k₁.fresh (get_new _)

theorem Itr.tuple {ex : Expr} {ds : List PyData} (h : Ev C k sc nm Γ ex (.tuple ds)) : Itr C k sc nm Γ ex ds := by
  refine ⟨?_⟩; intro A e N S s a E o
  refine ev_then h a E o fun v s₁ r₁ k₁ o₁ => ?_
  obtain ⟨l, vs, rfl, hp, rs⟩ := r₁.ex.tuple_inv
  have hl := rs.length
  refine PyProof.Rows.iter_tuple hp ?_
  have kp : Kp s₁ { s₁ with heap := s₁.heap.push { cls := .type "tuple_iterator", data := .fields #[.ref l, .int 0 0] } } := .push
  refine ⟨_, [s₁.heap.objs.size], [], fun b => (N b ∧ S b = none) ∧ ∃ o, s₁.heap.get? b = some o, fun i s => IsTupIter s.heap s₁.heap.objs.size l i ∧ IsTup s.heap l vs.toArray ∧ RepAllN (fun b => (N b ∧ S b = none) ∧ ∃ o, s₁.heap.get? b = some o) s.heap ds vs,
    rfl, k₁.trans kp, ⟨?_, ?_, ?_, ?_, ?_, ?_, ?_⟩, ⟨⟨_, Heap.get?_push_size _ rfl, rfl, rfl⟩, hp.keeps kp.heap, rs.keeps kp.heap⟩, ?_, (fun g m => nomatch m), fun b hb => ⟨hb.1.1, hb.1.2, let ⟨o, q⟩ := hb.2; ⟨o, kp.heap b o q⟩⟩⟩
  · rintro i s s' ⟨⟨oi, h1, h2, h3⟩, ⟨ot, h4, h6, n, h7⟩, h5⟩ hk _ _ _
    exact ⟨⟨oi, hk _ _ h1 (.inl (by simp)), h2, h3⟩, ⟨ot, hk _ _ h4 (.inr ⟨⟨_, _, h7⟩, .inl h6⟩), h6, n, h7⟩, h5.stable fun b o q d f => hk b o q (.inr ⟨d, f⟩)⟩
  · rintro i s d hd ⟨hI, hp, hr⟩
    obtain ⟨v, hv, rv⟩ := hr.get hd
    refine PyProof.Rows.next_tuple_item hI hp (x := v) (by simpa using hv) fun h' hI' hs => ?_
    obtain ⟨oi, g1, g2, g3⟩ := hI
    obtain ⟨ot, g4, g6, n, g7⟩ := hp
    exact ⟨v, rfl, rv.stable fun b o q d _ => by { obtain ⟨ws, m, d⟩ := d; exact (hs.2 b (seq_ne g1 g3 q d)).trans q }, ⟨hI', ⟨ot, (hs.2 _ (seq_ne g1 g3 g4 g7)).trans g4, g6, n, g7⟩, hr.same g1 g3 hs⟩, .same hs⟩
  · rintro s ⟨hI, hp, hr⟩
    exact PyProof.Rows.next_tuple_end a.hd hI hp (by simp [hl]) fun h' hs => ⟨rfl, .ext hs⟩
  · rintro i s ⟨⟨oi, g1, g2, g3⟩, _⟩ b hb
    obtain rfl : b = _ := by simpa using hb
    exact ⟨oi, g1, fun ⟨_, _, q⟩ => by rw [g3] at q; cases q⟩
  · intro i s _ g hg; cases hg
  · rintro i s ⟨hI, _⟩
    exact wpAny_pyIter_tupleiter (t := l) (i := i) hI ⟨rfl, rfl⟩
  · rintro i s target v ⟨⟨oi, g1, g2, g3⟩, _⟩ _
    exact lot_none g1 g2 (by decide)
  · intro b hb
    obtain rfl : b = _ := by simpa using hb
    exact k₁.fresh (get_new _)

/-- the numbers of a range from 0 -/
abbrev R (n : Nat) : List PyData := (List.range n).map fun i => .int (Int.ofNat i)

/-- what is a range -/
structure EvR (C : Cx) (k : Nat) (sc : Scope) (nm : List Str) (Γ : List Slot) (ex : Expr) (n : Nat) : Prop where
  run : ∀ A e N S s, AOk k A → EnvOk C sc e nm → Ok C e nm N Γ S s → wpAny (model C.prog C.w) A (eval ex e) (fun v s' => ∃ a t u w, v = .ref a ∧ s.heap.get? a = none ∧ IsRange s'.heap a 0 n 1 t u w ∧ Kp s s') F0 s

theorem EvR.mk' {fpos pos : Pos} {arg : Expr} {i : Int} (W : CxOk C) (hx : sc.names.lookup ("range" : Str) = some .globalImplicit) (hm : C.mg "range" = none) (h : Ev C k sc nm Γ arg (.int i))
    (hp : ∀ e, (backTo pos (starEach [arg] e)).any (·.1) = false := by intro _; rfl)
    (he : ∀ e, starEach [arg] e = (false, eval arg e) :: starEach [] e := by intro _; rfl) :
    ∀ A e N S s, AOk k A → EnvOk C sc e nm → Ok C e nm N Γ S s → wpAny (model C.prog C.w) A (eval (.Call (.Name "range" fpos) [arg] [] pos) e) (fun v s' => ∃ a t u w, v = .ref a ∧ s.heap.get? a = none ∧ IsRange s'.heap a 0 i 1 t u w ∧ Kp s s') F0 s := by
  intro A e N S s a E ok
  have hk : e.scope.kind = .function := by rw [E.scope]; exact E.kind
  show wpAny _ A (do callWith pos (← eval (.Name "range" fpos) e) [] (backTo pos (starEach [arg] e)) (backToKw pos (keywordEach [] e))) _ _ s
  refine wpAny_bind (Calls.Name_function_global hk (by unfold Env.kindOf; rw [E.scope]; exact hx) ?_ (by decide))
  refine Calls.loadGlobal_builtin (x := "range") (v := .type "range") (by rw [E.glob]; exact W.g.keeps ok.base) hm (by rw [E.blt]; exact W.b.keeps ok.base) ((W.bts _ (by decide)).trans (by decide +kernel)) ?_
  refine PyProof.Rows.callWith_type (hp e) (args_ (EvL.cons h EvL.nil he) a E ok (hp e) fun vs s₂ r₂ k₂ o₂ => ?_)
  obtain ⟨v, w, rfl, r1, r2⟩ := r₂.cons_inv
  obtain rfl := r2.nil_inv
  obtain ⟨t, rfl⟩ := r1.int_inv
  refine call_range_1 ⟨_, _, _, _, rfl, k₂.fresh (get_new _), IsRange.new _ _ _ _ _ _ _, k₂.trans .push⟩

theorem range_big {i : Int} (h0 : -(2 ^ 40) ≤ i) (h1 : i < 2 ^ 40) : Builtin.Range.small 0 i 1 = true := small_one (by decide) (by decide) (by lia) (by lia)

theorem Itr.range {fpos pos : Pos} {arg : Expr} {i : Int} {n : Nat} (W : CxOk C) (hx : sc.names.lookup ("range" : Str) = some .globalImplicit) (hm : C.mg "range" = none) (h : Ev C k sc nm Γ arg (.int i)) (hi : i = n) (hb : n < 2 ^ 40)
    (hp : ∀ e, (backTo pos (starEach [arg] e)).any (·.1) = false := by intro _; rfl)
    (he : ∀ e, starEach [arg] e = (false, eval arg e) :: starEach [] e := by intro _; rfl) :
    Itr C k sc nm Γ (.Call (.Name "range" fpos) [arg] [] pos) (R n) := by
  subst hi
  refine ⟨?_⟩; intro A e N S s a E o
  refine wp_keep (EvR.mk' W hx hm h hp he A e N S s a E o) fun v s₁ h₁ => ?_
  obtain ⟨r, t, u, w, rfl, hr0, hr, k₁⟩ := h₁
  refine wpAny_pyIter_range hr (range_big (by lia) (by lia)) ?_
  have kp : Kp s₁ { s₁ with heap := s₁.heap.push { cls := .type "range_iterator", data := .fields #[rawInt 0, rawInt (Builtin.Range.rangeSize 0 n 1), rawInt 1] } } := .push
  have hsz : Builtin.Range.rangeSize 0 (n : Int) 1 = n := by rw [rangeSize_one]; split <;> lia
  rw [hsz] at kp ⊢
  have hlen : (R n).length = n := by simp
  refine ⟨_, [s₁.heap.objs.size], [], fun _ => False, fun i s => IsRangeIter s.heap s₁.heap.objs.size i (n - i : Int) 1, rfl, k₁.trans kp, ⟨?_, ?_, ?_, ?_, ?_, ?_, ?_⟩, ?_, ?_, (fun g m => nomatch m), fun b hb => hb.elim⟩
  · intro i s s' h1 hk _ _ _
    exact hk _ _ h1 (.inl (by simp))
  · intro i s d hd h1
    have hlt : i < n := by have := (List.getElem?_eq_some_iff.mp hd).1; lia
    have hdi : d = .int i := by simpa [hlt] using hd.symm
    subst hdi
    refine wpAny_pyNext_range_item h1 (by lia) fun h' hI' hs => ⟨_, rfl, .int, ?_, .same hs⟩
    have e1 : ((i : Int) + 1) = ((i + 1 : Nat) : Int) := by lia
    have e2 : ((n : Int) - i - 1) = (n : Int) - ((i + 1 : Nat) : Int) := by lia
    rw [e1, e2] at hI'
    exact hI'
  · intro s h1
    rw [hlen] at h1
    exact wpAny_pyNext_range_end a.hd h1 (by lia) fun h' hs => ⟨rfl, .ext hs⟩
  · intro i s h1 b hb
    obtain rfl : b = _ := by simpa using hb
    exact ⟨_, h1, fun ⟨_, _, q⟩ => by cases q⟩
  · intro i s _ g hg; cases hg
  · intro i s h1
    exact wpAny_pyIter_rangeiter h1 ⟨rfl, rfl⟩
  · intro i s target v h1 _
    exact lot_none h1 rfl (by decide)
  · have := Heap.get?_push_size s₁.heap (o := { cls := .type "range_iterator", data := .fields #[rawInt 0, rawInt (n : Int), rawInt 1] }) rfl
    simpa [IsRangeIter] using this
  · intro b hb
    obtain rfl : b = _ := by simpa using hb
    exact k₁.fresh (get_new _)
end
end Mine

-- text MComp
namespace Mine
open PySem PySem.W PyProof.Rows

/-- the scope of a comprehension in a def -/
def relS (scope sc : Scope) : Scope :=
  { scope with names := scope.names.map fun (n, k) => if (k == .free && sc.kind == .function && sc.names.lookup n == some .cell) then (n, .cell) else (n, k) }
theorem relS_eq {scope sc : Scope} {e : Env} (h : e.scope = sc) : relabel scope e = relS scope sc := by subst h; rfl

theorem closure_go {e : Env} : ∀ (names : List (Str × NameKind)) (acc : List (Str × Addr)), (∀ n, (n, NameKind.free) ∈ names → ∃ c, e.cells.lookup n = some c) → (∀ n c, acc.lookup n = some c → e.cells.lookup n = some c) →
    ∃ cl, (forIn names acc fun x cs => do
      let (name, kind) := x
      if kind == .free then do
        let c ← cellOf e name
        pure (ForInStep.yield ((name, c) :: cs))
      else pure (ForInStep.yield cs) : Sem (List (Str × Addr))) = pure cl ∧ (∀ n c, cl.lookup n = some c → e.cells.lookup n = some c) ∧ (∀ n, ((n, NameKind.free) ∈ names ∨ ∃ c, acc.lookup n = some c) → ∃ c, cl.lookup n = some c)
  | [], acc, _, ha => ⟨acc, rfl, ha, fun n h => h.elim (fun q => by cases q) id⟩
  | (x, kd) :: r, acc, hf, ha => by
    by_cases hk : (kd == NameKind.free) = true
    · obtain rfl : kd = .free := by simpa using hk
      obtain ⟨c, hc⟩ := hf x (.head _)
      obtain ⟨cl, h1, h2, h3⟩ := closure_go r ((x, c) :: acc) (fun n m => hf n (.tail _ m)) fun n c' q => by
        rw [List.lookup_cons] at q
        cases hb : n == x with
        | true => rw [hb] at q; cases q; rw [beq_iff_eq.mp hb]; exact hc
        | false => rw [hb] at q; exact ha n c' q
      refine ⟨cl, ?_, h2, fun n q => h3 n ?_⟩
      · rw [List.forIn_cons]
        have : cellOf e x = pure c := by unfold cellOf; rw [hc]
        simp only [hk, if_true, this]
        exact h1
      · rcases q with q | ⟨c', q⟩
        · rcases List.mem_cons.mp q with q | q
          · cases q; exact .inr ⟨c, by simp⟩
          · exact .inl q
        · by_cases hb : n = x
          · subst hb; exact .inr ⟨c, by simp⟩
          · refine .inr ⟨c', ?_⟩
            rw [List.lookup_cons]
            have : (n == x) = false := by simpa using hb
            rw [this]; exact q
    · obtain ⟨cl, h1, h2, h3⟩ := closure_go r acc (fun n m => hf n (.tail _ m)) ha
      refine ⟨cl, ?_, h2, fun n q => h3 n ?_⟩
      · rw [List.forIn_cons]
        simp only [hk]
        exact h1
      · rcases q with q | q
        · rcases List.mem_cons.mp q with q | q
          · cases q; exact absurd rfl hk
          · exact .inl q
        · exact .inr q

theorem closure_at {scope : Scope} {e : Env} (hf : ∀ n, (n, NameKind.free) ∈ scope.names → ∃ c, e.cells.lookup n = some c) :
    ∃ cl, closureFor scope e = pure cl ∧ (∀ n c, cl.lookup n = some c → e.cells.lookup n = some c) ∧ (∀ n, (n, NameKind.free) ∈ scope.names → ∃ c, cl.lookup n = some c) := by
  obtain ⟨cl, h1, h2, h3⟩ := closure_go scope.names [] hf (fun n c q => by cases q)
  refine ⟨cl, ?_, h2, fun n q => h3 n (.inl q)⟩
  exact (congrArg (· >>= fun cs => (pure cs : Sem (List (Str × Addr)))) h1).trans rfl

/-- what a comprehension's scope must be like -/
def scopeOk (scope sc : Scope) (x : Str) : Bool :=
  scope.names.all (fun y => y.2 != .cell && (y.2 != .local || scope.names.lookup y.1 == some .local) && (y.2 != .free || sc.names.lookup y.1 == some .cell)) && (scope.names.lookup x == some .local) && scope.kind == .function

section
variable {C : Cx} {k : Nat} {sc : Scope} {nm : List Str} {Γ Γ₁ Γ' : List Slot} {A : Around} {e : Env} {N : Addr → Prop} {Sg S₁ : Addr → Option Nat} {s s₁ s' : Shared}

theorem Kp.nxt {wr : List Addr} {gs : List Nat} (m : Kp s s₁) (x : Nxt wr gs s₁ s') (hw : ∀ b ∈ wr, s.heap.get? b = none) (hg : ∀ g ∈ gs, s.gens[g]? = none) : Kp s s' where
  heap := fun b o q => x.heap b o (m.heap b o q) fun hm => by rw [hw b hm] at q; cases q
  os := x.os.trans m.os
  gens := fun i y q => x.gens i y (m.gens i y q) fun hm => by rw [hg i hm] at q; cases q
  bare := fun h => x.bare (m.bare h)

/-- the names that a comprehension takes from around -/
inductive CapL (nm : List Str) (Γ : List Slot) (scope sc : Scope) : List Str → List Slot → Prop where
  | nil : CapL nm Γ scope sc [] []
  | cons {n : Str} {ns : List Str} {d : PyData} {Γc : List Slot} {j : Nat} (h : Slt nm Γ n (.val d) j) (hf : (relS scope sc).names.lookup n = some .cell) (hs : CapL nm Γ scope sc ns Γc) : CapL nm Γ scope sc (n :: ns) (.val d :: Γc)
theorem CapL.get {scope sc : Scope} {ns : List Str} {Γc : List Slot} (h : CapL nm Γ scope sc ns Γc) {i : Nat} {n : Str} {sl : Slot} (hn : ns[i]? = some n) (hs : Γc[i]? = some sl) :
    ∃ d j, sl = .val d ∧ Slt nm Γ n (.val d) j ∧ (relS scope sc).names.lookup n = some .cell := by
  induction h generalizing i with
  | nil => simp at hn
  | cons h hf _ ih =>
    cases i with
    | zero => simp at hn hs; subst hn; subst hs; exact ⟨_, _, rfl, h, hf⟩
    | succ i => exact ih (by simpa using hn) (by simpa using hs)

/-- the tests of a comprehension -/
structure Tst (C : Cx) (k : Nat) (sc : Scope) (nm : List Str) (Γ : List Slot) (ifs : List Expr) (b : Bool) : Prop where
  run : ∀ A e N S s, AOk k A → EnvOk C sc e nm → Ok C e nm N Γ S s →
    wpAny (model C.prog C.w) A (forIn ifs true fun c r => if r = true then do let ok ← isTrue c e (eval c e); pure (ForInStep.yield ok) else pure (ForInStep.yield r)) (fun r s' => r = b ∧ Kp s s') F0 s
theorem Tst.nil : Tst C k sc nm Γ [] true := ⟨fun _ _ _ _ s _ _ _ => wpAny_tests_nil ⟨rfl, .refl s⟩⟩
theorem Tst.one {c : Expr} {b : Bool} (h : Tr C k sc nm Γ c b) : Tst C k sc nm Γ [c] b := ⟨fun A e N S s a E o => wpAny_tests_one (h.run A e N S s a E o)⟩

/-- a local name takes data: its frame alone is written -/
theorem store_loc {x : Str} {i : Nat} {v : Value} {d : PyData} {Q : Unit → Shared → Prop} (E : EnvOk C sc e nm) (o : Ok C e nm N Γ Sg s) (hi : nm[i]? = some x) (hc : sc.names.lookup x = some .local)
    (hr : RepN (fun a => N a ∧ Sg a = none) s.heap d v) (hq : ∀ h' t, Ok C e nm N (Γ.set i (.val d)) Sg { s with heap := h', toks := t } → Heap.SameBut e.locals s.heap h' → Q () { s with heap := h', toks := t }) :
    wpAny (model C.prog C.w) A (storeName e x v) Q F0 s := by
  have hkind : e.scope.kind = .function := by rw [E.scope]; exact E.kind
  have hk : e.kindOf x = some .local := by unfold Env.kindOf; rw [E.scope]; exact hc
  obtain ⟨m, hns⟩ := o.ns
  refine wpAny_storeName_local hk hns (fun h' hn' hs' => ?_) (by rw [hkind]; rfl)
  have hv : VarIs e h' x v := .inl ⟨hk, _, hn', by simp⟩
  have hsq := not_seq_ns hns
  have keep : ∀ c oc, s.heap.get? c = some oc → (∃ vs n, oc.data = .seq vs n) → h'.get? c = some oc := fun c oc q d => by
    by_cases h : c = e.locals
    · subst h; exact absurd d (hsq _ q)
    · exact (hs'.2 c h).trans q
  obtain ⟨ob, es, ep, hob, _⟩ := id hn'
  have r := ok_frame (s' := { s with heap := h', toks := s.toks + 1 }) (b := e.locals) (sl := .val d) E o hi E.hbL hsq ⟨ob, hob⟩ hs' rfl rfl (.inl rfl) ⟨_, hn'⟩
    (fun y c hy => let ⟨w, hw⟩ := o.cells y c hy; ⟨w, hw.sameBut hs' (E.lc y c hy)⟩)
    (fun y w hyx hy => by
      rcases hy with ⟨a, m', b, c⟩ | ⟨a, c, b, d⟩
      · refine .inl ⟨a, _, hn', ?_⟩
        rw [if_neg hyx]
        obtain ⟨o1, es1, ep1, h1, h2, h3, h4⟩ := hns
        obtain ⟨o2, es2, ep2, g1, g2, g3, g4⟩ := b
        rw [h1] at g1; cases g1; rw [h2] at g2; cases g2
        rw [← h4 y, g4 y]; exact c
      · exact .inr ⟨a, c, b, d.sameBut hs' (E.lc y c b)⟩)
    ⟨v, hv, hr.stable fun b o e d _ => keep b o e d⟩
  exact hq _ _ r.1 hs'

/-- a list that no name holds, written -/
theorem ok_mutS {a : Addr} {vs vs' : Array Value} {h' : Heap} {t : Nat} (o : Ok C e nm N Γ Sg s) (hg : ∀ (i : Nat) (ds : List PyData), Γ[i]? ≠ some (Slot.own ds)) (hS : Sg a ≠ none)
    (hp : s.heap.PlainList a vs) (hp' : h'.PlainList a vs') (hsame : Heap.SameBut a s.heap h') : Ok C e nm N Γ Sg { s with heap := h', toks := t } := by
  obtain ⟨n, hp⟩ := hp
  obtain ⟨n', hp'⟩ := hp'
  have keep : ∀ c oc, s.heap.get? c = some oc → c ≠ a → h'.get? c = some oc := fun c oc q d => (hsame.2 c d).trans q
  have back : ∀ c, h'.get? c = none → s.heap.get? c = none := fun c q => by
    by_cases h : c = a
    · subst h; rw [q] at hp'; cases hp'
    · exact (hsame.2 c h).symm.trans q
  have ha_ns : ∀ b m, s.heap.Ns b m → b ≠ a := fun b m q h => by subst h; exact not_seq_ns q _ hp ⟨_, _, rfl⟩
  have ha_cell : ∀ b v, s.heap.IsCell b v → b ≠ a := fun b m q h => by subst h; exact not_seq_cell q _ hp ⟨_, _, rfl⟩
  have var : ∀ y v, VarIs e s.heap y v → VarIs e h' y v := fun y v q => by
    rcases q with ⟨q1, m, q2, q3⟩ | ⟨q1, c, q2, q3⟩
    · exact .inl ⟨q1, m, q2.sameBut hsame (ha_ns _ _ q2), q3⟩
    · exact .inr ⟨q1, c, q2, q3.sameBut hsame (ha_cell _ _ q3)⟩
  have tup : ∀ c oc, s.heap.get? c = some oc → oc.cls = .type "tuple" → h'.get? c = some oc := fun c oc q d => keep c oc q fun h => by
    subst h; rw [hp] at q; cases q; simp at d
  refine ⟨fun c oc q => keep c oc (o.base c oc q) fun h => ?_, fun c q => o.fresh c (back c q), o.hbS, o.bare, ?_, fun y c q => ?_, fun c q => ?_, fun j y sl q r => ?_⟩
  · subst h; have := o.hbS c hS; rw [this] at q; cases q
  · obtain ⟨m, q⟩ := o.ns; exact ⟨m, q.sameBut hsame (ha_ns _ _ q)⟩
  · obtain ⟨v, r⟩ := o.cells y c q; exact ⟨v, r.sameBut hsame (ha_cell _ _ r)⟩
  · by_cases h : c = a
    · subst h; exact ⟨_, _, hp', rfl, n', rfl⟩
    · obtain ⟨ws, oc, q1, q2⟩ := o.list c q; exact ⟨ws, oc, keep c oc q1 h, q2⟩
  · have := o.slots j y sl q r
    cases sl with
    | un => trivial
    | val d =>
      obtain ⟨v, g1, g2⟩ := this
      refine ⟨v, var _ _ g1, g2.stable fun c oc q _ f => f.elim (fun t => tup c oc q t) fun f => keep c oc q fun h => ?_⟩
      subst h; exact hS f.2
    | own ds'' => exact absurd r (hg j ds'')
end
end Mine

-- text MComp2
namespace Mine
open PySem PySem.W PyProof.Rows

section
variable {C : Cx} {k : Nat} {sc : Scope} {nm : List Str} {Γ Γ₁ Γ' : List Slot} {A : Around} {e : Env} {N : Addr → Prop} {Sg S₁ : Addr → Option Nat} {s s₁ s' : Shared}

theorem lookup_relS {scope sc : Scope} {x : Str} (h : (relS scope sc).names.lookup x = some .cell) (hno : ∀ y ∈ scope.names, y.2 ≠ .cell) : (x, NameKind.free) ∈ scope.names := by
  have := mem_of_lookup h
  unfold relS at this
  obtain ⟨⟨n, kd⟩, h1, h2⟩ := List.mem_map.mp this
  dsimp only at h2
  split at h2
  · rename_i hc
    have h3 := (Prod.mk.inj h2).1
    subst h3
    have : kd = .free := by simp only [Bool.and_eq_true, beq_iff_eq] at hc; exact hc.1.1
    subst this; exact h1
  · rename_i hc
    cases h2
    exact absurd rfl (hno _ h1)

theorem scopeOk_spec {scope sc : Scope} {x : Str} (h : scopeOk scope sc x = true) : (∀ y ∈ scope.names, y.2 ≠ .cell) ∧ (∀ y ∈ scope.names, y.2 = .local → scope.names.lookup y.1 = some .local) ∧
    (∀ n, (n, NameKind.free) ∈ scope.names → sc.names.lookup n = some .cell) ∧ scope.names.lookup x = some .local ∧ scope.kind = .function := by
  unfold scopeOk at h
  simp only [Bool.and_eq_true, List.all_eq_true, beq_iff_eq] at h
  obtain ⟨⟨h1, h2⟩, h3⟩ := h
  refine ⟨fun y hy => ?_, fun y hy q => ?_, fun n hn => ?_, h2, h3⟩
  · have := (h1 y hy).1.1; simpa using this
  · have := (h1 y hy).1.2; simpa [q] using this
  · have := (h1 _ hn).2; simpa using this

theorem comp_core {elt iter : Expr} {x : Str} {px : Pos} {ifs : List Expr} {scope : Scope} {pos fpos : Pos} {ds : List PyData} {ns : List Str} {Γc : List Slot} {g : PyData → Option PyData} {use : Option (Value → Sem Unit)} {Q : Value → Shared → Prop}
    (hit : Itr C k sc nm Γ iter ds) (hsc : scopeOk scope sc x = true) (hnd : (x :: ns).Nodup) (hcap : CapL nm Γ scope sc ns Γc)
    (hstep : ∀ (i : Nat) (d : PyData), ds[i]? = some d → Tst C k (relS scope sc) (x :: ns) (.val d :: Γc) ifs (g d).isSome ∧ ∀ y, g d = some y → Ev C k (relS scope sc) (x :: ns) (.val d :: Γc) elt y ∧ isFlat y = true)
    (hsz : ds.length ≤ 1000000) (a : AOk k A) (E : EnvOk C sc e nm) (o : Ok C e nm N Γ Sg s)
    (hs : ∀ v, foldedSetIterable iter e v = pure v)
    (hQ : ∀ s' D CA m' vs, s.heap.get? D = none → s.heap.get? CA = none → D ≠ CA → s'.heap.Ns CA m' → s'.heap.PlainList D (List.toArray vs) → RepAllN (fun _ => False) s'.heap (ds.filterMap g) vs → Kp s s' →
      compPost (model C.prog C.w) A F0 use Q (.ref D) CA (.ok .next) s') :
    wpAny (model C.prog C.w) A (comprehension (.ListComp elt [⟨.Name x px, iter, ifs, 0⟩] scope pos) scope e fpos (newList []) false (eval iter e) use) Q F0 s := by
  obtain ⟨hcell, hloc, hfree, hx, hkind⟩ := scopeOk_spec hsc
  have hcells : ∀ n, (n, NameKind.free) ∈ scope.names → ∃ c, e.cells.lookup n = some c := fun n hn => E.cell n (hfree n hn)
  obtain ⟨cl, hclos, hcl1, hcl2⟩ := closure_at hcells
  refine wpAny_comprehension_free rfl hs hclos hkind hloc (wp_keep (hit.run A e N Sg s a E o) fun xv s₁ h₁ => wp_keep h₁ fun it s₂ h₂ => ?_)
  obtain ⟨I, wr, gs, NN, St, rfl, k₂, W, hst, hwr, hgs, hNN⟩ := h₂
  refine wpAny_newObj_type (wpAny_newFunctionEnv hcell (by intro y hy; simp at hy) (fun h₁ hns₁ hsb₁ => ?_) hkind)
  dsimp only at hns₁ hsb₁ ⊢
  generalize hH2 : s₂.heap.push { cls := .type "list", dict := none, data := .seq ([] : List Value).toArray } = H2 at hns₁ hsb₁ ⊢
  have hC : H2.objs.size = s₂.heap.objs.size + 1 := by rw [← hH2, Heap.size_push]
  have hDC : s₂.heap.objs.size ≠ H2.objs.size := by rw [hC]; exact Nat.ne_of_lt (Nat.lt_succ_self _)
  have hD2 : s₂.heap.get? s₂.heap.objs.size = none := get_new _
  have hC2 : s₂.heap.get? H2.objs.size = none := get_none (by rw [hC]; exact Nat.le_succ _)
  have old : ∀ b ob, s₂.heap.get? b = some ob → h₁.get? b = some ob := fun b ob q =>
    hsb₁.extBut b ob (fun hb => by subst hb; rw [hC2] at q; cases q) (Heap.get?_push_of_some _ (hH2 ▸ Heap.get?_push_of_some _ q))
  have hacc : h₁.PlainList s₂.heap.objs.size #[] := ⟨_, hsb₁.extBut _ _ hDC (Heap.get?_push_of_some _ (hH2 ▸ Heap.get?_push_size _ rfl))⟩
  have hDs : s.heap.get? s₂.heap.objs.size = none := k₂.fresh hD2
  have hCs : s.heap.get? H2.objs.size = none := k₂.fresh hC2
  have hrel : relabel scope e = relS scope sc := relS_eq E.scope
  have hbn : ∀ b, s.heap.get? b = none → C.hb.get? b = none := fun b q => by
    cases q' : C.hb.get? b with
    | none => rfl
    | some ob => have := o.base b ob q'; rw [q] at this; cases this
  have loop : ∀ s₃ : Shared, s₃ = { s₂ with heap := h₁, toks := s₂.toks + ([] : List (Str × Value)).length } →
      codeAny (model C.prog C.w) A (.compLoop (.ListComp elt [⟨.Name x px, iter, ifs, 0⟩] scope pos) 0 (.ref I) (.ref s₂.heap.objs.size) (compEnvC scope cl H2.objs.size e))
        (compPost (model C.prog C.w) A F0 use Q (.ref s₂.heap.objs.size) H2.objs.size) s₃ := by
    intro s₃ hs₃
    have k₃ : Kp s₂ s₃ := by subst hs₃; exact .of old
    have hns₃ : s₃.heap.Ns H2.objs.size (fun x => ([] : List (Str × Value)).reverse.lookup x) := by subst hs₃; exact hns₁
    have hacc₃ : s₃.heap.PlainList s₂.heap.objs.size #[] := by subst hs₃; exact hacc
    clear hs₃
    generalize hD : s₂.heap.objs.size = D at *
    generalize hCA : H2.objs.size = CA at *
    -- the comprehension's frame
    have E' : EnvOk C (relS scope sc) (compEnvC scope cl CA e) (x :: ns) := by
      refine ⟨hrel, hkind, E.glob, E.blt, hnd, fun y hy => hcl2 y (lookup_relS hy hcell), fun y z c h1 h2 => E.inj y z c (hcl1 y c h1) (hcl1 z c h2), fun y c hc => ?_, hbn _ hCs, fun y c hc => E.hbC y c (hcl1 y c hc)⟩
      intro hcc
      obtain ⟨v, ob, q, _⟩ := o.cells y _ (hcl1 y _ hc)
      have hcc' : c = CA := hcc
      rw [hcc', hCs] at q; cases q
    -- its view
    have o₃ := (o.kp k₂).kp k₃
    have hSD : ∀ b, (if b = D then some 0 else none : Option Nat) ≠ none → b = D := fun b q => by
      by_cases h : b = D
      · exact h
      · rw [if_neg h] at q; exact absurd rfl q
    have hΓc : ∀ (i : Nat) (ws : List PyData), (Slot.un :: Γc)[i]? ≠ some (Slot.own ws) := by
      intro i ws
      cases i with
      | zero => simp
      | succ i =>
        intro q
        have q' : Γc[i]? = some (Slot.own ws) := by simpa using q
        cases hn : ns[i]? with
        | none =>
          have : ns.length = Γc.length := by
            clear hnd hstep E' q q' hn
            induction hcap with
            | nil => rfl
            | cons _ _ _ ih => simp [ih]
          rw [List.getElem?_eq_none_iff] at hn
          rw [List.getElem?_eq_none (by lia)] at q'; cases q'
        | some n => obtain ⟨d, j, h1, _⟩ := hcap.get hn q'; cases h1
    have hDlive : ∃ ob, s₃.heap.get? D = some ob := let ⟨n, q⟩ := hacc₃; ⟨_, q⟩
    have O₃ : Ok C (compEnvC scope cl CA e) (x :: ns) N (.un :: Γc) (fun b => if b = D then some 0 else none) s₃ := by
      refine ⟨o₃.base, fun b q => ⟨(o₃.fresh b q).1, ?_⟩, fun b q => ?_, o₃.bare, ⟨_, hns₃⟩, fun y c hc => ?_, fun b q => ?_, fun i y sl q r => ?_⟩
      · rw [if_neg]
        rintro rfl
        obtain ⟨ob, q'⟩ := hDlive; rw [q] at q'; cases q'
      · rw [hSD b q]; exact hbn _ hDs
      · exact o₃.cells y c (hcl1 y c hc)
      · rw [hSD b q]; exact ⟨_, PlainList.isl hacc₃⟩
      · cases i with
        | zero => simp at r; subst r; trivial
        | succ i =>
          obtain ⟨d, j, rfl, h1, h2⟩ := hcap.get (by simpa using q) (by simpa using r)
          obtain ⟨v, h3, h4⟩ := o.slots j y _ h1.get.1 h1.get.2
          have hfr := lookup_relS h2 hcell
          have hk : e.kindOf y = some .cell := by unfold Env.kindOf; rw [E.scope]; exact hfree y hfr
          rcases h3 with ⟨h3, _⟩ | ⟨_, c, h5, h6⟩
          · rw [hk] at h3; cases h3
          · obtain ⟨c', hc'⟩ := hcl2 y hfr
            have := hcl1 y c' hc'
            rw [h5] at this; cases this
            refine ⟨v, .inr ⟨.inl (by show (relabel scope e).names.lookup y = _; rw [hrel]; exact h2), c, hc', (h6.keeps k₂.heap).keeps k₃.heap⟩, ?_⟩
            refine ((h4.ex.keeps k₂.heap).keeps k₃.heap).mono fun b hb => ⟨hb.1.1, ?_⟩
            dsimp only
            rw [if_neg]
            rintro rfl
            obtain ⟨ob, q'⟩ := hb.2; rw [hDs] at q'; cases q'
    have hNN' : ∀ b, NN b → N b ∧ (if b = D then some 0 else none : Option Nat) = none := fun b hb => by
      obtain ⟨h1, _, ob, h3⟩ := hNN b hb
      refine ⟨h1, ?_⟩
      rw [if_neg]
      rintro rfl
      rw [hD2] at h3; cases h3
    have hst₃ : St 0 s₃ := W.frame 0 s₂ s₃ hst (fun b ob q _ => k₃.heap b ob q) (fun gg hg => by obtain ⟨y, q⟩ := W.gsf _ _ hst gg hg; rw [q]; exact k₃.gens gg y q) o₃.base o₃.bare
    have hwD : D ∉ wr := fun m => by obtain ⟨ob, q, _⟩ := W.wrf _ _ hst D m; rw [hD2] at q; cases q
    have hwC : CA ∉ wr := fun m => by obtain ⟨ob, q, _⟩ := W.wrf _ _ hst CA m; rw [hC2] at q; cases q
    have hwC' : ∀ x c, (compEnvC scope cl CA e).cells.lookup x = some c → c ∉ wr := fun y c hc m => by
      obtain ⟨v, ob, q, _⟩ := o.cells y c (hcl1 y c hc); rw [hwr _ m] at q; cases q
    refine codeAny_compLoop_tests
      (fun n s' => ∃ i vs, n = ds.length + 1 - i ∧ i ≤ ds.length ∧ St i s' ∧ Ok C (compEnvC scope cl CA e) (x :: ns) N (.un :: Γc) (fun b => if b = D then some 0 else none) s' ∧
        s'.heap.PlainList D (List.toArray vs) ∧ RepAllN (fun _ => False) s'.heap ((ds.take i).filterMap g) vs ∧ Kp s s') ?_ (ds.length + 1)
      ⟨0, [], rfl, Nat.zero_le _, hst₃, O₃, hacc₃, by simpa using RepAllN.nil, k₂.trans k₃⟩
    rintro n s₅ ⟨i, vs, rfl, hi, hst₅, O₅, hp₅, r₅, k₅⟩
    refine wpAny_noRaise ?_
    have hbw : ∀ b ∈ wr, C.hb.get? b = none := fun b m => hbn b (hwr b m)
    have hplain : ∀ {s₅ s₆ : Shared} {vs : List Value}, s₅.heap.PlainList D (List.toArray vs) → Nxt wr gs s₅ s₆ → s₆.heap.PlainList D (List.toArray vs) := fun {_ _ _} h x => let ⟨n, q⟩ := h; ⟨n, x.heap _ _ q hwD⟩
    have hreps : ∀ {s₅ s₆ : Shared} {vs : List Value} {xs : List PyData}, RepAllN (fun _ => False) s₅.heap xs vs → Nxt wr gs s₅ s₆ → (∀ b ∈ wr, ∃ o, s₅.heap.get? b = some o ∧ ¬ ∃ vs n, o.data = .seq vs n) → RepAllN (fun _ => False) s₆.heap xs vs :=
      fun {_ _ _ _} h x hw => h.stable fun b ob q d _ => x.heap b ob q fun m => by
        obtain ⟨ob', q', d'⟩ := hw b m
        rw [q] at q'; cases q'; exact d' d
    cases hd : ds[i]? with
    | none =>
      have hin : i = ds.length := by rw [List.getElem?_eq_none_iff] at hd; lia
      subst hin
      refine wp_keep (W.done s₅ hst₅) fun r s₆ h₆ => ?_
      obtain ⟨rfl, x₆⟩ := h₆
      have O₆ := O₅.nxt x₆ (W.wrf _ _ hst₅) hbw hwC hwC' fun b m _ => ⟨(o.fresh b (hwr b m)).1, by rw [if_neg]; rintro rfl; exact hwD m⟩
      obtain ⟨m', hm'⟩ := O₆.ns
      exact hQ s₆ D CA m' vs hDs hCs hDC hm' (hplain hp₅ x₆) (by simpa using hreps r₅ x₆ (W.wrf _ _ hst₅)) (k₅.nxt x₆ hwr hgs)
    | some d =>
      have hlt : i < ds.length := (List.getElem?_eq_some_iff.mp hd).1
      refine wp_keep (W.item i s₅ d hd hst₅) fun r s₆ h₆ => ?_
      obtain ⟨v, rfl, r₆, st₆, x₆⟩ := h₆
      have O₆ := O₅.nxt x₆ (W.wrf _ _ hst₅) hbw hwC hwC' fun b hm q => by obtain ⟨ob', q', _⟩ := W.wrf _ _ st₆ b hm; rw [q] at q'; cases q'
      refine wpAny_noRaise (wpAny_assign_Name (store_loc (i := 0) E' O₆ rfl (by rw [← hrel]; exact lookup_relabel_local hx) (r₆.mono hNN') fun h₇ t₇ O₇ sb₇ => ?_))
      replace O₇ : Ok C (compEnvC scope cl CA e) (x :: ns) N (.val d :: Γc) (fun b => if b = D then some 0 else none) { s₆ with heap := h₇, toks := t₇ } := O₇
      replace sb₇ : Heap.SameBut CA s₆.heap h₇ := sb₇
      obtain ⟨ht, he⟩ := hstep i d hd
      have k₆ := k₅.nxt x₆ hwr hgs
      have k₇ : Kp s { s₆ with heap := h₇, toks := t₇ } := ⟨fun b ob q => (sb₇.2 b (fun hb => by subst hb; rw [hCs] at q; cases q)).trans (k₆.heap b ob q), k₆.os, k₆.gens, k₆.bare⟩
      obtain ⟨m₆, ob₆, es₆, ep₆, hn₆, hd₆, _⟩ := O₆.ns
      replace hn₆ : s₆.heap.get? CA = some ob₆ := hn₆
      have seq₇ : ∀ b ob, s₆.heap.get? b = some ob → (∃ vs n, ob.data = .seq vs n) → h₇.get? b = some ob := fun b ob q dd => (sb₇.2 b fun hb => by
        subst hb; rw [hn₆] at q; cases q; obtain ⟨us, nn, dd⟩ := dd; rw [hd₆] at dd; cases dd).trans q
      have wr₇ : ∀ b ∈ wr, ∀ ob, s₆.heap.get? b = some ob → h₇.get? b = some ob := fun b m ob q => (sb₇.2 b fun hb => by subst hb; exact hwC m).trans q
      have p₇ : h₇.PlainList D (List.toArray vs) := by
        obtain ⟨nn, q⟩ := hplain hp₅ x₆
        exact ⟨nn, seq₇ _ _ q ⟨_, _, rfl⟩⟩
      have rr₇ : RepAllN (fun _ => False) h₇ ((ds.take i).filterMap g) vs := (hreps r₅ x₆ (W.wrf _ _ hst₅)).stable fun b ob q dd _ => seq₇ b ob q dd
      have htake : ((ds.take (i + 1)).filterMap g) = ((ds.take i).filterMap g) ++ (g d).toList := by
        rw [List.take_add_one, hd, List.filterMap_append]
        cases hg : g d <;> simp [hg]
      have fin : ∀ (s₉ : Shared) (vs' : List Value), Ok C (compEnvC scope cl CA e) (x :: ns) N (.val d :: Γc) (fun b => if b = D then some 0 else none) s₉ → s₉.heap.PlainList D (List.toArray vs') →
          RepAllN (fun _ => False) s₉.heap ((ds.take (i + 1)).filterMap g) vs' → Kp s s₉ → (∀ b ob, b ≠ D → h₇.get? b = some ob → s₉.heap.get? b = some ob) → (∀ g ∈ gs, s₉.gens[g]? = s₆.gens[g]?) →
          ∃ m, m < ds.length + 1 - i ∧ ∃ i vs, m = ds.length + 1 - i ∧ i ≤ ds.length ∧ St i s₉ ∧ Ok C (compEnvC scope cl CA e) (x :: ns) N (.un :: Γc) (fun b => if b = D then some 0 else none) s₉ ∧
            s₉.heap.PlainList D (List.toArray vs) ∧ RepAllN (fun _ => False) s₉.heap ((ds.take i).filterMap g) vs ∧ Kp s s₉ := by
        intro s₉ vs' O₉ p₉ rr₉ k₉ old₉ gs₉
        refine ⟨ds.length + 1 - (i + 1), by lia, i + 1, vs', rfl, by lia, W.frame (i + 1) s₆ s₉ st₆ (fun b ob q hdep => ?_) gs₉ O₉.base O₉.bare, O₉.le (.cons .un (GLe.refl _)), p₉, rr₉, k₉⟩
        rcases hdep with m | ⟨sq, hdep⟩
        · exact old₉ b ob (fun hb => by subst hb; exact hwD m) (wr₇ b m ob q)
        · refine old₉ b ob (fun hb => ?_) (seq₇ b ob q sq)
          subst hb
          rcases hdep with hdep | hdep
          · obtain ⟨nn, q'⟩ := hplain hp₅ x₆
            rw [q] at q'; cases q'; simp at hdep
          · obtain ⟨_, h2⟩ := hNN' b hdep
            rw [if_pos rfl] at h2; cases h2
      refine wpAny_noRaise (wp_keep (ht.run A _ _ _ _ a E' O₇) fun ok s₈ h₈ => ?_)
      obtain ⟨rfl, k₈⟩ := h₈
      have O₈ := O₇.kp k₈
      cases hg : g d with
      | none =>
        rw [if_neg (by simp)]
        refine fin s₈ vs O₈ (let ⟨nn, q⟩ := p₇; ⟨nn, k₈.heap _ _ q⟩) ?_ (k₇.trans k₈) (fun b ob _ q => k₈.heap b ob q) (fun gg hgg => ?_)
        · rw [htake, hg]; simpa using rr₇.keeps k₈.heap
        · obtain ⟨y, q⟩ := W.gsf _ _ st₆ gg hgg; rw [q]; exact k₈.gens gg y q
      | some y =>
        rw [if_pos (by simp)]
        obtain ⟨hev, hfl⟩ := he y hg
        refine wpAny_noRaise (wp_keep (hev.run A _ _ _ _ a E' O₈) fun w s₉ h₉ => ?_)
        obtain ⟨rw₉, k₉⟩ := h₉
        have k₇₉ := k₈.trans k₉
        have p₉ : s₉.heap.PlainList D (List.toArray vs) := let ⟨nn, q⟩ := p₇; ⟨nn, k₇₉.heap _ _ q⟩
        have rr₉ := rr₇.keeps k₇₉.heap
        have hlen : vs.length ≤ ds.length := by
          rw [rr₇.length]
          exact Nat.le_trans (List.length_filterMap_le _ _) (by rw [List.length_take]; lia)
        refine wpAny_noRaise (wpAny_list_append_plain p₉ (fun h' hp' hs' => ?_) (by simp only [List.size_toArray]; unfold sizeLine; lia))
        have O₉ := O₈.kp k₉
        refine fin { s₉ with heap := h' } (vs ++ [w]) (ok_mutS O₉ (fun j ws => ?_) (by rw [if_pos rfl]; simp) p₉ hp' hs') (by simpa using hp') ?_ ?_ (fun b ob hb q => (hs'.2 b hb).trans (k₇₉.heap b ob q)) (fun gg hgg => ?_)
        · cases j with
          | zero => simp
          | succ j => have := hΓc (j + 1) ws; simpa using this
        · rw [htake, hg]
          refine (rr₉.append (.cons (rw₉.flat hfl) .nil)).stable fun b ob q dd f => ?_
          refine (hs'.2 b fun hb => ?_).trans q
          subst hb
          obtain ⟨nn, q'⟩ := p₉
          rw [q] at q'; cases q'
          rcases f with f | f
          · simp at f
          · exact f
        · exact ⟨fun b ob q => (hs'.2 b fun hb => by subst hb; rw [hDs] at q; cases q).trans ((k₇.trans k₇₉).heap b ob q), (k₇.trans k₇₉).os, (k₇.trans k₇₉).gens, (k₇.trans k₇₉).bare⟩
        · obtain ⟨y, q⟩ := W.gsf _ _ st₆ gg hgg; rw [q]; exact k₇₉.gens gg y q
  have hst₁ : St 0 { s₂ with heap := h₁, toks := s₂.toks + ([] : List (Str × Value)).length } :=
    W.frame 0 s₂ _ hst (fun b ob q _ => old b ob q) (fun _ _ => rfl) (fun b ob q => old b ob ((o.kp k₂).base b ob q)) (o.kp k₂).bare
  refine codeAny_compStart_list (loop _ rfl) (wpAny_noRaise (wp_keep (W.self 0 _ hst₁) fun r s' h => ?_))
  obtain ⟨rfl, rfl⟩ := h
  exact loop _ rfl
end
end Mine

-- text MComp3
namespace Mine
open PySem PySem.W PyProof.Rows

section
variable {C : Cx} {k : Nat} {sc : Scope} {nm : List Str} {Γ Γ₁ Γ' : List Slot} {A : Around} {e : Env} {N : Addr → Prop} {Sg S₁ : Addr → Option Nat} {s s₁ s' : Shared}

theorem Ev.ofF {ex : Expr} {ds : List PyData} (h : EvF C k sc nm Γ ex ds) : Ev C k sc nm Γ ex (.list ds) := by
  refine ⟨?_⟩; intro A e N S s a E o
  refine wp_keep (h.run A e N S s a E o) fun v s' hv => ?_
  obtain ⟨b, vs, rfl, hnew, hp, hr, k₁⟩ := hv
  exact ⟨.list (o.fresh b hnew) hp (hr.mono fun _ f => f.elim), k₁⟩

theorem EvF.comp {elt iter : Expr} {x : Str} {px : Pos} {ifs : List Expr} {scope : Scope} {pos : Pos} {ds : List PyData} {ns : List Str} {Γc : List Slot} (g : PyData → Option PyData)
    (hit : Itr C k sc nm Γ iter ds) (hcap : CapL nm Γ scope sc ns Γc)
    (hstep : ∀ (i : Nat) (d : PyData), ds[i]? = some d → Tst C k (relS scope sc) (x :: ns) (.val d :: Γc) ifs (g d).isSome ∧ ∀ y, g d = some y → Ev C k (relS scope sc) (x :: ns) (.val d :: Γc) elt y ∧ isFlat y = true)
    (hsz : ds.length ≤ 1000000) (hsc : scopeOk scope sc x = true) (hnd : (x :: ns).Nodup)
    (hs : ∀ e v, foldedSetIterable iter e v = pure v := by intro _ _; rfl) : EvF C k sc nm Γ (.ListComp elt [⟨.Name x px, iter, ifs, 0⟩] scope pos) (ds.filterMap g) := by
  refine ⟨?_⟩; intro A e N S s a E o
  rw [eval_ListComp]
  refine comp_core (use := none) hit hsc hnd hcap hstep hsz a E o (hs e) fun s' D CA m' vs h1 h2 h3 h4 h5 h6 h7 => ⟨m', h4, fun h' sb => ⟨D, vs, rfl, h1, ?_, ?_, ?_⟩⟩
  · obtain ⟨n, q⟩ := h5; exact ⟨n, (sb.2 D h3).trans q⟩
  · refine h6.stable fun b ob q d _ => (sb.2 b fun hb => ?_).trans q
    subst hb; exact not_seq_ns h4 _ q d
  · exact ⟨fun b ob q => (sb.2 b fun hb => by subst hb; rw [h2] at q; cases q).trans (h7.heap b ob q), h7.os, h7.gens, h7.bare⟩


/-- what is no object of the frame's may be written -/
theorem ok_skip {b : Addr} {h' : Heap} {t : Nat} (o : Ok C e nm N Γ Sg s) (hns : ∀ ob, s.heap.get? b = some ob → ¬ ∃ vs n, ob.data = .seq vs n) (hb : C.hb.get? b = none) (hN : N b ∧ Sg b = none)
    (hL : b ≠ e.locals) (hC : ∀ x, e.cells.lookup x ≠ some b) (sb : Heap.SameBut b s.heap h') : Ok C e nm N Γ Sg { s with heap := h', toks := t } := by
  have keep : ∀ c oc, s.heap.get? c = some oc → (∃ vs n, oc.data = .seq vs n) → h'.get? c = some oc := fun c oc q d => by
    by_cases h : c = b
    · subst h; exact absurd d (hns _ q)
    · exact (sb.2 c h).trans q
  have var : ∀ y v, VarIs e s.heap y v → VarIs e h' y v := fun y v q => by
    rcases q with ⟨q1, m, q2, q3⟩ | ⟨q1, c, q2, q3⟩
    · exact .inl ⟨q1, m, q2.sameBut sb (Ne.symm hL), q3⟩
    · exact .inr ⟨q1, c, q2, q3.sameBut sb fun h => by subst h; exact hC _ q2⟩
  refine ⟨fun c oc q => (sb.2 c fun h => by subst h; rw [hb] at q; cases q).trans (o.base c oc q), fun c q => ?_, o.hbS, o.bare, ?_, fun y c q => ?_, fun c q => ?_, fun j y sl q r => ?_⟩
  · by_cases h : c = b
    · subst h; exact hN
    · exact o.fresh c ((sb.2 c h).symm.trans q)
  · obtain ⟨m, q⟩ := o.ns; exact ⟨m, q.sameBut sb (Ne.symm hL)⟩
  · obtain ⟨v, r⟩ := o.cells y c q; exact ⟨v, r.sameBut sb fun h => by subst h; exact hC _ q⟩
  · obtain ⟨ws, oc, q1, q2, n, q3⟩ := o.list c q; exact ⟨ws, oc, keep c oc q1 ⟨_, _, q3⟩, q2, n, q3⟩
  · have := o.slots j y sl q r
    cases sl with
    | un => trivial
    | val d => obtain ⟨v, g1, g2⟩ := this; exact ⟨v, var _ _ g1, g2.stable fun c oc q d _ => keep c oc q d⟩
    | own ds => obtain ⟨c, vs, g1, g2, g3, ⟨n, g4⟩, g5⟩ := this; exact ⟨c, vs, var _ _ g1, g2, g3, ⟨n, keep c _ g4 ⟨_, _, rfl⟩⟩, g5.stable fun c oc q d _ => keep c oc q d⟩

/-- x = [..], x a local of the same line -/
theorem E1.assignComp {elt iter : Expr} {x y : Str} {px py : Pos} {ifs : List Expr} {scope : Scope} {pos spos : Pos} {ds : List PyData} {ns : List Str} {Γc : List Slot} {j : Nat} (g : PyData → Option PyData)
    (hit : Itr C k sc nm Γ iter ds) (hcap : CapL nm Γ scope sc ns Γc)
    (hstep : ∀ (i : Nat) (d : PyData), ds[i]? = some d → Tst C k (relS scope sc) (x :: ns) (.val d :: Γc) ifs (g d).isSome ∧ ∀ y, g d = some y → Ev C k (relS scope sc) (x :: ns) (.val d :: Γc) elt y ∧ isFlat y = true)
    (hsz : ds.length ≤ 1000000) (hu : Upd nm Γ y (.val (.list (ds.filterMap g))) j Γ') (hc : canStore sc y = true) (hsc : scopeOk scope sc x = true) (hnd : (x :: ns).Nodup)
    (hsw : ∀ e, e.scope = sc → swapsWith (.ListComp elt [⟨.Name x px, iter, ifs, 0⟩] scope pos) (some (.Name y py)) spos.line e = pure true)
    (hs : ∀ e v, foldedSetIterable iter e v = pure v := by intro _ _; rfl) : E1 C k sc nm Γ (.Assign [.Name y py] (.ListComp elt [⟨.Name x px, iter, ifs, 0⟩] scope pos) spos) (Nx Γ') := by
  refine ⟨?_⟩; intro A e N S s a E o
  rw [exec_Assign_Name_used _ _ _ _ (hsw e E.scope)]
  refine wpAny_bind (wpAny_standAt (wpAny_bind ?_))
  show wpAny _ A (do let _ ← comprehension (.ListComp elt [⟨.Name x px, iter, ifs, 0⟩] scope pos) scope e _ (newList []) false (eval iter e) (some (PySem.assign (.Name y py) e))) _ _ s
  refine wpAny_bind (wp_keep (comp_core (use := some (PySem.assign (.Name y py) e)) (Q := fun _ s' => Ok C e nm N Γ' S s' ∧ Mv e S S s s') hit hsc hnd hcap hstep hsz a E o (hs e) fun s' D CA m' vs h1 h2 h3 h4 h5 h6 h7 => ?_)
    fun _ s' h => wpAny_pure (wpAny_pure ⟨_, S, rfl, ⟨rfl, h.1⟩, h.2⟩))
  have o₁ := o.kp h7
  have hr : RepN (fun a => N a ∧ S a = none) s'.heap (.list (ds.filterMap g)) (.ref D) := .list (o.fresh D h1) h5 (h6.mono fun _ f => f.elim)
  refine wpAny_assign_Name (store_val E o₁ hu.get.1 hc hr fun s₂ o₂ m₂ => ?_)
  rw [← hu.get.2.1] at o₂
  have hL : CA ≠ e.locals := by
    rintro rfl
    obtain ⟨m, ob, _, _, q, _⟩ := o.ns; rw [h2] at q; cases q
  have hC : ∀ x, e.cells.lookup x ≠ some CA := fun x q => by
    obtain ⟨v, ob, q', _⟩ := o.cells x CA q; rw [h2] at q'; cases q'
  have hSC : S CA = none := (o.fresh CA h2).2
  have hbC : C.hb.get? CA = none := by
    cases q' : C.hb.get? CA with
    | none => rfl
    | some ob => have := o.base _ ob q'; rw [h2] at this; cases this
  obtain ⟨ob, es, ep, q1, q2, q3⟩ := h4
  have q1' := m₂.heap CA ob q1 hL hC hSC
  refine ⟨m', ⟨ob, es, ep, q1', q2, q3⟩, fun h' sb => ⟨ok_skip o₂ (fun ob' q ⟨vs, n, d⟩ => by rw [q1'] at q; cases q; rw [q2] at d; cases d) hbC (o.fresh CA h2) hL hC sb, ?_⟩⟩
  refine ⟨fun b oc q g1 g2 g3 => (sb.2 b fun hb => by subst hb; rw [h2] at q; cases q).trans (m₂.heap b oc (h7.heap b oc q) g1 g2 g3), fun b oc q => ?_, fun b q => .inl q, m₂.os.trans h7.os, fun i y q => m₂.gens i y (h7.gens i y q)⟩
  obtain ⟨oc', q'⟩ := m₂.live b oc (h7.heap b oc q)
  exact ⟨oc', (sb.2 b fun hb => by subst hb; rw [h2] at q; cases q).trans q'⟩

/-! while -/
theorem E1.while_ {test : Expr} {body : List Stmt} {pos : Pos} {Φ : Out → Prop} (Inv : Nat → List Slot) (n : Nat) (h0 : GLe Γ (Inv 0))
    (hstep : ∀ i, i < n → Tr C k sc nm (Inv i) test true ∧ Ex C k sc nm (Inv i) body (fun o => ∃ Γ', o = .next Γ' ∧ GLe Γ' (Inv (i + 1)))) (hend : Tr C k sc nm (Inv n) test false) (hΦ : Φ (.next (Inv n))) :
    E1 C k sc nm Γ (.While test body [] pos) Φ := by
  refine ⟨?_⟩; intro A e N S s a E o
  refine wpAny_While (codeAny_whileLoop (fun m s' => ∃ i S', m = n - i ∧ i ≤ n ∧ Ok C e nm N (Inv i) S' s' ∧ Mv e S S' s s') ?_ n ⟨0, S, rfl, Nat.zero_le _, o.le h0, .refl e S s⟩)
  rintro m s₁ ⟨i, S', rfl, hi, o₁, m₁⟩
  refine wpAny_noRaise ?_
  by_cases hlt : i < n
  · obtain ⟨ht, hx⟩ := hstep i hlt
    refine wp_keep (ht.run A e N S' s₁ a E o₁) fun b s₂ h₂ => ?_
    obtain ⟨rfl, k₂⟩ := h₂
    rw [if_pos rfl]
    refine wpAny_noRaise (wp_keep (hx.run A e N S' s₂ a E (o₁.kp k₂)) fun fl s₃ h₃ => ?_)
    obtain ⟨out, S'', ⟨Γ', rfl, hle⟩, ⟨rfl, ok⟩, m₃⟩ := h₃
    exact ⟨n - (i + 1), by lia, i + 1, S'', rfl, by lia, ok.le hle, (m₁.trans (.of_kp k₂)).trans m₃⟩
  · obtain rfl : i = n := by lia
    refine wp_keep (hend.run A e N S' s₁ a E o₁) fun b s₂ h₂ => ?_
    obtain ⟨rfl, k₂⟩ := h₂
    rw [if_neg (by decide)]
    exact wpAny_noRaise (wpAny_execs_nil ⟨_, S', hΦ, ⟨rfl, o₁.kp k₂⟩, m₁.trans (.of_kp k₂)⟩)
end
end Mine

-- text MCallD
namespace Mine
open PySem PySem.W PyProof.Rows

theorem cellsFrom_acc {x : Str} : ∀ (names : List (Str × NameKind)) (n : Nat) (acc : List (Str × Addr)), (∃ c, acc.lookup x = some c) → ∃ c, (cellsFrom n names acc).lookup x = some c
  | [], _, _, h => h
  | (y, kd) :: r, n, acc, ⟨c, h⟩ => by
    unfold cellsFrom
    split
    · refine cellsFrom_acc r _ _ ?_
      rw [List.lookup_cons]
      cases x == y with
      | true => exact ⟨_, rfl⟩
      | false => exact ⟨c, h⟩
    · exact cellsFrom_acc r _ _ ⟨c, h⟩
theorem cellsFrom_some {x : Str} : ∀ (names : List (Str × NameKind)) (n : Nat) (acc : List (Str × Addr)), names.lookup x = some .cell → ∃ c, (cellsFrom n names acc).lookup x = some c
  | [], _, _, h => by cases h
  | (y, kd) :: r, n, acc, h => by
    unfold cellsFrom
    rw [List.lookup_cons] at h
    cases hb : x == y with
    | true =>
      rw [hb] at h; cases h
      rw [if_pos (by rfl)]
      refine cellsFrom_acc r _ _ ?_
      rw [List.lookup_cons, hb]; exact ⟨_, rfl⟩
    | false =>
      rw [hb] at h
      split
      · exact cellsFrom_some r _ _ h
      · exact cellsFrom_some r _ _ h

theorem bindL_not {kf : Str → Option NameKind} {x : Str} : ∀ (b : List (Str × Value)) (m : Str → Option Value), (∀ p ∈ b, p.1 ≠ x) → bindL kf b m x = m x
  | [], _, _ => rfl
  | (y, v) :: r, m, h => by
    unfold bindL
    rw [bindL_not r _ fun p hp => h p (.tail _ hp)]
    split
    · exact if_neg (Ne.symm (h _ (.head _)))
    · rfl
theorem bindC_not {kf : Str → Option NameKind} {x : Str} : ∀ (b : List (Str × Value)) (m : Str → Option Value), (∀ p ∈ b, p.1 ≠ x) → bindC kf b m x = m x
  | [], _, _ => rfl
  | (y, v) :: r, m, h => by
    unfold bindC
    rw [bindC_not r _ fun p hp => h p (.tail _ hp)]
    split
    · rfl
    · exact if_neg (Ne.symm (h _ (.head _)))
theorem zip_ne {x : Str} {ps : List Str} {vs : List Value} (h : x ∉ ps) : ∀ p ∈ ps.zip vs, p.1 ≠ x := fun p hp q => h (q ▸ (List.of_mem_zip hp).1)
theorem bindL_at {kf : Str → Option NameKind} {x : Str} {v : Value} : ∀ (ps : List Str) (vs : List Value) (m : Str → Option Value) (i : Nat), ps.Nodup → ps[i]? = some x → vs[i]? = some v → kf x = some .local → bindL kf (ps.zip vs) m x = some v
  | [], _, _, _, _, h, _, _ => by simp at h
  | p :: ps, [], _, _, _, _, h, _ => by simp at h
  | p :: ps, w :: vs, m, 0, hn, h1, h2, hk => by
    simp at h1 h2; subst h1; subst h2
    show bindL kf ((p, w) :: ps.zip vs) m p = _
    unfold bindL
    rw [bindL_not _ _ (zip_ne (List.nodup_cons.mp hn).1), if_pos hk]
    exact if_pos rfl
  | p :: ps, w :: vs, m, i + 1, hn, h1, h2, hk => by
    show bindL kf ((p, w) :: ps.zip vs) m x = _
    unfold bindL
    exact bindL_at ps vs _ i (List.nodup_cons.mp hn).2 (by simpa using h1) (by simpa using h2) hk
theorem bindC_at {kf : Str → Option NameKind} {x : Str} {v : Value} : ∀ (ps : List Str) (vs : List Value) (m : Str → Option Value) (i : Nat), ps.Nodup → ps[i]? = some x → vs[i]? = some v → kf x ≠ some .local → bindC kf (ps.zip vs) m x = some v
  | [], _, _, _, _, h, _, _ => by simp at h
  | p :: ps, [], _, _, _, _, h, _ => by simp at h
  | p :: ps, w :: vs, m, 0, hn, h1, h2, hk => by
    simp at h1 h2; subst h1; subst h2
    show bindC kf ((p, w) :: ps.zip vs) m p = _
    unfold bindC
    rw [bindC_not _ _ (zip_ne (List.nodup_cons.mp hn).1), if_neg hk]
    exact if_pos rfl
  | p :: ps, w :: vs, m, i + 1, hn, h1, h2, hk => by
    show bindC kf ((p, w) :: ps.zip vs) m x = _
    unfold bindC
    exact bindC_at ps vs _ i (List.nodup_cons.mp hn).2 (by simpa using h1) (by simpa using h2) hk

section
variable {C : Cx} {k : Nat} {sc : Scope} {nm : List Str} {Γ Γ₁ Γ' : List Slot} {A : Around} {e : Env} {N : Addr → Prop} {Sg S₁ : Addr → Option Nat} {s s₁ s' : Shared}

/-- the slots of a def's start -/
def startΓ (nm : List Str) (ds : List PyData) : List Slot := ds.map .val ++ List.replicate (nm.length - ds.length) .un

/-- the frame of a call -/
theorem frame_ok {fd : FuncData} {a : Addr} {pn : List Str} {ds : List PyData} {vs : List Value} (hbase : ∀ b o, C.hb.get? b = some o → s.heap.get? b = some o) (hbare : AllBare s.gens) (hfr : Frs N s)
    (hr : RepAllN N s.heap ds vs) (hg : fd.globals = mainGlobals) (hbl : fd.builtins = builtinsNs) (hk : fd.scope.kind = .function) (hnd : nm.Nodup) (hpn : ∃ r, nm = pn ++ r) (hlen : pn.length = ds.length)
    (hpk : ∀ x ∈ pn, fd.scope.names.lookup x = some .local ∨ fd.scope.names.lookup x = some .cell)
    (X : InCallC s (callEnvC fd s.heap.objs.size a).locals (bindL (callEnvC fd s.heap.objs.size a).kindOf (pn.zip vs) fun _ => none) (callEnvC fd s.heap.objs.size a).cells
        (bindC (callEnvC fd s.heap.objs.size a).kindOf (pn.zip vs) fun _ => none) s₁) :
    EnvOk C fd.scope (callEnvC fd s.heap.objs.size a) nm ∧ Ok C (callEnvC fd s.heap.objs.size a) nm N (startΓ nm ds) (fun _ => none) s₁ := by
  have hbn : ∀ b, s.heap.objs.size ≤ b → C.hb.get? b = none := fun b q => by
    cases q' : C.hb.get? b with
    | none => rfl
    | some ob => have := hbase b ob q'; rw [get_none q] at this; cases this
  have hab : ∀ n c, (callEnvC fd s.heap.objs.size a).cells.lookup n = some c → s.heap.objs.size < c := fun n c hc => X.above n c (mem_of_lookup hc)
  have E : EnvOk C fd.scope (callEnvC fd s.heap.objs.size a) nm := by
    refine ⟨rfl, hk, hg, hbl, hnd, fun x hx => cellsFrom_some _ _ _ hx, fun x y c h1 h2 => name_of_addr X.apart (mem_of_lookup h1) (mem_of_lookup h2), fun x c hc => Nat.ne_of_gt (hab x c hc), hbn _ (Nat.le_refl _), fun x c hc => hbn _ (Nat.le_of_lt (hab x c hc))⟩
  refine ⟨E, ?_⟩
  obtain ⟨h', tk, rfl⟩ := X.toInCall.same
  have keep := X.toInCall.keep
  have k₁ : Kp s { s with heap := h', toks := tk } := .of keep
  refine ⟨fun b o q => keep b o (hbase b o q), fun b q => ⟨hfr b (k₁.fresh q), rfl⟩, fun _ q => absurd rfl q, hbare, ⟨_, X.toInCall.ns⟩, fun x c hc => ⟨_, X.cell x c hc⟩, fun _ q => absurd rfl q, fun i x sl q r => ?_⟩
  unfold startΓ at r
  by_cases hi : i < ds.length
  · rw [List.getElem?_append_left (by simpa using hi), List.getElem?_map] at r
    obtain ⟨d, hd, rfl⟩ := Option.map_eq_some_iff.mp r
    obtain ⟨rest, rfl⟩ := hpn
    rw [List.getElem?_append_left (by lia)] at q
    obtain ⟨v, hv, rv⟩ := hr.get hd
    refine ⟨v, ?_, (rv.keeps keep).mono fun _ hN => ⟨hN, rfl⟩⟩
    have hpd : pn.Nodup := (List.nodup_append.mp hnd).1
    rcases hpk x (List.mem_of_getElem? q) with hl | hc
    · exact .inl ⟨hl, _, X.toInCall.ns, bindL_at pn vs _ i hpd q hv hl⟩
    · obtain ⟨c, hcc⟩ := E.cell x hc
      refine .inr ⟨.inl hc, c, hcc, ?_⟩
      have := X.cell x c hcc
      rw [bindC_at pn vs _ i hpd q hv (by
        show fd.scope.names.lookup x ≠ _
        rw [hc]; simp)] at this
      exact this
  · rw [List.getElem?_append_right (by simp; lia)] at r
    have := List.mem_of_getElem? r
    rw [(List.mem_replicate.mp this).2]
    trivial

theorem CallD.of {f : Str} {a : Addr} {params : Arguments} {body : List Stmt} {scf : Scope} {pn : List Str} {ds : List PyData} {d : PyData} (W : CxOk C) (F : Fn C f a params body scf) (nm : List Str)
    (hb : ∀ pm cd doc vs, vs.length = ds.length → bindArgs (Calls.docDef f params body scf pm cd doc) ⟨vs, []⟩ = pure (pn.zip vs)) (hlen : pn.length = ds.length)
    (hpn : ∃ r, nm = pn ++ r) (hnd : nm.Nodup) (hpk : ∀ x ∈ pn, scf.names.lookup x = some .local ∨ scf.names.lookup x = some .cell)
    (h : Ex C k scf nm (startΓ nm ds) body (fun o => o = .ret d))
    (hk : scf.kind = .function := by rfl) (hco : scf.isCoroutine = false := by rfl) (hgen : scf.isGenerator = false := by rfl) : CallD C (k + 1) a ds d := by
  refine ⟨?_⟩; intro A N s vs ao hbase hbare hfr hr
  obtain ⟨o, pm, cd, doc, ho, hd, hcd⟩ := F.at_
  refine wpAny_call (codeAny_call_cells (fd := Calls.docDef f params body scf pm cd doc) (binds := pn.zip vs) ao.room (hbase _ _ ho) hd (W.nolim.keeps hbase) (hcd.keeps hbase) rfl (hb pm cd doc vs hr.length) rfl
    (fun x hx => ?_) (fun s₁ X => ?_) hco hgen hk)
  · rcases hpk x.1 (List.of_mem_zip hx).1 with q | q
    · exact .inl q
    · obtain ⟨c, hc⟩ := cellsFrom_some scf.names (s.heap.objs.size + 1) [] q
      exact .inr ⟨q, by show ((cellsFrom _ scf.names []).lookup _).isSome = true; rw [hc]; rfl⟩
  · obtain ⟨E, O⟩ := frame_ok (nm := nm) hbase hbare hfr hr rfl rfl hk hnd hpn hlen hpk X
    refine wpAny_noRaise (wp_keep (h.run _ _ N _ s₁ ao.deeper E O) fun fl s₂ h₂ => ?_)
    obtain ⟨out, S', rfl, ⟨v, rfl, rv, Γ', ok⟩, mv⟩ := h₂
    obtain ⟨h', tk, rfl⟩ := X.toInCall.same
    refine ⟨rv, ⟨fun b ob q => mv.heap b ob (X.toInCall.keep b ob q) ?_ (fun x hx => ?_) rfl, mv.os, mv.gens, fun _ => ok.bare⟩⟩
    · rintro rfl; have := get_new s.heap; rw [show (callEnvC (Calls.docDef f params body scf pm cd doc) s.heap.objs.size a).locals = s.heap.objs.size from rfl, this] at q; cases q
    · have := X.above x b (mem_of_lookup hx)
      rw [get_none (Nat.le_of_lt this)] at q; cases q
end
end Mine

-- text MProg
namespace Mine
open PySem PySem.W PyProof.Rows

def topS (i : Nat) : Stmt := PySem.Challenge.pw_rw0055_01.main.body.getD i (.Pass ⟨0, 0, 0, 0⟩)
def fnB : Stmt → List Stmt
  | .FunctionDef _ _ b .. => b
  | _ => []
def fnP : Stmt → Arguments
  | .FunctionDef _ p .. => p
  | _ => ⟨[], [], none, [], [], none, []⟩
def fnS : Stmt → Scope
  | .FunctionDef _ _ _ _ _ _ s .. => s
  | _ => ⟨.function, [], false, false, []⟩
def fnN : Stmt → Str
  | .FunctionDef n .. => n
  | _ => ""
end Mine

-- text MTac
namespace Mine
open PySem PySem.W PyProof.Rows

/-- the codes of a text -/
def cp (x : Str) : List Nat := x.cps.toList
theorem cp_spec (x : Str) : x = tx (cp x) := by cases x; simp [cp]

def bltNames : List Str := ["len", "sum", "max", "min", "sorted", "range", "list", "zip", "enumerate", "type", "int"]
/-- the built-in names are the built-in ones -/
structure Bl (C : Cx) : Prop where
  W : CxOk C
  no : ∀ f ∈ bltNames, C.mg f = none

section
variable {C : Cx} {k : Nat} {sc : Scope} {nm : List Str} {Γ : List Slot}
theorem Ev.cstr2 {x : Str} {n : Nat} {pos : Pos} : Ev C k sc nm Γ (.Constant (.str x) n pos) (S (cp x)) := Ev.cstr (cp_spec x)

section
variable {o : Expr} {apos pos : Pos} {d₀ d : PyData} {ds : List PyData} {exs : List Expr}
theorem Ev.m_lower {x y : List Nat} (h₀ : Ev C k sc nm Γ o (S x)) (h : Txt.lower (tx x) = tx y) (hy : y.length ≤ 1000000)
    (hbase : ∀ e, attributeBase o "lower" e (eval o e) = eval o e := by intro _; rfl) (hline : (apos.endLine == pos.line) = true := by rfl) : Ev C k sc nm Γ (.Call (.Attribute o "lower" apos) [] [] pos) (S y) :=
  Ev.meth (d₀ := S x) (ds := []) h₀ EvL.nil (.inl rfl) F.slot_str_lower (by kernel_rfl) (OpL.lower h hy) hbase (hline := hline)
theorem Ev.m_upper {x y : List Nat} (h₀ : Ev C k sc nm Γ o (S x)) (h : Txt.upper (tx x) = tx y) (hy : y.length ≤ 1000000)
    (hbase : ∀ e, attributeBase o "upper" e (eval o e) = eval o e := by intro _; rfl) (hline : (apos.endLine == pos.line) = true := by rfl) : Ev C k sc nm Γ (.Call (.Attribute o "upper" apos) [] [] pos) (S y) :=
  Ev.meth (d₀ := S x) (ds := []) h₀ EvL.nil (.inl rfl) F.slot_str_upper (by kernel_rfl) (OpL.upper h hy) hbase (hline := hline)
theorem Ev.m_join {a : Expr} {sep r : List Nat} {xs : List (List Nat)} (h₀ : Ev C k sc nm Γ o (S sep)) (h₁ : Ev C k sc nm Γ a (LS xs)) (h : Txt.join (tx sep) (xs.map tx) = tx r) (hok : JoinOk (tx sep) (xs.map tx) = true)
    (hbase : ∀ e, attributeBase o "join" e (eval o e) = eval o e := by intro _; rfl) (he : ∀ e, starEach [a] e = (false, eval a e) :: starEach [] e := by intro _; rfl) (hline : (apos.endLine == pos.line) = true := by rfl)
    (hfew : ∀ e, ((backTo pos (starEach [a] e)).all (fun x => !x.1) && (backToKw pos (keywordEach [] e)).all (fun x => x.1.isSome)
      && decide ([a].length + ([] : List Keyword).length + (if ([] : List Keyword).isEmpty then 0 else 1) < 30)) = true := by intro _; rfl)
    (hp : ∀ e, (backTo pos (starEach [a] e)).any (·.1) = false := by intro _; rfl) :
    Ev C k sc nm Γ (.Call (.Attribute o "join" apos) [a] [] pos) (S r) :=
  Ev.meth (d₀ := S sep) (ds := [LS xs]) h₀ (.cons h₁ .nil he) (.inl rfl) F.slot_str_join (by kernel_rfl) (OpL.join h hok) hbase hfew hp hline
theorem Ev.m_split {a : Expr} {x y : List Nat} {xs : List (List Nat)} (h₀ : Ev C k sc nm Γ o (S x)) (h₁ : Ev C k sc nm Γ a (S y)) (h : Txt.split (tx x) (tx y) = xs.map tx) (hy : y ≠ []) (hx : x.length ≤ 1000000) (hxs : xs.length ≤ 1000000)
    (hbase : ∀ e, attributeBase o "split" e (eval o e) = eval o e := by intro _; rfl) (he : ∀ e, starEach [a] e = (false, eval a e) :: starEach [] e := by intro _; rfl) (hline : (apos.endLine == pos.line) = true := by rfl)
    (hfew : ∀ e, ((backTo pos (starEach [a] e)).all (fun x => !x.1) && (backToKw pos (keywordEach [] e)).all (fun x => x.1.isSome)
      && decide ([a].length + ([] : List Keyword).length + (if ([] : List Keyword).isEmpty then 0 else 1) < 30)) = true := by intro _; rfl)
    (hp : ∀ e, (backTo pos (starEach [a] e)).any (·.1) = false := by intro _; rfl) :
    Ev C k sc nm Γ (.Call (.Attribute o "split" apos) [a] [] pos) (LS xs) :=
  Ev.meth (d₀ := S x) (ds := [S y]) h₀ (.cons h₁ .nil he) (.inl rfl) F.slot_str_split (by kernel_rfl) (OpL.split h hy hx hxs) hbase hfew hp hline
theorem Ev.m_starts {a : Expr} {x y : List Nat} (h₀ : Ev C k sc nm Γ o (S x)) (h₁ : Ev C k sc nm Γ a (S y))
    (hbase : ∀ e, attributeBase o "startswith" e (eval o e) = eval o e := by intro _; rfl) (he : ∀ e, starEach [a] e = (false, eval a e) :: starEach [] e := by intro _; rfl) (hline : (apos.endLine == pos.line) = true := by rfl)
    (hfew : ∀ e, ((backTo pos (starEach [a] e)).all (fun x => !x.1) && (backToKw pos (keywordEach [] e)).all (fun x => x.1.isSome)
      && decide ([a].length + ([] : List Keyword).length + (if ([] : List Keyword).isEmpty then 0 else 1) < 30)) = true := by intro _; rfl)
    (hp : ∀ e, (backTo pos (starEach [a] e)).any (·.1) = false := by intro _; rfl) :
    Ev C k sc nm Γ (.Call (.Attribute o "startswith" apos) [a] [] pos) (.bool (Txt.startswith (tx x) (tx y))) :=
  Ev.meth (d₀ := S x) (ds := [S y]) h₀ (.cons h₁ .nil he) (.inl rfl) F.slot_str_startswith (by kernel_rfl) (OpL.starts rfl) hbase hfew hp hline
theorem Ev.m_ends {a : Expr} {x y : List Nat} (h₀ : Ev C k sc nm Γ o (S x)) (h₁ : Ev C k sc nm Γ a (S y))
    (hbase : ∀ e, attributeBase o "endswith" e (eval o e) = eval o e := by intro _; rfl) (he : ∀ e, starEach [a] e = (false, eval a e) :: starEach [] e := by intro _; rfl) (hline : (apos.endLine == pos.line) = true := by rfl)
    (hfew : ∀ e, ((backTo pos (starEach [a] e)).all (fun x => !x.1) && (backToKw pos (keywordEach [] e)).all (fun x => x.1.isSome)
      && decide ([a].length + ([] : List Keyword).length + (if ([] : List Keyword).isEmpty then 0 else 1) < 30)) = true := by intro _; rfl)
    (hp : ∀ e, (backTo pos (starEach [a] e)).any (·.1) = false := by intro _; rfl) :
    Ev C k sc nm Γ (.Call (.Attribute o "endswith" apos) [a] [] pos) (.bool (Txt.endswith (tx x) (tx y))) :=
  Ev.meth (d₀ := S x) (ds := [S y]) h₀ (.cons h₁ .nil he) (.inl rfl) F.slot_str_endswith (by kernel_rfl) (OpL.ends rfl) hbase hfew hp hline
theorem Ev.m_find {a b c : Expr} {x y : List Nat} {i j : Int} (h₀ : Ev C k sc nm Γ o (S x)) (h₁ : Ev C k sc nm Γ a (S y)) (h₂ : Ev C k sc nm Γ b (.int i)) (h₃ : Ev C k sc nm Γ c (.int j)) (hi : 0 ≤ i) (hj : 0 ≤ j)
    (hbase : ∀ e, attributeBase o "find" e (eval o e) = eval o e := by intro _; rfl) (he : ∀ e, starEach [a, b, c] e = (false, eval a e) :: starEach [b, c] e := by intro _; rfl)
    (he2 : ∀ e, starEach [b, c] e = (false, eval b e) :: starEach [c] e := by intro _; rfl) (he3 : ∀ e, starEach [c] e = (false, eval c e) :: starEach [] e := by intro _; rfl)
    (hline : (apos.endLine == pos.line) = true := by rfl)
    (hfew : ∀ e, ((backTo pos (starEach [a, b, c] e)).all (fun x => !x.1) && (backToKw pos (keywordEach [] e)).all (fun x => x.1.isSome)
      && decide ([a, b, c].length + ([] : List Keyword).length + (if ([] : List Keyword).isEmpty then 0 else 1) < 30)) = true := by intro _; rfl)
    (hp : ∀ e, (backTo pos (starEach [a, b, c] e)).any (·.1) = false := by intro _; rfl) :
    Ev C k sc nm Γ (.Call (.Attribute o "find" apos) [a, b, c] [] pos) (.int (match occ x y i.toNat (min j.toNat x.length) 1 with | k :: _ => (k : Int) | [] => -1)) :=
  Ev.meth (d₀ := S x) (ds := [S y, .int i, .int j]) h₀ (.cons h₁ (.cons h₂ (.cons h₃ .nil he3) he2) he) (.inl rfl) F.slot_str_find (by kernel_rfl) (OpL.find4 hi hj rfl) hbase hfew hp hline
theorem Ev.m_index {a : Expr} {ns : List Int} {v : Int} {j : Nat} (h₀ : Ev C k sc nm Γ o (L ns)) (h₁ : Ev C k sc nm Γ a (.int v)) (hj : j < ns.length) (h1 : ns[j] = v) (h2 : ∀ i, i < j → ns[i]? ≠ some v) (hsz : ns.length ≤ 1000000)
    (hbase : ∀ e, attributeBase o "index" e (eval o e) = eval o e := by intro _; rfl) (he : ∀ e, starEach [a] e = (false, eval a e) :: starEach [] e := by intro _; rfl) (hline : (apos.endLine == pos.line) = true := by rfl)
    (hfew : ∀ e, ((backTo pos (starEach [a] e)).all (fun x => !x.1) && (backToKw pos (keywordEach [] e)).all (fun x => x.1.isSome)
      && decide ([a].length + ([] : List Keyword).length + (if ([] : List Keyword).isEmpty then 0 else 1) < 30)) = true := by intro _; rfl)
    (hp : ∀ e, (backTo pos (starEach [a] e)).any (·.1) = false := by intro _; rfl) :
    Ev C k sc nm Γ (.Call (.Attribute o "index" apos) [a] [] pos) (.int j) :=
  Ev.meth (d₀ := L ns) (ds := [.int v]) h₀ (.cons h₁ .nil he) (.inr rfl) PySem.F.slot_list_index (by kernel_rfl) (OpL.index hj h1 h2 hsz) hbase hfew hp hline
theorem Ev.m_count {a : Expr} {ns : List Int} {v : Int} (h₀ : Ev C k sc nm Γ o (L ns)) (h₁ : Ev C k sc nm Γ a (.int v))
    (hbase : ∀ e, attributeBase o "count" e (eval o e) = eval o e := by intro _; rfl) (he : ∀ e, starEach [a] e = (false, eval a e) :: starEach [] e := by intro _; rfl) (hline : (apos.endLine == pos.line) = true := by rfl)
    (hfew : ∀ e, ((backTo pos (starEach [a] e)).all (fun x => !x.1) && (backToKw pos (keywordEach [] e)).all (fun x => x.1.isSome)
      && decide ([a].length + ([] : List Keyword).length + (if ([] : List Keyword).isEmpty then 0 else 1) < 30)) = true := by intro _; rfl)
    (hp : ∀ e, (backTo pos (starEach [a] e)).any (·.1) = false := by intro _; rfl) :
    Ev C k sc nm Γ (.Call (.Attribute o "count" apos) [a] [] pos) (.int (ns.count v : Nat)) :=
  Ev.meth (d₀ := L ns) (ds := [.int v]) h₀ (.cons h₁ .nil he) (.inr rfl) PySem.F.slot_list_count (by kernel_rfl) OpL.count hbase hfew hp hline
end

section
variable {fpos pos : Pos} {a b : Expr}
theorem Bl.at {C : Cx} (B : Bl C) {f : Str} (h : f ∈ bltNames) : C.mg f = none := B.no f h
theorem Ev.f_lenL {xs : List PyData} (B : Bl C) (hx : sc.names.lookup ("len" : Str) = some .globalImplicit) (h : Ev C k sc nm Γ a (.list xs)) (hl : xs.length ≤ 1000000)
    (he : ∀ e, starEach [a] e = (false, eval a e) :: starEach [] e := by intro _; rfl) (hp : ∀ e, (backTo pos (starEach [a] e)).any (·.1) = false := by intro _; rfl) :
    Ev C k sc nm Γ (.Call (.Name "len" fpos) [a] [] pos) (.int xs.length) :=
  Ev.blt B.W hx (B.at (by decide +kernel)) (by decide +kernel) (.cons h .nil he) (OpL.lenL hl) (by decide) (by decide) hp
theorem Ev.f_lenS {xs : List Nat} (B : Bl C) (hx : sc.names.lookup ("len" : Str) = some .globalImplicit) (h : Ev C k sc nm Γ a (S xs)) (hl : xs.length ≤ 1000000)
    (he : ∀ e, starEach [a] e = (false, eval a e) :: starEach [] e := by intro _; rfl) (hp : ∀ e, (backTo pos (starEach [a] e)).any (·.1) = false := by intro _; rfl) :
    Ev C k sc nm Γ (.Call (.Name "len" fpos) [a] [] pos) (.int xs.length) :=
  Ev.blt B.W hx (B.at (by decide +kernel)) (by decide +kernel) (.cons h .nil he) (OpL.lenS hl) (by decide) (by decide) hp
theorem Ev.f_sum {xs : List Int} (B : Bl C) (hx : sc.names.lookup ("sum" : Str) = some .globalImplicit) (h : Ev C k sc nm Γ a (L xs))
    (he : ∀ e, starEach [a] e = (false, eval a e) :: starEach [] e := by intro _; rfl) (hp : ∀ e, (backTo pos (starEach [a] e)).any (·.1) = false := by intro _; rfl) :
    Ev C k sc nm Γ (.Call (.Name "sum" fpos) [a] [] pos) (.int xs.sum) :=
  Ev.blt B.W hx (B.at (by decide +kernel)) (by decide +kernel) (.cons h .nil he) OpL.sumL (by decide) (by decide) hp
theorem Ev.f_sorted {xs ys : List Int} (B : Bl C) (hx : sc.names.lookup ("sorted" : Str) = some .globalImplicit) (h : Ev C k sc nm Γ a (L xs)) (hp' : ys.Perm xs) (hs : ys.Pairwise (· ≤ ·)) (h64 : xs.length < 64)
    (he : ∀ e, starEach [a] e = (false, eval a e) :: starEach [] e := by intro _; rfl) (hp : ∀ e, (backTo pos (starEach [a] e)).any (·.1) = false := by intro _; rfl) :
    Ev C k sc nm Γ (.Call (.Name "sorted" fpos) [a] [] pos) (L ys) :=
  Ev.blt B.W hx (B.at (by decide +kernel)) (by decide +kernel) (.cons h .nil he) (OpL.sortedL hp' hs h64) (by decide) (by decide) hp
theorem Ev.f_max {i j : Int} (B : Bl C) (hx : sc.names.lookup ("max" : Str) = some .globalImplicit) (h : Ev C k sc nm Γ a (.int i)) (h2 : Ev C k sc nm Γ b (.int j))
    (he : ∀ e, starEach [a, b] e = (false, eval a e) :: starEach [b] e := by intro _; rfl) (he2 : ∀ e, starEach [b] e = (false, eval b e) :: starEach [] e := by intro _; rfl) (hp : ∀ e, (backTo pos (starEach [a, b] e)).any (·.1) = false := by intro _; rfl) :
    Ev C k sc nm Γ (.Call (.Name "max" fpos) [a, b] [] pos) (.int (max i j)) :=
  Ev.blt B.W hx (B.at (by decide +kernel)) (by decide +kernel) (.cons h (.cons h2 .nil he2) he) OpL.maxI (by decide) (by decide) hp
theorem Ev.f_min {i j : Int} (B : Bl C) (hx : sc.names.lookup ("min" : Str) = some .globalImplicit) (h : Ev C k sc nm Γ a (.int i)) (h2 : Ev C k sc nm Γ b (.int j))
    (he : ∀ e, starEach [a, b] e = (false, eval a e) :: starEach [b] e := by intro _; rfl) (he2 : ∀ e, starEach [b] e = (false, eval b e) :: starEach [] e := by intro _; rfl) (hp : ∀ e, (backTo pos (starEach [a, b] e)).any (·.1) = false := by intro _; rfl) :
    Ev C k sc nm Γ (.Call (.Name "min" fpos) [a, b] [] pos) (.int (min i j)) :=
  Ev.blt B.W hx (B.at (by decide +kernel)) (by decide +kernel) (.cons h (.cons h2 .nil he2) he) OpL.minI (by decide) (by decide) hp
end
end
end Mine

-- text MPg
namespace Mine
open PySem PySem.W PyProof.Rows

/-- the text's names, as they stand at the call -/
structure Pg (C : Cx) : Prop where
  B : Bl C
  el : ∃ t, C.mg "ELLIPSIS_MARKER" = some (.str "..." t)
  mx : ∃ t, C.mg "_MAX_STRING_SIZE" = some (.int 40 t)
  mv : ∃ t, C.mg "_MOVE_COST" = some (.int 2 t)
  cs : ∃ t, C.mg "_CASE_COST" = some (.int 1 t)
  fn : ∀ i, i ∈ [2, 4, 5, 10, 11, 13, 14, 15, 16] → ∃ a, Fn C (fnN (topS i)) a (fnP (topS i)) (fnB (topS i)) (fnS (topS i))

/-- a def of the text, called -/
def FnD (C : Cx) (k i : Nat) (ds : List PyData) (d : PyData) : Prop := ∀ a, Fn C (fnN (topS i)) a (fnP (topS i)) (fnB (topS i)) (fnS (topS i)) → CallD C k a ds d

section
variable {C : Cx} {k : Nat} {sc : Scope} {nm : List Str} {Γ : List Slot}
theorem Ev.g_move {pos : Pos} (P : Pg C) (hx : sc.names.lookup ("_MOVE_COST" : Str) = some .globalImplicit) : Ev C k sc nm Γ (.Name "_MOVE_COST" pos) (.int 2) := by
  obtain ⟨t, h⟩ := P.mv; exact .gconst P.B.W hx h (fun _ => .int 2 t) (by decide)
theorem Ev.g_case {pos : Pos} (P : Pg C) (hx : sc.names.lookup ("_CASE_COST" : Str) = some .globalImplicit) : Ev C k sc nm Γ (.Name "_CASE_COST" pos) (.int 1) := by
  obtain ⟨t, h⟩ := P.cs; exact .gconst P.B.W hx h (fun _ => .int 1 t) (by decide)
theorem Ev.g_max {pos : Pos} (P : Pg C) (hx : sc.names.lookup ("_MAX_STRING_SIZE" : Str) = some .globalImplicit) : Ev C k sc nm Γ (.Name "_MAX_STRING_SIZE" pos) (.int 40) := by
  obtain ⟨t, h⟩ := P.mx; exact .gconst P.B.W hx h (fun _ => .int 40 t) (by decide)
theorem Ev.g_ell {pos : Pos} (P : Pg C) (hx : sc.names.lookup ("ELLIPSIS_MARKER" : Str) = some .globalImplicit) : Ev C k sc nm Γ (.Name "ELLIPSIS_MARKER" pos) (S [46, 46, 46]) := by
  obtain ⟨t, h⟩ := P.el; refine .gconst P.B.W hx h (fun _ => ?_) (by decide)
  have : ("..." : Str) = tx [46, 46, 46] := by decide +kernel
  rw [this]; exact .str _ t

theorem Ev.call {f : Str} {fpos pos : Pos} {exs : List Expr} {ds : List PyData} {d : PyData} (P : Pg C) (i : Nat) (hi : i ∈ [2, 4, 5, 10, 11, 13, 14, 15, 16]) (hf : f = fnN (topS i)) (hx : sc.names.lookup f = some .globalImplicit)
    (hs : EvL C k sc nm Γ exs ds) (h : FnD C k i ds d) (hn : plainName f = true) (hp : ∀ e, (backTo pos (starEach exs e)).any (·.1) = false := by intro _; rfl) : Ev C k sc nm Γ (.Call (.Name f fpos) exs [] pos) d := by
  obtain ⟨a, F⟩ := P.fn i hi
  subst hf
  exact .fn P.B.W hx F hs (h a F) hn hp

theorem FnD.of {i : Nat} {pn : List Str} {ds : List PyData} {d : PyData} (P : Pg C) (nm : List Str)
    (h : Ex C k (fnS (topS i)) nm (startΓ nm ds) (fnB (topS i)) (fun o => o = .ret d))
    (hb : ∀ pm cd doc vs, vs.length = ds.length → bindArgs (Calls.docDef (fnN (topS i)) (fnP (topS i)) (fnB (topS i)) (fnS (topS i)) pm cd doc) ⟨vs, []⟩ = pure (pn.zip vs)) (hlen : pn.length = ds.length)
    (hpn : ∃ r, nm = pn ++ r) (hnd : nm.Nodup) (hpk : ∀ x ∈ pn, (fnS (topS i)).names.lookup x = some .local ∨ (fnS (topS i)).names.lookup x = some .cell)
    (hk : (fnS (topS i)).kind = .function := by rfl) (hco : (fnS (topS i)).isCoroutine = false := by rfl) (hgen : (fnS (topS i)).isGenerator = false := by rfl) : FnD C (k + 1) i ds d :=
  fun a F => CallD.of P.B.W F nm hb hlen hpn hnd hpk h hk hco hgen
end
end Mine

-- text MTac2
namespace Mine
open PySem PySem.W PyProof.Rows

theorem clip_nat (n m : Nat) : clipAt n (m : Int) = min m n := by
  have := clipAt_cast n (m : Int); lia
theorem psl_from {α : Type} (xs : List α) (n : Nat) : psl xs (some (n : Int)) none = xs.drop n := by
  unfold psl
  simp only [Option.elim, clip_nat]
  by_cases h : n ≤ xs.length
  · rw [Nat.min_eq_left h, List.take_of_length_le (by simp)]
  · rw [Nat.min_eq_right (by lia), List.drop_of_length_le (Nat.le_refl _), List.drop_of_length_le (by lia)]; simp
theorem psl_upto {α : Type} (xs : List α) (n : Nat) : psl xs none (some (n : Int)) = xs.take n := by
  unfold psl
  simp only [Option.elim, clip_nat, Nat.sub_zero, List.drop_zero]
  by_cases h : n ≤ xs.length
  · rw [Nat.min_eq_left h]
  · rw [Nat.min_eq_right (by lia), List.take_of_length_le (Nat.le_refl _), List.take_of_length_le (by lia)]
theorem psl_mid {α : Type} (xs : List α) (i j : Nat) : psl xs (some (i : Int)) (some (j : Int)) = (xs.drop i).take (j - i) := by
  unfold psl
  simp only [Option.elim, clip_nat]
  by_cases hi : i ≤ xs.length
  · rw [Nat.min_eq_left hi]
    by_cases hj : j ≤ xs.length
    · rw [Nat.min_eq_left hj]
    · rw [Nat.min_eq_right (by lia), List.take_of_length_le (by simp), List.take_of_length_le (by simp; lia)]
  · rw [Nat.min_eq_right (by lia : xs.length ≤ i), List.drop_of_length_le (Nat.le_refl _), List.drop_of_length_le (by lia)]; simp
theorem pst_map {α β : Type} (f : α → β) (xs : List α) (l u t : Option Int) : pst (xs.map f) l u t = (pst xs l u t).map f := by
  unfold pst
  rw [List.length_map, List.map_filterMap]
  congr 1
  funext i
  simp

section
variable {C : Cx} {k : Nat} {sc : Scope} {nm : List Str} {Γ : List Slot}
theorem Ev.cg {ex : Expr} {d d' : PyData} (h : Ev C k sc nm Γ ex d) (e : d = d') : Ev C k sc nm Γ ex d' := e ▸ h
theorem Tr.cg {ex : Expr} {d d' : Bool} (h : Tr C k sc nm Γ ex d) (e : d = d') : Tr C k sc nm Γ ex d' := e ▸ h

theorem Itm.str2 {xs : List Nat} {i : Int} (h : (seqIndex? i xs.length).isSome = true) (hsz : xs.length ≤ 1000000) : Itm C (S xs) i (S [xs.getD ((seqIndex? i xs.length).getD 0) 0]) := by
  obtain ⟨j, hj⟩ := Option.isSome_iff_exists.mp h
  have hlt := (seqIndex_spec hj).1
  refine Itm.str hj ?_ hsz
  rw [hj]; simp [List.getD, hlt]
theorem Itm.tuple2 {xs : List PyData} {i : Int} (h : (seqIndex? i xs.length).isSome = true) (hsz : xs.length ≤ 1000000) : Itm C (.tuple xs) i (xs.getD ((seqIndex? i xs.length).getD 0) .none) := by
  obtain ⟨j, hj⟩ := Option.isSome_iff_exists.mp h
  have hlt := (seqIndex_spec hj).1
  refine Itm.tuple hj ?_ hsz
  rw [hj]; simp [List.getD, hlt]
theorem Itm.listL {xs : List Int} {i : Int} (h : (seqIndex? i xs.length).isSome = true) (hsz : xs.length ≤ 1000000) : Itm C (L xs) i (.int (xs.getD ((seqIndex? i xs.length).getD 0) 0)) := by
  obtain ⟨j, hj⟩ := Option.isSome_iff_exists.mp h
  have hlt := (seqIndex_spec hj).1
  refine Itm.list (j := j) (by simpa using hj) ?_ (by simpa using hsz)
  rw [hj]; simp [List.getD, hlt]

section
variable {value : Expr} {lo hi st : Expr} {p pos : Pos} {i j : Int}
theorem nat_of {i : Int} (h : 0 ≤ i) : i = (i.toNat : Int) := (Int.toNat_of_nonneg h).symm
theorem Ev.fromL {ns : List Int} (h : Ev C k sc nm Γ value (L ns)) (hlo : Ev C k sc nm Γ lo (.int i)) (h0 : 0 ≤ i) (hsz : ns.length ≤ 1000000) : Ev C k sc nm Γ (.Subscript value (.Slice (some lo) none none p) pos) (L (ns.drop i.toNat)) :=
  (Ev.sliceL h (.int hlo) .no .no (by simp) (by simpa using hsz)).cg (by rw [pst_none, nat_of h0, psl_from, L, List.map_drop]; rfl)
theorem Ev.uptoL {ns : List Int} (h : Ev C k sc nm Γ value (L ns)) (hhi : Ev C k sc nm Γ hi (.int i)) (h0 : 0 ≤ i) (hsz : ns.length ≤ 1000000) : Ev C k sc nm Γ (.Subscript value (.Slice none (some hi) none p) pos) (L (ns.take i.toNat)) :=
  (Ev.sliceL h .no (.int hhi) .no (by simp) (by simpa using hsz)).cg (by rw [pst_none, nat_of h0, psl_upto, L, List.map_take]; rfl)
theorem Ev.midL {ns : List Int} (h : Ev C k sc nm Γ value (L ns)) (hlo : Ev C k sc nm Γ lo (.int i)) (hhi : Ev C k sc nm Γ hi (.int j)) (h0 : 0 ≤ i) (h1 : 0 ≤ j) (hsz : ns.length ≤ 1000000) :
    Ev C k sc nm Γ (.Subscript value (.Slice (some lo) (some hi) none p) pos) (L ((ns.drop i.toNat).take (j.toNat - i.toNat))) :=
  (Ev.sliceL h (.int hlo) (.int hhi) .no (by simp) (by simpa using hsz)).cg (by rw [pst_none, nat_of h0, nat_of h1, psl_mid, L, List.map_take, List.map_drop]; rfl)
theorem Ev.stepL {ns : List Int} (h : Ev C k sc nm Γ value (L ns)) (hlo : Ev C k sc nm Γ lo (.int i)) (hst : Ev C k sc nm Γ st (.int j)) (h0 : j ≠ 0) (hsz : ns.length ≤ 1000000) :
    Ev C k sc nm Γ (.Subscript value (.Slice (some lo) none (some st) p) pos) (L (pst ns (some i) none (some j))) :=
  (Ev.sliceL h (.int hlo) .no (.int hst) (by simpa using h0) (by simpa using hsz)).cg (by rw [pst_map])
theorem Ev.uptoLS {ns : List (List Nat)} (h : Ev C k sc nm Γ value (LS ns)) (hhi : Ev C k sc nm Γ hi (.int i)) (h0 : 0 ≤ i) (hsz : ns.length ≤ 1000000) : Ev C k sc nm Γ (.Subscript value (.Slice none (some hi) none p) pos) (LS (ns.take i.toNat)) :=
  (Ev.sliceL h .no (.int hhi) .no (by simp) (by simpa using hsz)).cg (by rw [pst_none, nat_of h0, psl_upto, LS, List.map_take]; rfl)
theorem Ev.fromS {x : List Nat} (h : Ev C k sc nm Γ value (S x)) (hlo : Ev C k sc nm Γ lo (.int i)) (h0 : 0 ≤ i) (hsz : x.length ≤ 1000000) : Ev C k sc nm Γ (.Subscript value (.Slice (some lo) none none p) pos) (S (x.drop i.toNat)) :=
  (Ev.sliceS h (.int hlo) .no hsz).cg (by rw [nat_of h0, psl_from]; rfl)
theorem Ev.uptoS {x : List Nat} (h : Ev C k sc nm Γ value (S x)) (hhi : Ev C k sc nm Γ hi (.int i)) (h0 : 0 ≤ i) (hsz : x.length ≤ 1000000) : Ev C k sc nm Γ (.Subscript value (.Slice none (some hi) none p) pos) (S (x.take i.toNat)) :=
  (Ev.sliceS h .no (.int hhi) hsz).cg (by rw [nat_of h0, psl_upto]; rfl)
theorem Ev.midS {x : List Nat} (h : Ev C k sc nm Γ value (S x)) (hlo : Ev C k sc nm Γ lo (.int i)) (hhi : Ev C k sc nm Γ hi (.int j)) (h0 : 0 ≤ i) (h1 : 0 ≤ j) (hsz : x.length ≤ 1000000) :
    Ev C k sc nm Γ (.Subscript value (.Slice (some lo) (some hi) none p) pos) (S ((x.drop i.toNat).take (j.toNat - i.toNat))) :=
  (Ev.sliceS h (.int hlo) (.int hhi) hsz).cg (by rw [nat_of h0, nat_of h1, psl_mid]; rfl)
end
end
theorem sidx_nat {i n : Nat} (h : i < n) : seqIndex? (i : Int) n = some i := by
  have h0 : ¬ ((i : Int) < 0) := by lia
  unfold seqIndex?
  simp only [h0, if_false]
  simp [h]
theorem sidx_neg {i : Int} {n : Nat} (h : i < 0) (h2 : 0 ≤ i + n) : seqIndex? i n = some (i + n).toNat := by
  unfold seqIndex?
  simp only [h, if_true]
  simp [h2]; lia
end Mine

-- text MTwo
namespace Mine
open PySem PySem.W PyProof.Rows

section
variable {C : Cx} {k : Nat} {sc : Scope} {nm : List Str} {Γ Γ₁ Γ' : List Slot} {A : Around} {e : Env} {N : Addr → Prop} {Sg S₁ : Addr → Option Nat} {s s₁ s' : Shared}

/-- the stores of a fresh list (own) and of data -/
theorem own_of {a : Addr} {i : Nat} (o : Ok C e nm N Γ Sg s) (k₁ : Kp s s₁) (ha : s.heap.get? a = none) (hp : s₁.heap.PlainList a #[]) : Ok C e nm N Γ (own1 Sg a i) s₁ := by
  refine (o.kp k₁).own ⟨_, PlainList.isl hp⟩ ?_ fun j y sl q r => (SlotOk.fresh (o.slots j y sl q r) ha).keeps k₁.heap
  cases q : C.hb.get? a with
  | none => rfl
  | some ob => have := o.base a ob q; rw [ha] at this; cases this

theorem own_store {x : Str} {i : Nat} {a : Addr} {Q : Unit → Shared → Prop} (E : EnvOk C sc e nm) (o : Ok C e nm N Γ (own1 Sg a i) s) (hi : nm[i]? = some x) (hc : canStore sc x = true) (hN : N a)
    (hp : s.heap.PlainList a #[]) (hq : ∀ s', Ok C e nm N (Γ.set i (.own [])) (own1 Sg a i) s' → Mv e (own1 Sg a i) (own1 Sg a i) s s' → Q () s') : wpAny (model C.prog C.w) A (storeName e x (.ref a)) Q F0 s := by
  refine store_slot (sl := .own []) E o hi hc (fun h' hv hk => ⟨a, [], hv, by unfold own1; rw [if_pos rfl], hN, ?_, .nil⟩) hq
  obtain ⟨n, q⟩ := hp
  exact ⟨n, hk a _ q ⟨_, _, rfl⟩⟩

theorem Mv.own1 {a : Addr} {i : Nat} (m : Mv e (own1 Sg a i) (own1 Sg a i) s₁ s') (k₁ : Kp s s₁) (ha : s.heap.get? a = none) : Mv e Sg (Mine.own1 Sg a i) s s' := by
  refine ⟨fun b ob q g1 g2 g3 => m.heap b ob (k₁.heap b ob q) g1 g2 ?_, fun b ob q => m.live b ob (k₁.heap b ob q), fun b q => ?_, m.os.trans k₁.os, fun j y q => m.gens j y (k₁.gens j y q)⟩
  · unfold Mine.own1; rw [if_neg]; exact g3
    rintro rfl; rw [ha] at q; cases q
  · by_cases h : b = a
    · subst h; exact .inr ha
    · refine .inl ?_
      unfold Mine.own1 at q; rw [if_neg h] at q; exact q

/-- x, y = ([], []): y is to be written -/
theorem E1.twoNil {x y : Str} {px py p1 p2 tp vp pos : Pos} {n1 n2 i j : Nat} (hx : Upd nm Γ₁ x (.val (.list [])) i Γ') (hy : Upd nm Γ y (.own []) j Γ₁) (hcx : canStore sc x = true) (hcy : canStore sc y = true)
    (hw : ∀ e, e.scope = sc → swappedStores [.Tuple [.Name x px, .Name y py] n1 tp] (.Tuple [.List [] p1, .List [] p2] n2 vp) e = pure (some [x, y]))
    (hs : ∀ e, e.scope = sc → swapsWithSole [.Tuple [.Name x px, .Name y py] n1 tp] (.Tuple [.List [] p1, .List [] p2] n2 vp) pos.line e = pure false := by intro _ _; rfl) :
    E1 C k sc nm Γ (.Assign [.Tuple [.Name x px, .Name y py] n1 tp] (.Tuple [.List [] p1, .List [] p2] n2 vp) pos) (Nx Γ') := by
  refine ⟨?_⟩; intro A e N S s ao E o
  refine PyProof.Rows.Assign_Tuple_swapped (names := [x, y]) ?_ (hs e E.scope) (hw e E.scope)
  refine wpAny_Tuple (wpAny_items_cons (wpAny_List (wpAny_items_nil ⟨Nat.zero_le _, ?_⟩)) rfl)
  refine wpAny_items_cons (wpAny_List (wpAny_items_nil ⟨Nat.zero_le _, ?_⟩)) rfl
  generalize hs2 : ({ s with heap := s.heap.push { cls := .type "list", data := .seq ([] : List Value).toArray } } : Shared) = s2
  have k2 : Kp s s2 := by subst hs2; exact .push
  have ha2 : s2.heap.get? s.heap.objs.size = some { cls := .type "list", data := .seq ([] : List Value).toArray } := by subst hs2; exact Heap.get?_push_size _ rfl
  have hga : s.heap.get? s.heap.objs.size = none := get_new _
  generalize ha : s.heap.objs.size = a at *
  generalize hs3 : ({ s2 with heap := s2.heap.push { cls := .type "list", data := .seq ([] : List Value).toArray } } : Shared) = s3
  have k3 : Kp s2 s3 := by subst hs3; exact .push
  have hb3 : s3.heap.get? s2.heap.objs.size = some { cls := .type "list", data := .seq ([] : List Value).toArray } := by subst hs3; exact Heap.get?_push_size _ rfl
  have hgb : s2.heap.get? s2.heap.objs.size = none := get_new _
  generalize hb : s2.heap.objs.size = b at *
  have hab : a ≠ b := by rintro rfl; rw [hgb] at ha2; cases ha2
  clear hs2 hs3
  refine wpAny_items_nil ⟨by simp [sizeLine], ?_⟩
  have kt : Kp s3 { s3 with heap := s3.heap.push { cls := .type "tuple", data := .seq ([.ref a, .ref b] : List Value).toArray } } := .push
  refine PyProof.Rows.unpackItems_tuple (items := ([.ref a, .ref b] : List Value).toArray) ao.hd (IsTup.new _ _) fun h' he => ?_
  generalize hs4 : ({ s3 with heap := s3.heap.push { cls := .type "tuple", data := .seq ([.ref a, .ref b] : List Value).toArray } } : Shared) = s4 at *
  have kp : Kp s4 { s4 with heap := h' } := ⟨fun c ob q => he c ob (fun hc => by subst hc; rw [get_new] at q; cases q) q, rfl, fun _ _ q => q, fun q => q⟩
  generalize hs5 : ({ s4 with heap := h' } : Shared) = s5 at *
  have ks : Kp s s5 := ((k2.trans k3).trans kt).trans kp
  have k25 : Kp s2 s5 := (k3.trans kt).trans kp
  have k35 : Kp s3 s5 := kt.trans kp
  have hsb : s.heap.get? b = none := k2.fresh hgb
  have hN := o.fresh b hsb
  have hNa := o.fresh a hga
  show wpAny _ A (do holding [.ref a] (bindName e y (.ref b)); assignInOrder (([x] : List Str).map fun n => bindName e n) [.ref a]) _ _ s5
  have o5 : Ok C e nm N Γ (own1 S b j) s5 := own_of o ks hsb ⟨_, k35.heap _ _ hb3⟩
  refine wpAny_bind (wpAny_holding (wpAny_bindName (own_store E o5 hy.get.1 hcy hN.1 ⟨_, k35.heap _ _ hb3⟩ fun s6 o6 m6 => ?_)))
  rw [← hy.get.2.1] at o6
  have hA6 : s6.heap.PlainList a (List.toArray []) := by
    refine ⟨_, m6.heap a _ (k25.heap _ _ ha2) ?_ (fun z hz => ?_) ?_⟩
    · rintro rfl; obtain ⟨m, ob, _, _, q, _⟩ := o.ns; rw [hga] at q; cases q
    · obtain ⟨v, ob, q, _⟩ := o.cells z _ hz; rw [hga] at q; cases q
    · unfold own1; rw [if_neg hab]; exact hNa.2
  show wpAny _ A (do holding [] (bindName e x (.ref a)); assignInOrder (([] : List Str).map fun n => bindName e n) []) _ _ s6
  refine wpAny_bind (wpAny_holding (wpAny_bindName (store_val (d := .list []) E o6 hx.get.1 hcx (.list ⟨hNa.1, by unfold own1; rw [if_neg hab]; exact hNa.2⟩ hA6 .nil) fun s7 o7 m7 => ?_)))
  rw [← hx.get.2.1] at o7
  exact wpAny_pure ⟨_, own1 S b j, rfl, ⟨rfl, o7⟩, Mv.own1 (m6.trans m7) ks hsb⟩

/-- x, y = ([], e): x is to be written -/
theorem E1.nilVal {x y : Str} {px py p1 tp vp pos : Pos} {n1 n2 i j : Nat} {v : Expr} {d : PyData} (h : Ev C k sc nm Γ v d) (hf : isFlat d = true) (hx : Upd nm Γ₁ x (.own []) i Γ') (hy : Upd nm Γ y (.val d) j Γ₁) (hcx : canStore sc x = true) (hcy : canStore sc y = true)
    (hw : ∀ e, e.scope = sc → swappedStores [.Tuple [.Name x px, .Name y py] n1 tp] (.Tuple [.List [] p1, v] n2 vp) e = pure (some [x, y]))
    (hs : ∀ e, e.scope = sc → swapsWithSole [.Tuple [.Name x px, .Name y py] n1 tp] (.Tuple [.List [] p1, v] n2 vp) pos.line e = pure false := by intro _ _; rfl)
    (he : ∀ e, starEach [v] e = (false, eval v e) :: starEach [] e := by intro _; rfl) :
    E1 C k sc nm Γ (.Assign [.Tuple [.Name x px, .Name y py] n1 tp] (.Tuple [.List [] p1, v] n2 vp) pos) (Nx Γ') := by
  refine ⟨?_⟩; intro A e N S s ao E o
  refine PyProof.Rows.Assign_Tuple_swapped (names := [x, y]) ?_ (hs e E.scope) (hw e E.scope)
  refine wpAny_Tuple (wpAny_items_cons (wpAny_List (wpAny_items_nil ⟨Nat.zero_le _, ?_⟩)) rfl)
  generalize hs2 : ({ s with heap := s.heap.push { cls := .type "list", data := .seq ([] : List Value).toArray } } : Shared) = s2
  have k2 : Kp s s2 := by subst hs2; exact .push
  have ha2 : s2.heap.get? s.heap.objs.size = some { cls := .type "list", data := .seq ([] : List Value).toArray } := by subst hs2; exact Heap.get?_push_size _ rfl
  have hga : s.heap.get? s.heap.objs.size = none := get_new _
  generalize ha : s.heap.objs.size = a at *
  clear hs2
  have hNa := o.fresh a hga
  have o2 : Ok C e nm N Γ (own1 S a i) s2 := own_of o k2 hga ⟨_, ha2⟩
  refine wpAny_items_cons (ev_then h ao E o2 fun w s3 r3 k3 o3 => wpAny_items_nil ⟨by simp [sizeLine], ?_⟩) (he e)
  have kt : Kp s3 { s3 with heap := s3.heap.push { cls := .type "tuple", data := .seq ([.ref a, w] : List Value).toArray } } := .push
  refine PyProof.Rows.unpackItems_tuple (items := ([.ref a, w] : List Value).toArray) ao.hd (IsTup.new _ _) fun h' he => ?_
  generalize hs4 : ({ s3 with heap := s3.heap.push { cls := .type "tuple", data := .seq ([.ref a, w] : List Value).toArray } } : Shared) = s4 at *
  have kp : Kp s4 { s4 with heap := h' } := ⟨fun c ob q => he c ob (fun hc => by subst hc; rw [get_new] at q; cases q) q, rfl, fun _ _ q => q, fun q => q⟩
  generalize hs5 : ({ s4 with heap := h' } : Shared) = s5 at *
  have ks : Kp s s5 := ((k2.trans k3).trans kt).trans kp
  have k25 : Kp s2 s5 := (k3.trans kt).trans kp
  have k35 : Kp s3 s5 := kt.trans kp
  show wpAny _ A (do holding [.ref a] (bindName e y w); assignInOrder (([x] : List Str).map fun n => bindName e n) [.ref a]) _ _ s5
  have o5 := o3.kp k35
  refine wpAny_bind (wpAny_holding (wpAny_bindName (store_slotK (sl := .val d) E o5 hy.get.1 hcy (fun h' hv hk => ⟨w, hv, (r3.keeps k35.heap).stable fun b o e d _ => hk b o e d⟩) fun s6 o6 m6 hk6 => ?_)))
  rw [← hy.get.2.1] at o6
  have hA6 : s6.heap.PlainList a #[] := by
    exact ⟨_, hk6 a _ (k25.heap _ _ ha2) ⟨_, _, rfl⟩⟩
  show wpAny _ A (do holding [] (bindName e x (.ref a)); assignInOrder (([] : List Str).map fun n => bindName e n) []) _ _ s6
  refine wpAny_bind (wpAny_holding (wpAny_bindName (own_store E o6 hx.get.1 hcx hNa.1 hA6 fun s7 o7 m7 => ?_)))
  rw [← hx.get.2.1] at o7
  exact wpAny_pure ⟨_, own1 S a i, rfl, ⟨rfl, o7⟩, Mv.own1 (m6.trans m7) ks hga⟩
end
end Mine

-- text MOwn
namespace Mine
open PySem PySem.W PyProof.Rows
section
variable {C : Cx} {k : Nat} {sc : Scope} {nm : List Str} {Γ Γ₁ Γ' : List Slot} {A : Around} {e : Env} {N : Addr → Prop} {Sg S₁ : Addr → Option Nat} {s s₁ s' : Shared}
/-- how long a list of the frame's own is -/
theorem Ev.f_lenOwn {fpos xpos pos : Pos} {x : Str} {xs : List PyData} {i : Nat} (B : Bl C) (hx : sc.names.lookup ("len" : Str) = some .globalImplicit) (h : Slt nm Γ x (.own xs) i) (hn : plainName x = true) (hl : xs.length ≤ 1000000) :
    Ev C k sc nm Γ (.Call (.Name "len" fpos) [.Name x xpos] [] pos) (.int xs.length) := by
  refine ⟨?_⟩; intro A e N Sg s a E ok
  have hk : e.scope.kind = .function := by rw [E.scope]; exact E.kind
  obtain ⟨b, vs, hv, hS, hN, hp, rs⟩ := ok.slots i x _ h.get.1 h.get.2
  show wpAny _ A (do callWith pos (← eval (.Name "len" fpos) e) [] (backTo pos (starEach [.Name x xpos] e)) (backToKw pos (keywordEach [] e))) _ _ s
  refine wpAny_bind (Calls.Name_function_global hk (by unfold Env.kindOf; rw [E.scope]; exact hx) ?_ (by decide))
  refine Calls.loadGlobal_builtin (by rw [E.glob]; exact B.W.g.keeps ok.base) (B.no _ (by decide +kernel)) (by rw [E.blt]; exact B.W.b.keeps ok.base) ((B.W.bts _ (by decide)).trans (by decide +kernel : bootBuiltins "len" = some (.builtin "len"))) ?_
  refine Calls.callWith_builtin rfl (evalArgs_any rfl (wpAny_items_cons (wpAny_Name (load_var E hn hv (wpAny_items_nil ?_)) (plainName.dbg hn)) rfl))
  have hlen := rs.length
  refine Calls.call_len_list (PlainList.isl hp) (by simp only [List.size_toArray]; lia) ?_
  rw [List.size_toArray, hlen]
  exact ⟨.int, .tok⟩

theorem RepAllN.flat {N N' : Addr → Prop} {h h' : Heap} {ds : List PyData} {vs : List Value} (r : RepAllN N h ds vs) (hf : ds.all isFlat = true) : RepAllN N' h' ds vs := by
  induction ds generalizing vs with
  | nil => rw [r.nil_inv]; exact .nil
  | cons d ds ih =>
    obtain ⟨v, w, rfl, h1, h2⟩ := r.cons_inv
    simp only [List.all_cons, Bool.and_eq_true] at hf
    exact .cons (h1.flat hf.1) (ih h2 hf.2)

theorem EvF.m_split {o a : Expr} {apos pos : Pos} {x y : List Nat} {xs : List (List Nat)} (h₀ : Ev C k sc nm Γ o (S x)) (h₁ : Ev C k sc nm Γ a (S y)) (h : Txt.split (tx x) (tx y) = xs.map tx) (hy : y ≠ []) (hx : x.length ≤ 1000000) (hxs : xs.length ≤ 1000000)
    (hbase : ∀ e, attributeBase o "split" e (eval o e) = eval o e := by intro _; rfl) (he : ∀ e, starEach [a] e = (false, eval a e) :: starEach [] e := by intro _; rfl) (hline : (apos.endLine == pos.line) = true := by rfl)
    (hfew : ∀ e, ((backTo pos (starEach [a] e)).all (fun x => !x.1) && (backToKw pos (keywordEach [] e)).all (fun x => x.1.isSome)
      && decide ([a].length + ([] : List Keyword).length + (if ([] : List Keyword).isEmpty then 0 else 1) < 30)) = true := by intro _; rfl)
    (hp : ∀ e, (backTo pos (starEach [a] e)).any (·.1) = false := by intro _; rfl) :
    EvF C k sc nm Γ (.Call (.Attribute o "split" apos) [a] [] pos) (xs.map S) := by
  refine ⟨?_⟩; intro A e N Sg s ao E ok
  refine wpAny_Call_method (hbase e) (hfew e) hline PySem.F.plainAttrs_str F.slot_str_split (by kernel_rfl) (ev_then h₀ ao E ok fun v s₁ r₁ k₁ o₁ => ?_)
  obtain ⟨hT, hd⟩ := r₁.typeIs (.inl rfl)
  refine ⟨hT, hd, Calls.callWith_builtin (hp e) (args_ (.cons h₁ .nil he) ao E o₁ (hp e) fun vs s₂ r₂ k₂ o₂ => ?_)⟩
  refine wp_keep ((OpL.split (C := C) h hy hx hxs).run A (fun b => s₂.heap.get? b = none) s₂ (v :: vs) ao.zero (fun _ q => q) (.cons (r₁.flat rfl) (r₂.flat rfl))) fun w s₃ hv => ?_
  obtain ⟨b, ws, rfl, hN, hpl, rs⟩ := hv.1.list_inv
  exact ⟨b, ws, rfl, (k₁.trans k₂).fresh hN, hpl, rs.flat (by simp [isFlat]), (k₁.trans k₂).trans hv.2⟩
end
end Mine

namespace Mine
open PySem PySem.W PyProof.Rows
-- the walk of my own judgements
local macro_rules | `(tactic| walk_at "slt") => `(tactic| first | with_reducible exact Slt.here | ((with_reducible apply Slt.there); walk_at "slt"))
local macro_rules | `(tactic| walk_at "upd") => `(tactic| first | with_reducible exact Upd.here | ((with_reducible apply Upd.there); walk_at "upd"))
local macro_rules | `(tactic| walk_at "name") => `(tactic| ((with_reducible apply Ev.name); (focus (walk_at "slt")); (focus decide)))
local macro_rules | `(tactic| walk_at "op") => `(tactic| first
  | with_reducible exact Op2.addI | with_reducible exact Op2.subI | with_reducible apply Op2.mulI | with_reducible apply Op2.modI | with_reducible apply Op2.divI
  | with_reducible apply Op2.powI | with_reducible apply Op2.shrI | with_reducible exact Op2.andI | with_reducible exact Op2.iaddI | with_reducible exact Op2.isubI
  | with_reducible exact Op2.eqI | with_reducible exact Op2.neI | with_reducible exact Op2.ltI | with_reducible exact Op2.gtI | with_reducible exact Op2.geI
  | with_reducible apply Op2.addS | with_reducible apply Op2.iaddS | with_reducible exact Op2.eqS | with_reducible exact Op2.neS | with_reducible exact Op2.inS | with_reducible exact Op2.ninS
  | with_reducible exact Op2.isB | with_reducible exact Op2.isnB | with_reducible exact Op2.isN | with_reducible exact Op2.isIN
  | with_reducible apply Op2.addL | with_reducible exact Op2.inL)
local macro_rules | `(tactic| walk_at "tru") => `(tactic| first | with_reducible exact Tru.b | with_reducible exact Tru.i | with_reducible apply Tru.s | with_reducible exact Tru.n)
local macro_rules | `(tactic| walk_at "itm") => `(tactic| first | with_reducible apply Itm.str2 | with_reducible apply Itm.tuple2 | with_reducible apply Itm.listL)
local macro_rules | `(tactic| walk_at "usr") => `(tactic| fail "no rule")
local macro_rules | `(tactic| walk_at "auto") => `(tactic| first
  | with_reducible exact Pg.B (by assumption)
  | with_reducible exact (show behindInMarks _ _ = false by with_unfolding_all rfl) | with_reducible exact (show ((_ : Nat) == _) = true by rfl)
  | ((intro (_ : Env)); rfl) | ((intro (_ : Value) (_ : Value)); rfl) | ((intro (_ : Env) (_ : Sem Value)); rfl) | decide +kernel | exact Nat.le_of_ble_eq_true rfl)
local macro_rules | `(tactic| walk_at "step") => `(tactic| first
  | walk_at "usr"
  | with_reducible exact Ev.cint | with_reducible exact Ev.cstr2 | with_reducible exact Ev.cnone | with_reducible exact Ev.cbool
  | walk_at "name"
  | with_reducible exact Ev.g_move (by assumption) (by decide +kernel) | with_reducible exact Ev.g_case (by assumption) (by decide +kernel) | with_reducible exact Ev.g_max (by assumption) (by decide +kernel) | with_reducible exact Ev.g_ell (by assumption) (by decide +kernel)
  | with_reducible apply Ev.bin | with_reducible apply Ev.cmp | with_reducible apply Ev.neg | with_reducible apply Ev.not
  | ((with_reducible apply Ev.fromS); (focus (walk_at "name"))) | ((with_reducible apply Ev.uptoS); (focus (walk_at "name"))) | ((with_reducible apply Ev.midS); (focus (walk_at "name")))
  | ((with_reducible apply Ev.fromL); (focus (walk_at "name"))) | ((with_reducible apply Ev.uptoL); (focus (walk_at "name"))) | ((with_reducible apply Ev.midL); (focus (walk_at "name")))
  | ((with_reducible apply Ev.stepL); (focus (walk_at "name"))) | ((with_reducible apply Ev.uptoLS); (focus (walk_at "name")))
  | with_reducible apply Ev.item
  | ((with_reducible apply Ev.f_lenS); (focus (exact Pg.B (by assumption))); (focus (decide +kernel)); (focus (walk_at "name"))) | ((with_reducible apply Ev.f_lenL); (focus (exact Pg.B (by assumption))); (focus (decide +kernel)); (focus (walk_at "name")))
  | with_reducible apply Ev.f_sum | with_reducible apply Ev.f_max | with_reducible apply Ev.f_min
  | with_reducible apply Ev.m_lower | with_reducible apply Ev.m_upper | with_reducible apply Ev.m_starts | with_reducible apply Ev.m_ends | with_reducible apply Ev.m_count
  | with_reducible apply Ev.m_find
  | with_reducible apply Ev.tuple | with_reducible apply Ev.list
  | with_reducible exact EvL.nil | with_reducible apply EvL.cons
  | with_reducible exact Pt.no | with_reducible apply Pt.int
  | with_reducible apply Tr.cmp | with_reducible apply Tr.not | with_reducible apply Tr.val
  | walk_at "op" | walk_at "tru" | walk_at "itm" | walk_at "auto")
local macro_rules | `(tactic| walk_at "go") => `(tactic| repeat' walk_at "step")
-- text W3
section


def findF (got y : List Nat) (i j : Nat) : Option Nat := match occ got y i (min j got.length) 1 with | k :: _ => some k | [] => none
def ellLoop (got : List Nat) (en : Nat) : List (List Nat) → Nat → Bool
  | [], _ => true
  | w :: r, st => match findF got w st en with | none => false | some k => ellLoop got en r (k + w.length)
def ellTail (got : List Nat) (ws : List (List Nat)) (st : Nat) : Bool :=
  if (ws.getLast?.getD []) = [] then if got.length < st then false else ellLoop got got.length ws st
  else if Txt.endswith (tx got) (tx (ws.getLast?.getD [])) then (if got.length - (ws.getLast?.getD []).length < st then false else ellLoop got (got.length - (ws.getLast?.getD []).length) ws.dropLast st) else false
def ellF (ws : List (List Nat)) (got : List Nat) : Bool :=
  if (ws.headD []).isEmpty = true then ellTail got ws 0 else if Txt.startswith (tx got) (tx (ws.headD [])) then ellTail got ws.tail (ws.headD []).length else false

theorem findF_le {got y : List Nat} {i j k : Nat} (h : findF got y i j = some k) : k + y.length ≤ min j got.length := by
  unfold findF at h
  cases hc : occ got y i (min j got.length) 1 with
  | nil => rw [hc] at h; cases h
  | cons a r =>
    rw [hc] at h
    have := (StrLaws.occ_spec (tx got) (tx y) i (min j got.length) 1 a (by show a ∈ occ got y i (min j got.length) 1; rw [hc]; exact .head _)).1
    rw [mk_length] at this
    cases h; lia
theorem findF_past {got y : List Nat} {i j : Nat} (h : j < i) : findF got y i j = none := by
  unfold findF
  have : occ got y i (min j got.length) 1 = [] := by
    show Builtin.Str.occurrences _ _ _ _ _ = []
    rw [StrLaws.occ_eq, show min j got.length + 1 - i = 0 by lia]
    rfl
  rw [this]

def stepS (got : List Nat) (en st : Nat) (w : List Nat) : Nat := match findF got w st en with | some k => k + w.length | none => en + 1
theorem stepS_past (got : List Nat) (en : Nat) (ws : List (List Nat)) : ws.foldl (stepS got en) (en + 1) = en + 1 := by
  induction ws with
  | nil => rfl
  | cons w r ih =>
    rw [List.foldl_cons]
    have : stepS got en (en + 1) w = en + 1 := by unfold stepS; rw [findF_past (by lia)]
    rw [this, ih]
theorem ellLoop_fold {got : List Nat} {en : Nat} : ∀ (ws : List (List Nat)) (st : Nat), st ≤ en → ellLoop got en ws st = decide (ws.foldl (stepS got en) st ≤ en)
  | [], st, h => by simp [ellLoop, h]
  | w :: r, st, h => by
    rw [List.foldl_cons]
    unfold ellLoop
    cases hf : findF got w st en with
    | none =>
      have : stepS got en st w = en + 1 := by unfold stepS; rw [hf]
      rw [this, stepS_past]; simp
    | some k =>
      have : stepS got en st w = k + w.length := by unfold stepS; rw [hf]
      rw [this]
      exact ellLoop_fold r _ (by have := findF_le hf; lia)

abbrev ellNm : List Str := ["want", "got", "ws", "startpos", "endpos", "w"]

theorem ell_loop {C : Cx} {n : Nat} (P : Pg C) {want got : List Nat} {ws : List (List Nat)} {st en : Nat} {b : Bool} {x : Slot} (hg : got.length ≤ 1000) (hst : st ≤ 1000) (hen : en ≤ 1000) (hws : ws.length ≤ 1000)
    (hw : ∀ w ∈ ws, w.length ≤ 1000) (hb : b = (if en < st then false else ellLoop got en ws st)) :
    Ex C n (fnS (topS 2)) ["want", "got", "ws", "startpos", "endpos", "w"] [.val (S want), .val (S got), .own (ws.map S), .val (.int st), .val (.int en), x] ((fnB (topS 2)).drop 8) (fun o => o = .ret (.bool b)) := by
  refine Ex.cons' (Φ₁ := fun o => (en < st ∧ o = .ret (.bool b)) ∨ (¬ en < st ∧ o = .next [.val (S want), .val (S got), .own (ws.map S), .val (.int st), .val (.int en), x])) (E1.ite (b := decide ((en : Int) < st)) (by walk_at "go") ?_ ?_) ?_ ?_
  · intro h
    have h' : en < st := by simp at h; lia
    exact Ex.last (E1.ret (by walk_at "go") (.inl ⟨h', by rw [hb, if_pos h']⟩))
  · intro h
    exact Ex.nil (.inr ⟨by simp at h; lia, rfl⟩)
  · rintro Γ' (⟨_, h⟩ | ⟨hne, h⟩)
    · cases h
    cases h
    rw [if_neg hne, ellLoop_fold _ _ (by lia)] at hb
    refine ExS.freeze (by walk_at "slt") (by walk_at "upd") ?_
    refine Ex.cons' (Φ₁ := fun o => (b = false ∧ o = .ret (.bool b)) ∨ (b = true ∧ o = .next [.val (S want), .val (S got), .val (LS ws), .val (.int (ws.foldl (stepS got en) st : Nat)), .val (.int en), .un]))
      (E1.forP (fun i => (ws.take i).foldl (stepS got en) st ≤ en) (fun i => [.val (S want), .val (S got), .val (LS ws), .val (.int ((ws.take i).foldl (stepS got en) st : Nat)), .val (.int en), .un]) (Itr.list (by walk_at "name")).v (.cons .same (.cons .same (.cons .same (.cons .same (.cons .same (.cons .un .nil)))))) (by simp; lia) ?_ ?_) ?_ ?_
    · intro i d hpi hd
      obtain ⟨hlt, hd'⟩ := List.getElem?_eq_some_iff.mp hd
      have hlt' : i < ws.length := by simpa using hlt
      obtain rfl : d = S ws[i] := by rw [← hd']; simp
      have hwl := hw ws[i] (List.getElem_mem _)
      have htk : ws.take (i + 1) = ws.take i ++ [ws[i]] := by rw [List.take_add_one, List.getElem?_eq_getElem hlt']; rfl
      have hfo : (ws.take (i + 1)).foldl (stepS got en) st = stepS got en ((ws.take i).foldl (stepS got en) st) ws[i] := by rw [htk, List.foldl_append]; rfl
      have hfin : ws.foldl (stepS got en) st = (ws.drop (i + 1)).foldl (stepS got en) ((ws.take (i + 1)).foldl (stepS got en) st) := by
        rw [← List.foldl_append, List.take_append_drop]
      generalize hs0 : (ws.take i).foldl (stepS got en) st = s0 at *
      generalize hw0 : ws[i] = w at *
      refine ⟨_, Bnd.name (by walk_at "upd") (by decide +kernel), ?_⟩
      refine Ex.cons (Γ₁ := [.val (S want), .val (S got), .val (LS ws), .val (.int ((findF got w s0 en).elim (-1) fun k => (k : Int))), .val (.int en), .val (S w)]) (E1.assign (Ev.cg (by walk_at "go" <;> lia) ?_) (by walk_at "upd") (by decide +kernel)) ?_
      · simp only [Int.toNat_natCast]
        unfold findF
        cases occ got w s0 (min en got.length) 1 <;> rfl
      cases hf : findF got w s0 en with
      | none =>
        refine Ex.cons' (Φ₁ := fun o => o = .ret (.bool false)) (E1.ite (b := true) (Tr.cg (by walk_at "go") (by rfl)) (fun _ => Ex.last (E1.ret (by walk_at "go") rfl)) (by simp)) (by intro _ h; cases h) ?_
        rintro o rfl _
        have hbf : b = false := by
          have hst1 : stepS got en s0 w = en + 1 := by unfold stepS; rw [hf]
          rw [hb, hfin, hfo, hst1, stepS_past]
          simp
        exact .inr ⟨_, rfl, .inl ⟨hbf, by rw [hbf]⟩⟩
      | some k =>
        have hk := findF_le hf
        refine Ex.cons (Γ₁ := [.val (S want), .val (S got), .val (LS ws), .val (.int k), .val (.int en), .val (S w)]) (E1.ite (b := false) (Tr.cg (by walk_at "go") (decide_eq_false (by show ¬ ((k : Int) < 0); lia))) (by simp) (fun _ => Ex.nil')) ?_
        refine Ex.last (E1.aug (by walk_at "slt") (by decide) (by walk_at "go" <;> lia) Op2.iaddI (Γ' := [.val (S want), .val (S got), .val (LS ws), .val (.int ((k : Int) + w.length)), .val (.int en), .val (S w)]) (by walk_at "upd") (by decide +kernel) |>.mono ?_)
        rintro o rfl
        have hst1 : stepS got en s0 w = k + w.length := by unfold stepS; rw [hf]
        refine .inl ⟨_, .inl rfl, ?_, by rw [hfo, hst1]; lia⟩
        have : (k : Int) + w.length = ((ws.take (i + 1)).foldl (stepS got en) st : Nat) := by
          rw [hfo, hst1]; simp
        rw [this]
        exact .cons .same (.cons .same (.cons .same (.cons .same (.cons .same (.cons .un .nil)))))
    · intro h
      rw [List.length_map, List.take_length] at h
      exact .inr ⟨by rw [hb]; simpa using h, by rw [List.length_map, List.take_length]⟩
    · rintro Γ' (⟨_, h⟩ | ⟨hbt, h⟩)
      · cases h
      cases h
      exact Ex.last (E1.ret (by walk_at "go") (by rw [hbt]))
    · rintro o (⟨he, rfl⟩ | ⟨_, rfl⟩) hn
      · rfl
      · exact absurd rfl (hn _)
  · rintro o (⟨he, rfl⟩ | ⟨_, rfl⟩) hn
    · rfl
    · exact absurd rfl (hn _)
end

-- text W3b
section


theorem ends_len {x y : List Nat} (h : Txt.endswith (tx x) (tx y) = true) : y.length ≤ x.length := by
  unfold Txt.endswith at h
  simp only [Bool.and_eq_true, decide_eq_true_eq, mk_length] at h
  lia

/-- from the last word on -/
theorem ell_tail {C : Cx} {n : Nat} (P : Pg C) {want got : List Nat} {ws : List (List Nat)} {st : Nat} {b : Bool} {x : Slot} (hg : got.length ≤ 1000) (hst : st ≤ 1000) (hws : ws.length ≤ 1000) (h1 : 1 ≤ ws.length)
    (hw : ∀ w ∈ ws, w.length ≤ 1000) (hb : b = ellTail got ws st) :
    Ex C n (fnS (topS 2)) ["want", "got", "ws", "startpos", "endpos", "w"] [.val (S want), .val (S got), .own (ws.map S), .val (.int st), .val (.int got.length), x] ((fnB (topS 2)).drop 6) (fun o => o = .ret (.bool b)) := by
  have hl : ws.getLast? = some ((ws.getLast?).getD []) := by
    cases ws with
    | nil => simp at h1
    | cons a r => simp [List.getLast?_eq_some_getLast]
  have hlm : (ws.getLast?).getD [] ∈ ws := List.mem_of_getLast? hl
  have hwl := hw _ hlm
  have hdl : (ws.map S).eraseIdx (ws.length - 1) = ws.dropLast.map S := by
    rw [List.dropLast_eq_take, List.eraseIdx_eq_take_drop_succ, List.drop_of_length_le (by simp; lia), List.append_nil, List.map_take]
  unfold ellTail at hb
  generalize hw0 : (ws.getLast?).getD [] = w at *
  have hlast : (ws.map S)[ws.length - 1]? = some (S w) := by
    rw [List.getElem?_map, ← List.getLast?_eq_getElem?, hl]; rfl
  refine Ex.cons (Γ₁ := [.val (S want), .val (S got), .own (ws.map S), .val (.int st), .val (.int got.length), .val (S w)])
    (E1.assign (Ev.itemOwn (by walk_at "slt") (by decide) (i := -1) (by walk_at "go") (j := ws.length - 1) (by rw [sidx_neg (by decide) (by simp; lia)]; simp; lia) hlast (by simp; lia)) (by walk_at "upd") (by decide +kernel)) ?_
  by_cases hwe : w = []
  · rw [if_pos hwe] at hb
    refine Ex.cons (Γ₁ := [.val (S want), .val (S got), .own (ws.map S), .val (.int st), .val (.int got.length), .val (S w)]) (E1.ite (b := false) (Tr.cg (by walk_at "go" <;> lia) (by simp [hwe])) (by simp) (fun _ => Ex.nil')) ?_
    exact ell_loop P hg hst hg hws hw hb
  · rw [if_neg hwe] at hb
    have htr : (!w.isEmpty) = true := by simpa using hwe
    by_cases hen : Txt.endswith (tx got) (tx w) = true
    · rw [if_pos hen] at hb
      have hle := ends_len hen
      refine Ex.cons (Γ₁ := [.val (S want), .val (S got), .own (ws.dropLast.map S), .val (.int st), .val (.int (got.length - w.length : Nat)), .val (S w)])
        (E1.ite (b := true) (Tr.cg (by walk_at "go" <;> lia) htr) (fun _ => ?_) (by simp)) ?_
      · refine Ex.last (E1.ite (b := true) (Tr.cg (by walk_at "go") hen) (fun _ => ?_) (by simp))
        refine Ex.cons (Γ₁ := [.val (S want), .val (S got), .own (ws.map S), .val (.int st), .val (.int (got.length - w.length : Nat)), .val (S w)])
          (E1.aug (d := .int (got.length - w.length : Nat)) (d₀ := .int got.length) (by walk_at "slt") (by decide) (d₁ := .int w.length) (by walk_at "go" <;> lia) (by rw [Int.ofNat_sub hle]; exact Op2.isubI) (by walk_at "upd") (by decide +kernel)) ?_
        refine Ex.last ((E1.delItem (by walk_at "slt") (by decide) (n := -1) (by walk_at "go") (i := ws.length - 1) (by rw [sidx_neg (by decide) (by simp; lia)]; simp; lia) (by simp; lia) (Γ' := [.val (S want), .val (S got), .own ((ws.map S).eraseIdx (ws.length - 1)), .val (.int st), .val (.int (got.length - w.length : Nat)), .val (S w)]) (by walk_at "upd")).mono ?_)
        rintro o rfl
        rw [hdl]
      · exact ell_loop P hg hst (by lia) (by simp; lia) (fun v hv => hw v (List.mem_of_mem_take (List.dropLast_eq_take ▸ hv))) hb
    · rw [if_neg hen] at hb
      refine Ex.cons' (Φ₁ := fun o => o = .ret (.bool b)) (E1.ite (b := true) (Tr.cg (by walk_at "go" <;> lia) htr) (fun _ => ?_) (by simp)) (by intro _ h; cases h) (fun o h _ => h)
      refine Ex.last (E1.ite (b := false) (Tr.cg (by walk_at "go") (by simpa using hen)) (by simp) (fun _ => ?_))
      exact Ex.last (E1.ret (by walk_at "go") (by rw [hb]))

theorem ellipsis_plain {C : Cx} {n : Nat} (P : Pg C) {want got : List Nat} (h : (occ want [46, 46, 46] 0 want.length 1).isEmpty = true) : FnD C (n + 1) 2 [S want, S got] (.bool (want == got)) := by
  refine FnD.of (pn := ["want", "got"]) P ["want", "got", "ws", "startpos", "endpos", "w"] ?_ ?_ rfl ⟨_, rfl⟩ (by decide) (by decide +kernel)
  · show Ex C n _ _ [.val (S want), .val (S got), .un, .un, .un, .un] _ _
    refine Ex.cons' (Φ₁ := fun o => o = .ret (.bool (want == got))) (E1.ite (b := true) (Tr.cg (by walk_at "go") h) (fun _ => Ex.last (E1.ret (by walk_at "go") rfl)) (by simp)) (by intro _ h; cases h) (fun o h _ => h)
  · intro pm cd doc vs hv
    match vs, hv with
    | [v1, v2], _ => rfl

theorem ellipsis_dots {C : Cx} {n : Nat} (P : Pg C) {want got : List Nat} {ws : List (List Nat)} (h : (occ want [46, 46, 46] 0 want.length 1).isEmpty = false) (hs : Txt.split (tx want) (tx [46, 46, 46]) = ws.map tx)
    (h2 : 2 ≤ ws.length) (hws : ws.length ≤ 1000) (hwn : want.length ≤ 1000) (hg : got.length ≤ 1000) (hw : ∀ w ∈ ws, w.length ≤ 1000) : FnD C (n + 1) 2 [S want, S got] (.bool (ellF ws got)) := by
  refine FnD.of (pn := ["want", "got"]) P ["want", "got", "ws", "startpos", "endpos", "w"] ?_ ?_ rfl ⟨_, rfl⟩ (by decide) (by decide +kernel)
  · show Ex C n _ _ [.val (S want), .val (S got), .un, .un, .un, .un] _ _
    refine Ex.cons (E1.ite (b := false) (Tr.cg (by walk_at "go") h) (by simp) (fun _ => Ex.nil')) ?_
    refine Ex.cons (Γ₁ := [.val (S want), .val (S got), .own (ws.map S), .un, .un, .un]) (E1.assignOwn ?_ (by walk_at "upd") (by decide +kernel)) ?_
    · exact EvF.m_split (by walk_at "name") (by walk_at "go") hs (by simp) (by lia) (by lia)
    refine Ex.cons (E1.assert (b := true) (Tr.cmp (Ev.f_lenOwn P.B (by decide +kernel) (by walk_at "slt") (by decide) (by simp; lia)) Ev.cint ?_) rfl) ?_
    · have : (decide ((2 : Int) ≤ ((ws.map S).length : Nat))) = true := by simp; lia
      exact this ▸ Op2.geI
    refine Ex.cons (Γ₁ := [.val (S want), .val (S got), .own (ws.map S), .val (.int 0), .val (.int got.length), .un]) (E1.assignSw (names := ["startpos", "endpos"]) (ds := [.int 0, .int got.length]) (by walk_at "go" <;> lia) rfl
      (show Sto C _ _ _ ["endpos", "startpos"] [.int got.length, .int 0] _ from Sto.cons (Γ₁ := [.val (S want), .val (S got), .own (ws.map S), .un, .val (.int got.length), .un]) (by walk_at "upd") (by decide +kernel) (Sto.cons (by walk_at "upd") (by decide +kernel) Sto.nil)) ?_) ?_
    · intro e he
      unfold swappedStores
      simp only [Env.blockKind, Env.kindOf, he]
      rfl
    match ws, h2, hs, hws, hw with
    | w :: r, h2, hs, hws, hw =>
    have hwl := hw w (.head _)
    refine Ex.cons (Γ₁ := [.val (S want), .val (S got), .own ((w :: r).map S), .val (.int 0), .val (.int got.length), .val (S w)])
      (E1.assign (Ev.itemOwn (by walk_at "slt") (by decide) (i := 0) (by walk_at "go") (j := 0) (sidx_nat (i := 0) (by simp)) rfl (by simp at hws ⊢; lia)) (by walk_at "upd") (by decide +kernel)) ?_
    generalize hb : ellF (w :: r) got = b
    change (if w.isEmpty = true then ellTail got (w :: r) 0 else if Txt.startswith (tx got) (tx w) = true then ellTail got r w.length else false) = b at hb
    by_cases hwe : w.isEmpty = true
    · rw [if_pos hwe] at hb
      refine Ex.cons (Γ₁ := [.val (S want), .val (S got), .own ((w :: r).map S), .val (.int (0 : Nat)), .val (.int got.length), .val (S w)]) (E1.ite (b := false) (Tr.cg (by walk_at "go" <;> lia) (by simp [hwe])) (by simp) (fun _ => Ex.nil')) ?_
      exact ell_tail P hg (by lia) hws (by lia) hw hb.symm
    · rw [if_neg hwe] at hb
      have htr : (!w.isEmpty) = true := by simpa using hwe
      by_cases hst : Txt.startswith (tx got) (tx w) = true
      · rw [if_pos hst] at hb
        refine Ex.cons (Γ₁ := [.val (S want), .val (S got), .own (r.map S), .val (.int w.length), .val (.int got.length), .val (S w)])
          (E1.ite (b := true) (Tr.cg (by walk_at "go" <;> lia) htr) (fun _ => ?_) (by simp)) ?_
        · refine Ex.last (E1.ite (b := true) (Tr.cg (by walk_at "go") hst) (fun _ => ?_) (by simp))
          refine Ex.cons (Γ₁ := [.val (S want), .val (S got), .own ((w :: r).map S), .val (.int w.length), .val (.int got.length), .val (S w)]) (E1.assign (by walk_at "go" <;> lia) (by walk_at "upd") (by decide +kernel)) ?_
          exact Ex.last ((E1.delItem (by walk_at "slt") (by decide) (n := 0) (by walk_at "go") (i := 0) (sidx_nat (i := 0) (by simp)) (by simp at hws ⊢; lia) (Γ' := [.val (S want), .val (S got), .own (((w :: r).map S).eraseIdx 0), .val (.int w.length), .val (.int got.length), .val (S w)]) (by walk_at "upd")))
        · exact ell_tail P hg hwl (by simp at hws; lia) (by simp at h2; lia) (fun v hv => hw v (.tail _ hv)) hb.symm
      · rw [if_neg hst] at hb
        refine Ex.cons' (Φ₁ := fun o => o = .ret (.bool b)) (E1.ite (b := true) (Tr.cg (by walk_at "go" <;> lia) htr) (fun _ => ?_) (by simp)) (by intro _ h; cases h) (fun o h _ => h)
        refine Ex.last (E1.ite (b := false) (Tr.cg (by walk_at "go") (by simpa using hst)) (by simp) (fun _ => ?_))
        exact Ex.last (E1.ret (by walk_at "go") (by rw [hb]))
  · intro pm cd doc vs hv
    match vs, hv with
    | [v1, v2], _ => rfl
end

-- text W0
section


theorem subst_cost {C : Cx} {k : Nat} (P : Pg C) {a b la lb : List Nat} {d : Int} (ha : Txt.lower (tx a) = tx la) (hb : Txt.lower (tx b) = tx lb) (hla : la.length ≤ 1000000) (hlb : lb.length ≤ 1000000)
    (hd : d = if a = b then 0 else if la = lb then 1 else 2) : FnD C (k + 1) 10 [S a, S b] (.int d) := by
  refine FnD.of (pn := ["ch_a", "ch_b"]) P ["ch_a", "ch_b"] ?_ ?_ rfl ⟨[], rfl⟩ (by decide) (by decide +kernel)
  · show Ex C k _ _ [.val (S a), .val (S b)] _ _
    refine Ex.cons' (Φ₁ := fun o => (a = b ∧ o = .ret (.int 0)) ∨ (a ≠ b ∧ o = .next [.val (S a), .val (S b)])) (E1.ite (b := a == b) (by walk_at "go") ?_ ?_) ?_ ?_
    · intro h
      exact Ex.last (E1.ret (by walk_at "go") (.inl ⟨by simpa using h, rfl⟩))
    · intro h
      exact Ex.nil (.inr ⟨by simpa using h, rfl⟩)
    · rintro Γ' (⟨_, h⟩ | ⟨hne, h⟩)
      · cases h
      · cases h
        refine Ex.cons' (Φ₁ := fun o => (la = lb ∧ o = .ret (.int 1)) ∨ (la ≠ lb ∧ o = .next [.val (S a), .val (S b)])) (E1.ite (b := la == lb) (by walk_at "go" <;> assumption) ?_ ?_) ?_ ?_
        · intro h
          exact Ex.last (E1.ret (by walk_at "go") (.inl ⟨by simpa using h, rfl⟩))
        · intro h
          exact Ex.nil (.inr ⟨by simpa using h, rfl⟩)
        · rintro Γ' (⟨_, h⟩ | ⟨hne2, h⟩)
          · cases h
          · cases h
            refine Ex.last (E1.ret (by walk_at "go") ?_)
            rw [hd, if_neg hne, if_neg hne2]
        · rintro o (⟨he, rfl⟩ | ⟨_, rfl⟩) hn
          · rw [hd, if_neg hne, if_pos he]
          · exact absurd rfl (hn _)
    · rintro o (⟨he, rfl⟩ | ⟨_, rfl⟩) hn
      · rw [hd, if_pos he]
      · exact absurd rfl (hn _)
  · intro pm cd doc vs hv
    match vs, hv with
    | [v1, v2], _ => rfl
end

-- text W1
section


theorem ret_S {a b : List Nat} (h : a = b) : (Out.ret (S a)) = Out.ret (S b) := by rw [h]
theorem ret_I {a b : Int} (h : a = b) : (Out.ret (.int a)) = Out.ret (.int b) := by rw [h]

def unitL (k w : Nat) : List Nat := if w = 0 then [34, 119 + k, 92, 34, 34] else if w = 1 then [97 + k] else [92, [34, 92, 40, 101].getD k 0]

theorem law_unit {C : Cx} {n : Nat} (P : Pg C) {k w : Nat} (hk : k < 4) (hw : w < 3) : FnD C (n + 1) 14 [.int k, .int w] (S (unitL k w)) := by
  refine FnD.of (pn := ["k", "way"]) P ["k", "way"] ?_ ?_ rfl ⟨[], rfl⟩ (by decide) (by decide +kernel)
  · show Ex C n _ _ [.val (.int k), .val (.int w)] _ _
    have hw' : w = 0 ∨ w = 1 ∨ w = 2 := by lia
    have hk' : k = 0 ∨ k = 1 ∨ k = 2 ∨ k = 3 := by lia
    refine Ex.cons' (Φ₁ := fun o => (w = 0 ∧ o = .ret (S (unitL k w))) ∨ (w ≠ 0 ∧ o = .next [.val (.int k), .val (.int w)])) (E1.ite (b := (w : Int) == 0) (by walk_at "go") ?_ ?_) ?_ ?_
    · intro h
      have hw0 : w = 0 := by simpa using h
      subst hw0
      refine Ex.last (E1.ret (by walk_at "go" <;> first | (rcases hk' with rfl | rfl | rfl | rfl <;> decide +kernel) | decide +kernel) (.inl ⟨rfl, ret_S ?_⟩))
      rcases hk' with rfl | rfl | rfl | rfl <;> decide +kernel
    · intro h
      exact Ex.nil (.inr ⟨by simpa using h, rfl⟩)
    · rintro Γ' (⟨_, h⟩ | ⟨hne, h⟩)
      · cases h
      · cases h
        refine Ex.cons' (Φ₁ := fun o => (w = 1 ∧ o = .ret (S (unitL k w))) ∨ (w = 2 ∧ o = .next [.val (.int k), .val (.int w)])) (E1.ite (b := (w : Int) == 1) (by walk_at "go") ?_ ?_) ?_ ?_
        · intro h
          have hw0 : w = 1 := by simp at h; lia
          subst hw0
          refine Ex.last (E1.ret (by walk_at "go" <;> first | (rcases hk' with rfl | rfl | rfl | rfl <;> decide +kernel) | decide +kernel) (.inl ⟨rfl, ret_S ?_⟩))
          rcases hk' with rfl | rfl | rfl | rfl <;> decide +kernel
        · intro h
          exact Ex.nil (.inr ⟨by simp at h; lia, rfl⟩)
        · rintro Γ' (⟨_, h⟩ | ⟨hne2, h⟩)
          · cases h
          · cases h
            subst hne2
            refine Ex.last (E1.ret (by walk_at "go" <;> first | (rcases hk' with rfl | rfl | rfl | rfl <;> decide +kernel) | decide +kernel) (ret_S ?_))
            rcases hk' with rfl | rfl | rfl | rfl <;> decide +kernel
        · rintro o (⟨he, rfl⟩ | ⟨_, rfl⟩) hn
          · rfl
          · exact absurd rfl (hn _)
    · rintro o (⟨he, rfl⟩ | ⟨_, rfl⟩) hn
      · rfl
      · exact absurd rfl (hn _)
  · intro pm cd doc vs hv
    match vs, hv with
    | [v1, v2], _ => rfl

theorem law_second {C : Cx} {n : Nat} (P : Pg C) {cut : List Int} {c : Int} {i j : Nat} (hi : i < cut.length) (h1 : cut[i] = c) (h2 : ∀ t, t < i → cut[t]? ≠ some c)
    (hj : j < (cut.drop (i + 1)).length) (h3 : (cut.drop (i + 1))[j] = c) (h4 : ∀ t, t < j → (cut.drop (i + 1))[t]? ≠ some c) (hsz : cut.length ≤ 1000) : FnD C (n + 1) 15 [L cut, .int c] (.int ((i + 1 + j : Nat) : Int)) := by
  refine FnD.of (pn := ["cut", "k"]) P ["cut", "k", "first"] ?_ ?_ rfl ⟨["first"], rfl⟩ (by decide) (by decide +kernel)
  · show Ex C n _ _ [.val (L cut), .val (.int c), .un] _ _
    refine Ex.cons (Γ₁ := [.val (L cut), .val (.int c), .val (.int i)]) (E1.assign (Ev.m_index (by walk_at "name") (by walk_at "name") hi h1 h2 (by lia)) (by walk_at "upd") (by decide +kernel)) ?_
    refine Ex.last (E1.ret (Ev.bin (Ev.bin (by walk_at "name") Ev.cint Op2.addI) (Ev.m_index (ns := cut.drop (i + 1)) (Ev.cg (Ev.fromL (by walk_at "name") (Ev.bin (by walk_at "name") Ev.cint Op2.addI) (by lia) (by lia)) ?_) (by walk_at "name") hj h3 h4 (by simp; lia)) Op2.addI) (ret_I ?_))
    · rw [show ((i : Int) + 1).toNat = i + 1 by lia]
    · lia
  · intro pm cd doc vs hv
    match vs, hv with
    | [v1, v2], _ => rfl
end

-- text W2
section


def putF (k : Int) (p : List Int × Nat) : List Int × Nat := (p.1.take (p.2 % (p.1.length + 1)) ++ [k] ++ p.1.drop (p.2 % (p.1.length + 1)), p.2 / (p.1.length + 1))
def curveF (xs : Nat → Nat) : Nat → List Int × List Int
  | 0 => ([], [])
  | n + 1 => ((putF n (putF n ((curveF xs n).1, xs n / 3))).1, (curveF xs n).2 ++ [((xs n % 3 : Nat) : Int)])
def addC (n : Nat) : Int := [1, 32, 85, 84].getD n 0
def scriptX (ns : List Int) (n : Nat) : Nat := (((pst ns (some (n : Int)) none (some 4)).sum + addC n).fmod (10 ^ 6)).toNat

def putN (k : Int) : Nat → List Int × Nat → List Int × Nat
  | 0, p => p
  | n + 1, p => putF k (putN k n p)
theorem putF_length (k : Int) (p : List Int × Nat) : (putF k p).1.length = p.1.length + 1 := by
  unfold putF
  have : p.2 % (p.1.length + 1) < p.1.length + 1 := Nat.mod_lt _ (by lia)
  simp only [List.length_append, List.length_take, List.length_drop, List.length_singleton]
  lia
theorem curveF_length (xs : Nat → Nat) (n : Nat) : (curveF xs n).1.length = 2 * n ∧ (curveF xs n).2.length = n := by
  induction n with
  | zero => exact ⟨rfl, rfl⟩
  | succ n ih => obtain ⟨h1, h2⟩ := ih; exact ⟨by simp only [curveF, putF_length]; lia, by simp only [curveF, List.length_append, List.length_singleton]; lia⟩

theorem R_get {n i : Nat} {d : PyData} (h : (R n)[i]? = some d) : i < n ∧ d = .int i := by
  have hlt : i < n := by have := (List.getElem?_eq_some_iff.mp h).1; simpa using this
  exact ⟨hlt, by simpa [hlt] using h.symm⟩

theorem law_curve {C : Cx} {n : Nat} (P : Pg C) {ns : List Int} (hns : ns.length ≤ 1000) :
    FnD C (n + 1) 13 [L ns] (.tuple [L (curveF (scriptX ns) 4).1, L (curveF (scriptX ns) 4).2]) := by
  refine FnD.of (pn := ["script"]) P ["script", "passes", "ways", "k", "x", "again", "place"] ?_ ?_ rfl ⟨_, rfl⟩ (by decide) (by decide +kernel)
  · show Ex C n _ _ [.val (L ns), .un, .un, .un, .un, .un, .un] _ _
    refine Ex.cons (Γ₁ := [.val (L ns), .val (.list []), .own [], .un, .un, .un, .un]) (E1.twoNil (Γ₁ := [.val (L ns), .un, .own [], .un, .un, .un, .un]) (by walk_at "upd") (by walk_at "upd") (by decide +kernel) (by decide +kernel) ?_) ?_
    · intro e he
      unfold swappedStores
      simp only [Env.blockKind, Env.kindOf, he]
      rfl
    refine Ex.cons (Γ₁ := [.val (L ns), .val (L (curveF (scriptX ns) 4).1), .own ((curveF (scriptX ns) 4).2.map .int), .un, .un, .un, .un])
      (E1.for_ (fun i => [.val (L ns), .val (L (curveF (scriptX ns) i).1), .own ((curveF (scriptX ns) i).2.map .int), .un, .un, .un, .un])
        (Itr.range (n := 4) P.B.W (by decide +kernel) (P.B.at (by decide +kernel)) Ev.cint rfl (by decide)) (GLe.refl _) ?_ rfl) ?_
    · intro i d hd
      obtain ⟨hi, rfl⟩ := R_get hd
      have hlen := curveF_length (scriptX ns) i
      generalize hX : scriptX ns i = X
      have hX' : ((pst ns (some (i : Int)) none (some 4)).sum + addC i).fmod (10 ^ 6) = (X : Int) := by
        rw [← hX]; unfold scriptX
        rw [Int.toNat_of_nonneg]
        exact Int.fmod_nonneg_of_pos _ (by decide)
      refine ⟨_, Bnd.name (by walk_at "upd") (by decide +kernel), ?_⟩
      refine Ex.cons (Γ₁ := [.val (L ns), .val (L (curveF (scriptX ns) i).1), .own ((curveF (scriptX ns) i).2.map .int), .val (.int i), .val (.int X), .un, .un]) (E1.assign (Ev.cg (d := .int _) (Ev.bin (Ev.bin (d₂ := .int (addC i)) (by walk_at "go" <;> first | lia | decide) (Ev.cg (by walk_at "go" <;> first | (show (seqIndex? (i : Int) 4).isSome = true; rw [sidx_nat hi]; rfl) | decide) ?_) Op2.addI) (by walk_at "go" <;> decide) (Op2.modI (by decide))) (by rw [show ((10 : Int) ^ Int.toNat 6) = 10 ^ 6 from rfl, hX'])) (by walk_at "upd") (by decide +kernel)) ?_
      · have h4 : i = 0 ∨ i = 1 ∨ i = 2 ∨ i = 3 := by lia
        rcases h4 with rfl | rfl | rfl | rfl <;> rfl
      refine Ex.cons (Γ₁ := [.val (L ns), .val (L (curveF (scriptX ns) i).1), .own ((curveF (scriptX ns) i).2.map .int ++ [.int ((X : Int).fmod 3)]), .val (.int i), .val (.int X), .un, .un]) (E1.append (by walk_at "slt") (by decide) (by walk_at "go" <;> decide) rfl (by simp; lia) (by walk_at "upd")) ?_
      refine Ex.cons (Γ₁ := [.val (L ns), .val (L (curveF (scriptX ns) i).1), .own ((curveF (scriptX ns) i).2.map .int ++ [.int ((X : Int).fmod 3)]), .val (.int i), .val (.int ((X / 3 : Nat) : Int)), .un, .un]) (E1.assign (d := .int ((X / 3 : Nat) : Int)) (Ev.cg (by walk_at "go" <;> decide) (by rw [Int.fdiv_eq_ediv_of_nonneg _ (by decide)]; rfl)) (by walk_at "upd") (by decide +kernel)) ?_
      refine Ex.last (E1.for_ (fun j => [.val (L ns), .val (L (putN i j ((curveF (scriptX ns) i).1, X / 3)).1), .own ((curveF (scriptX ns) i).2.map .int ++ [.int ((X : Int).fmod 3)]), .val (.int i), .val (.int ((putN i j ((curveF (scriptX ns) i).1, X / 3)).2 : Nat)), .un, .un])
        (Itr.range (n := 2) P.B.W (by decide +kernel) (P.B.at (by decide +kernel)) Ev.cint rfl (by decide)) (GLe.refl _) ?_ ?_)
      · intro j d hd
        obtain ⟨hj, rfl⟩ := R_get hd
        have hpl : (putN i j ((curveF (scriptX ns) i).1, X / 3)).1.length ≤ 100 := by
          have : j = 0 ∨ j = 1 := by lia
          rcases this with rfl | rfl <;> simp only [putN, putF_length] <;> lia
        generalize hp : putN i j ((curveF (scriptX ns) i).1, X / 3) = p at hpl
        obtain ⟨q, x⟩ := p
        dsimp only at hpl ⊢
        refine ⟨_, Bnd.name (by walk_at "upd") (by decide +kernel), ?_⟩
        have hm : ((x : Int).fmod ((q.map PyData.int).length + 1)) = ((x % (q.length + 1) : Nat) : Int) := by
          rw [List.length_map, Int.fmod_eq_emod_of_nonneg _ (by lia)]; rfl
        have hq : ((x : Int).fdiv ((q.map PyData.int).length + 1)) = ((x / (q.length + 1) : Nat) : Int) := by
          rw [List.length_map, Int.fdiv_eq_ediv_of_nonneg _ (by lia)]; rfl
        refine Ex.cons (Γ₁ := [.val (L ns), .val (L q), .own ((curveF (scriptX ns) i).2.map .int ++ [.int ((X : Int).fmod 3)]), .val (.int i), .val (.int x), .val (.int j), .val (.int ((x % (q.length + 1) : Nat) : Int))])
          (E1.assign (d := .int ((x % (q.length + 1) : Nat) : Int)) (Ev.cg (by walk_at "go" <;> first | (simp; lia) | lia) (by rw [hm])) (by walk_at "upd") (by decide +kernel)) ?_
        refine Ex.cons (Γ₁ := [.val (L ns), .val (L q), .own ((curveF (scriptX ns) i).2.map .int ++ [.int ((X : Int).fmod 3)]), .val (.int i), .val (.int ((x / (q.length + 1) : Nat) : Int)), .val (.int j), .val (.int ((x % (q.length + 1) : Nat) : Int))])
          (E1.assign (d := .int ((x / (q.length + 1) : Nat) : Int)) (Ev.cg (by walk_at "go" <;> first | (simp; lia) | lia) (by rw [hq])) (by walk_at "upd") (by decide +kernel)) ?_
        refine Ex.cons (Γ₁ := [.val (L ns), .val (L (putF i (q, x)).1), .own ((curveF (scriptX ns) i).2.map .int ++ [.int ((X : Int).fmod 3)]), .val (.int i), .val (.int ((x / (q.length + 1) : Nat) : Int)), .val (.int j), .val (.int ((x % (q.length + 1) : Nat) : Int))])
          (E1.assign (d := L (putF i (q, x)).1) (Ev.cg (by walk_at "go" <;> first | (simp; lia) | lia) ?_) (by walk_at "upd") (by decide +kernel)) ?_
        · have ht : ((x : Int) % ((q.length : Int) + 1)).toNat = x % (q.length + 1) := by
            rw [show ((x : Int) % ((q.length : Int) + 1)) = ((x % (q.length + 1) : Nat) : Int) from rfl, Int.toNat_natCast]
          simp [putF, ht]
        · refine Ex.nil (.inl ⟨_, .inl rfl, ?_⟩)
          simp only [putN, hp]
          exact .cons .same (.cons .same (.cons .same (.cons .same (.cons .same (.cons .un (.cons .un .nil))))))
      · refine .inl ⟨_, .inl rfl, ?_⟩
        have : (curveF (scriptX ns) i).2.map PyData.int ++ [.int ((X : Int).fmod 3)] = (curveF (scriptX ns) (i + 1)).2.map PyData.int := by
          simp only [curveF, hX, List.map_append, List.map_cons, List.map_nil]
          rw [Int.fmod_eq_emod_of_nonneg _ (by decide)]; rfl
        rw [this]
        simp only [List.length_map, List.length_range, putN, curveF, hX]
        exact .cons .same (.cons .same (.cons .same (.cons .un (.cons .un (.cons .un (.cons .un .nil))))))
    · refine ExS.freeze (by walk_at "slt") (by walk_at "upd") ?_
      exact Ex.last (E1.ret (by walk_at "go") rfl)
  · intro pm cd doc vs hv
    match vs, hv with
    | [v1], _ => rfl
end

-- text MRow
section
section
variable {C : Cx} {k : Nat} {sc : Scope} {nm : List Str} {Γ Γ₁ Γ' : List Slot} {A : Around} {e : Env} {N : Addr → Prop} {Sg S₁ : Addr → Option Nat} {s s₁ s' : Shared}

theorem items_ints {n : Nat} {a c : Int} {acc : Array Value} (h : ItemsOf (fun i v => ∃ t, v = .int (a + i * c) t) acc n) {N : Addr → Prop} {hp : Heap} : RepAllN N hp ((List.range n).map fun (i : Nat) => PyData.int (a + (i : Int) * c)) acc.toList := by
  obtain ⟨h1, h2⟩ := h
  have key : ∀ (l : List Value) (k : Nat), (∀ j v, l[j]? = some v → ∃ t, v = Value.int (a + ((k + j : Nat) : Int) * c) t) → RepAllN N hp ((List.range' k l.length).map fun (i : Nat) => PyData.int (a + (i : Int) * c)) l := by
    intro l
    induction l with
    | nil => intro k _; exact .nil
    | cons v l ih =>
      intro k h
      obtain ⟨t, rfl⟩ := h 0 v rfl
      rw [List.length_cons, List.range'_succ, List.map_cons]
      refine .cons .int (ih (k + 1) fun j v hj => ?_)
      obtain ⟨t, e⟩ := h (j + 1) v (by simpa using hj)
      exact ⟨t, by rw [e]; congr 3; lia⟩
  have := key acc.toList 0 fun j v hj => by
    obtain ⟨t, e⟩ := h2 j v (by simpa using hj)
    exact ⟨t, by rw [e]; congr 3; lia⟩
  rw [Array.length_toList, h1, ← List.range_eq_range'] at this
  exact this

/-- list(range(..)): a range at hand -/
theorem EvF.listOf {fpos pos : Pos} {arg : Expr} {a c : Int} {n : Nat} {b : Int} (B : Bl C) (hx : sc.names.lookup ("list" : Str) = some .globalImplicit)
    (h : ∀ A e N S s, AOk k A → EnvOk C sc e nm → Ok C e nm N Γ S s → wpAny (model C.prog C.w) A (eval arg e) (fun v s' => ∃ r t u w, v = .ref r ∧ IsRange s'.heap r a b c t u w ∧ Kp s s') F0 s)
    (hsmall : Builtin.Range.small a b c = true) (hn : Builtin.Range.rangeSize a b c = n) (hl : n ≤ 1000)
    (hp : ∀ e, (backTo pos (starEach [arg] e)).any (·.1) = false := by intro _; rfl)
    (he : ∀ e, starEach [arg] e = (false, eval arg e) :: starEach [] e := by intro _; rfl) :
    EvF C k sc nm Γ (.Call (.Name "list" fpos) [arg] [] pos) ((List.range n).map fun (i : Nat) => PyData.int (a + (i : Int) * c)) := by
  refine ⟨?_⟩; intro A e N S s ao E ok
  have hk : e.scope.kind = .function := by rw [E.scope]; exact E.kind
  show wpAny _ A (do callWith pos (← eval (.Name "list" fpos) e) [] (backTo pos (starEach [arg] e)) (backToKw pos (keywordEach [] e))) _ _ s
  refine wpAny_bind (Calls.Name_function_global hk (by unfold Env.kindOf; rw [E.scope]; exact hx) ?_ (by decide))
  refine Calls.loadGlobal_builtin (v := .type "list") (by rw [E.glob]; exact B.W.g.keeps ok.base) (B.no _ (by decide +kernel)) (by rw [E.blt]; exact B.W.b.keeps ok.base) ((B.W.bts _ (by decide)).trans (by decide +kernel)) ?_
  refine PyProof.Rows.callWith_type (hp e) (evalArgs_any (hp e) (wpAny_items_cons (wp_keep (h A e N S s ao E ok) fun v s₁ hv => wpAny_items_nil ?_) (he e)))
  obtain ⟨r, t, u, w, rfl, hr, k₁⟩ := hv
  refine call_list_range ao.hd hr hsmall hn (by lia) fun h' tk acc' c' hk hS' hacc => ?_
  exact ⟨_, acc'.toList, rfl, k₁.fresh (get_new _), ⟨c', by simpa using hS'⟩, items_ints hacc, k₁.trans (.of hk)⟩

theorem range3_at {fpos pos : Pos} {x y z : Expr} {i j l : Int} (B : Bl C) (hx : sc.names.lookup ("range" : Str) = some .globalImplicit) (h1 : Ev C k sc nm Γ x (.int i)) (h2 : Ev C k sc nm Γ y (.int j)) (h3 : Ev C k sc nm Γ z (.int l))
    (hl : l ≠ 0) (hsm : l.natAbs < 1073741824)
    (hp : ∀ e, (backTo pos (starEach [x, y, z] e)).any (·.1) = false := by intro _; rfl)
    (he : ∀ e, starEach [x, y, z] e = (false, eval x e) :: starEach [y, z] e := by intro _; rfl) (he2 : ∀ e, starEach [y, z] e = (false, eval y e) :: starEach [z] e := by intro _; rfl) (he3 : ∀ e, starEach [z] e = (false, eval z e) :: starEach [] e := by intro _; rfl) :
    ∀ A e N S s, AOk k A → EnvOk C sc e nm → Ok C e nm N Γ S s → wpAny (model C.prog C.w) A (eval (.Call (.Name "range" fpos) [x, y, z] [] pos) e) (fun v s' => ∃ r t u w, v = .ref r ∧ IsRange s'.heap r i j l t u w ∧ Kp s s') F0 s := by
  intro A e N S s a E ok
  have hk : e.scope.kind = .function := by rw [E.scope]; exact E.kind
  show wpAny _ A (do callWith pos (← eval (.Name "range" fpos) e) [] (backTo pos (starEach [x, y, z] e)) (backToKw pos (keywordEach [] e))) _ _ s
  refine wpAny_bind (Calls.Name_function_global hk (by unfold Env.kindOf; rw [E.scope]; exact hx) ?_ (by decide))
  refine Calls.loadGlobal_builtin (v := .type "range") (by rw [E.glob]; exact B.W.g.keeps ok.base) (B.no _ (by decide +kernel)) (by rw [E.blt]; exact B.W.b.keeps ok.base) ((B.W.bts _ (by decide)).trans (by decide +kernel)) ?_
  refine PyProof.Rows.callWith_type (hp e) (args_ (.cons h1 (.cons h2 (.cons h3 .nil he3) he2) he) a E ok (hp e) fun vs s₂ r₂ k₂ o₂ => ?_)
  obtain ⟨v, w, rfl, r1, r2⟩ := r₂.cons_inv
  obtain ⟨v', w', rfl, q2, r3⟩ := r2.cons_inv
  obtain ⟨v'', w'', rfl, q3, r4⟩ := r3.cons_inv
  obtain rfl := r4.nil_inv
  obtain ⟨t, rfl⟩ := r1.int_inv
  obtain ⟨u, rfl⟩ := q2.int_inv
  obtain ⟨u', rfl⟩ := q3.int_inv
  exact call_range_3 hl ⟨_, _, _, _, rfl, IsRange.new _ _ _ _ _ _ _, k₂.trans .push⟩ (.inl (PyProof.noPylong_small hsm))

/-- x = y = value -/
theorem E1.assign2 {x y : Str} {px py pos : Pos} {value : Expr} {d : PyData} {i j : Nat} (h : Ev C k sc nm Γ value d) (hx : Upd nm Γ x (.val d) i Γ₁) (hy : Upd nm Γ₁ y (.val d) j Γ') (hcx : canStore sc x = true) (hcy : canStore sc y = true) :
    E1 C k sc nm Γ (.Assign [.Name x px, .Name y py] value pos) (Nx Γ') := by
  refine ⟨?_⟩; intro A e N S s a E o
  refine wpAny_Assign_two (ev_then h a E o fun v s₁ r₁ k₁ o₁ => wpAny_assign_Name (store_val E o₁ hx.get.1 hcx r₁ fun s₂ o₂ m₂ => ?_))
  rw [← hx.get.2.1] at o₂
  refine wpAny_assign_Name (store_val E o₂ hy.get.1 hcy (r₁.mv E o₁ m₂) fun s₃ o₃ m₃ => ?_)
  rw [← hy.get.2.1] at o₃
  exact ⟨_, S, rfl, ⟨rfl, o₃⟩, (Mv.of_kp k₁).trans (m₂.trans m₃)⟩
end
end

-- text W4
section


def lw (c : Nat) : Nat := if 65 ≤ c ∧ c ≤ 90 then c + 32 else c
def subc (x y : Nat) : Int := if x = y then 0 else if lw x = lw y then 1 else 2
structure St4 where
  d : Int
  r : Int
  row : List Int
  mn : Int
def stepI (a : List Nat) (bc : Nat) (s : St4) (i : Nat) : St4 :=
  ⟨s.row.getD i 0, min (min s.r (s.row.getD i 0) + 2) (s.d + subc bc (a.getD i 0)), s.row.set i (min (min s.r (s.row.getD i 0) + 2) (s.d + subc bc (a.getD i 0))),
    if min (min s.r (s.row.getD i 0) + 2) (s.d + subc bc (a.getD i 0)) < s.mn then min (min s.r (s.row.getD i 0) + 2) (s.d + subc bc (a.getD i 0)) else s.mn⟩
def innerN (a : List Nat) (bc : Nat) (row : List Int) (x : Int) (n : Nat) : St4 := (List.range n).foldl (stepI a bc) ⟨x, x, row, 9223372036854775807⟩
def innerF (a : List Nat) (bc : Nat) (row : List Int) (x : Int) : St4 := innerN a bc row x a.length
def outF (a b : List Nat) (mx : Int) : Nat → Option (Int × List Int)
  | 0 => some (0, (List.range a.length).map fun (i : Nat) => 2 + (i : Int) * 2)
  | i + 1 => (outF a b mx i).bind fun s => let t := innerF a (b.getD i 0) s.2 ((i : Int) * 2); if mx < t.mn then none else some (t.r, t.row)
def levM (a b : List Nat) (mx : Int) : Int := (outF a b mx b.length).elim (mx + 1) (·.1)

theorem innerN_succ (a : List Nat) (bc : Nat) (row : List Int) (x : Int) (n : Nat) : innerN a bc row x (n + 1) = stepI a bc (innerN a bc row x n) n := by
  unfold innerN; rw [List.range_succ, List.foldl_append]; rfl
theorem innerN_length (a : List Nat) (bc : Nat) (row : List Int) (x : Int) (n : Nat) : (innerN a bc row x n).row.length = row.length := by
  induction n with
  | zero => rfl
  | succ n ih => rw [innerN_succ]; simp [stepI, ih]
theorem outF_length {a b : List Nat} {mx : Int} : ∀ {i : Nat} {s : Int × List Int}, outF a b mx i = some s → s.2.length = a.length
  | 0, s, h => by cases h; simp
  | i + 1, s, h => by
    unfold outF at h
    obtain ⟨t, h1, h2⟩ := Option.bind_eq_some_iff.mp h
    have := outF_length h1
    dsimp only at h2
    split at h2
    · cases h2
    · cases h2; exact (innerN_length _ _ _ _ _).trans this
theorem outF_none {a b : List Nat} {mx : Int} {i : Nat} (h : outF a b mx i = none) : ∀ {j : Nat}, i ≤ j → outF a b mx j = none := by
  intro j hj
  induction hj with
  | refl => exact h
  | step _ ih => unfold outF; rw [ih]; rfl

abbrev levNm : List Str := ["a", "b", "max_cost", "pre", "post", "row", "result", "bindex", "bchar", "distance", "minimum", "index", "substitute", "insert_delete"]

/-- the small letters are known -/
def LowOk (x : List Nat) : Prop := ∀ c ∈ x, Txt.lower (tx [c]) = tx [lw c]

theorem lev_main {C : Cx} {n : Nat} (P : Pg C) {a b : List Nat} {mx : Int} {x1 x2 x3 x4 x5 x6 x7 x8 x9 xa xb : Slot} (ha : a.length ≤ 100) (hb : b.length ≤ 100) (la : LowOk a) (lb : LowOk b) :
    Ex C (n + 1) (fnS (topS 11)) ["a", "b", "max_cost", "pre", "post", "row", "result", "bindex", "bchar", "distance", "minimum", "index", "substitute", "insert_delete"]
      [.val (S a), .val (S b), .val (.int mx), x1, x2, x3, x4, x5, x6, x7, x8, x9, xa, xb] ((fnB (topS 11)).drop 13) (fun o => o = .ret (.int (levM a b mx))) := by
  refine ExS.le (Γ' := [.val (S a), .val (S b), .val (.int mx), .un, .un, .un, .un, .un, .un, .un, .un, .un, .un, .un]) ?_ (.cons .same (.cons .same (.cons .same (.cons .un (.cons .un (.cons .un (.cons .un (.cons .un (.cons .un (.cons .un (.cons .un (.cons .un (.cons .un (.cons .un .nil))))))))))))))
  refine Ex.cons (Γ₁ := [.val (S a), .val (S b), .val (.int mx), .un, .un, .own (((List.range a.length).map fun (i : Nat) => 2 + (i : Int) * 2).map .int), .un, .un, .un, .un, .un, .un, .un, .un])
    (E1.assignOwn (ds := ((List.range a.length).map fun (i : Nat) => 2 + (i : Int) * 2).map .int) ?_ (by walk_at "upd") (by decide +kernel)) ?_
  · rw [List.map_map]
    refine EvF.listOf (a := 2) (c := 2) (b := 2 * ((a.length : Int) + 1)) P.B (by decide +kernel) (range3_at P.B (by decide +kernel) (by walk_at "go") (by walk_at "go" <;> lia) (by walk_at "go") (by decide) (by decide)) ?_ ?_ (by lia)
    · unfold Builtin.Range.small Builtin.Range.rangeSize
      simp only [show (2 : Int) > 0 by decide, if_true]
      have : (if (2 : Int) < 2 * ((a.length : Int) + 1) then (2 * ((a.length : Int) + 1) - 2 - 1) / 2 + 1 else 0) ≤ 1000 ∧ 0 ≤ (if (2 : Int) < 2 * ((a.length : Int) + 1) then (2 * ((a.length : Int) + 1) - 2 - 1) / 2 + 1 else 0) := by split <;> lia
      simp only [Builtin.Range.rangeFitsLong, Bool.and_eq_true, Bool.or_eq_true, decide_eq_true_eq]
      lia
    · unfold Builtin.Range.rangeSize
      simp only [show (2 : Int) > 0 by decide, if_true]
      split <;> lia
  refine Ex.cons (Γ₁ := [.val (S a), .val (S b), .val (.int mx), .un, .un, .own (((List.range a.length).map fun (i : Nat) => 2 + (i : Int) * 2).map .int), .val (.int 0), .un, .un, .un, .un, .un, .un, .un]) (E1.assign (by walk_at "go") (by walk_at "upd") (by decide +kernel)) ?_
  refine Ex.cons' (Φ₁ := fun o => (outF a b mx b.length = none ∧ o = .ret (.int (mx + 1))) ∨ (∃ s, outF a b mx b.length = some s ∧ o = .next [.val (S a), .val (S b), .val (.int mx), .un, .un, .own (s.2.map .int), .val (.int s.1), .un, .un, .un, .un, .un, .un, .un]))
    (E1.forP (fun i => (outF a b mx i).isSome = true) (fun i => [.val (S a), .val (S b), .val (.int mx), .un, .un, .own (((outF a b mx i).elim [] (·.2)).map .int), .val (.int ((outF a b mx i).elim 0 (·.1))), .un, .un, .un, .un, .un, .un, .un])
      (Itr.range (n := b.length) P.B.W (by decide +kernel) (P.B.at (by decide +kernel)) (by walk_at "go" <;> lia) rfl (by lia)).v (GLe.refl _) rfl ?_ ?_) ?_ ?_
  · intro i d hpi hd
    obtain ⟨hi, rfl⟩ := R_get hd
    obtain ⟨⟨r, row⟩, hs⟩ := Option.isSome_iff_exists.mp hpi
    have hrl : row.length = a.length := outF_length hs
    rw [hs]
    simp only [Option.elim]
    have hbi : b.getD i 0 = b[i] := by simp [List.getD, hi]
    refine ⟨_, Bnd.name (by walk_at "upd") (by decide +kernel), ?_⟩
    refine Ex.cons (Γ₁ := [.val (S a), .val (S b), .val (.int mx), .un, .un, .own (row.map .int), .val (.int r), .val (.int i), .val (S [b.getD i 0]), .un, .un, .un, .un, .un])
      (E1.assign (d := S [b.getD i 0]) (Ev.cg (by walk_at "go" <;> first | lia | (rw [sidx_nat hi]; rfl)) (by rw [sidx_nat hi]; rfl)) (by walk_at "upd") (by decide +kernel)) ?_
    refine Ex.cons (Γ₁ := [.val (S a), .val (S b), .val (.int mx), .un, .un, .own (row.map .int), .val (.int ((i : Int) * 2)), .val (.int i), .val (S [b.getD i 0]), .val (.int ((i : Int) * 2)), .un, .un, .un, .un])
      (E1.assign2 (Γ₁ := [.val (S a), .val (S b), .val (.int mx), .un, .un, .own (row.map .int), .val (.int r), .val (.int i), .val (S [b.getD i 0]), .val (.int ((i : Int) * 2)), .un, .un, .un, .un]) (by walk_at "go" <;> lia) (by walk_at "upd") (by walk_at "upd") (by decide +kernel) (by decide +kernel)) ?_
    refine Ex.cons (Γ₁ := [.val (S a), .val (S b), .val (.int mx), .un, .un, .own (row.map .int), .val (.int ((i : Int) * 2)), .val (.int i), .val (S [b.getD i 0]), .val (.int ((i : Int) * 2)), .val (.int 9223372036854775807), .un, .un, .un])
      (E1.assign (by walk_at "go") (by walk_at "upd") (by decide +kernel)) ?_
    have hfin : outF a b mx (i + 1) = if mx < (innerF a (b.getD i 0) row ((i : Int) * 2)).mn then none else some ((innerF a (b.getD i 0) row ((i : Int) * 2)).r, (innerF a (b.getD i 0) row ((i : Int) * 2)).row) := by
      unfold outF; rw [hs]; rfl
    refine Ex.cons (Γ₁ := [.val (S a), .val (S b), .val (.int mx), .un, .un, .own ((innerF a (b.getD i 0) row ((i : Int) * 2)).row.map .int), .val (.int (innerF a (b.getD i 0) row ((i : Int) * 2)).r), .val (.int i), .val (S [b.getD i 0]), .val (.int (innerF a (b.getD i 0) row ((i : Int) * 2)).d), .val (.int (innerF a (b.getD i 0) row ((i : Int) * 2)).mn), .un, .un, .un])
      (E1.for_ (fun j => [.val (S a), .val (S b), .val (.int mx), .un, .un, .own ((innerN a (b.getD i 0) row ((i : Int) * 2) j).row.map .int), .val (.int (innerN a (b.getD i 0) row ((i : Int) * 2) j).r), .val (.int i), .val (S [b.getD i 0]), .val (.int (innerN a (b.getD i 0) row ((i : Int) * 2) j).d), .val (.int (innerN a (b.getD i 0) row ((i : Int) * 2) j).mn), .un, .un, .un])
        (Itr.range (n := a.length) P.B.W (by decide +kernel) (P.B.at (by decide +kernel)) (by walk_at "go" <;> lia) rfl (by lia)) (GLe.refl _) ?_ (by simp [innerF])) ?_
    · intro j d hd
      obtain ⟨hj, rfl⟩ := R_get hd
      have hl : (innerN a (b.getD i 0) row ((i : Int) * 2) j).row.length = a.length := (innerN_length _ _ _ _ _).trans hrl
      have hsu := innerN_succ a (b.getD i 0) row ((i : Int) * 2) j
      generalize innerN a (b.getD i 0) row ((i : Int) * 2) j = t at hl hsu ⊢
      obtain ⟨td, tr, trow, tm⟩ := t
      dsimp only at hl ⊢
      generalize hbc : b.getD i 0 = bc at *
      have hbm : bc ∈ b := by rw [hbi]; exact List.getElem_mem _
      have haj : a.getD j 0 = a[j] := by simp [List.getD, hj]
      generalize hac : a.getD j 0 = ac at *
      have ham : ac ∈ a := by rw [haj]; exact List.getElem_mem _
      have hrow : trow.getD j 0 = trow[j]'(by lia) := by simp [List.getD, hl, hj]
      generalize hdd : trow.getD j 0 = dd at *
      refine ⟨_, Bnd.name (by walk_at "upd") (by decide +kernel), ?_⟩
      refine Ex.cons (Γ₁ := [.val (S a), .val (S b), .val (.int mx), .un, .un, .own (trow.map .int), .val (.int tr), .val (.int i), .val (S [bc]), .val (.int td), .val (.int tm), .val (.int j), .val (.int (td + subc bc ac)), .un])
        (E1.assign (Ev.bin (by walk_at "name") (Ev.call P 10 (by decide) (by decide +kernel) (by decide +kernel) (EvL.cons (by walk_at "name") (EvL.cons (Ev.cg (d' := S [ac]) (by walk_at "go" <;> first | lia | (rw [sidx_nat hj]; rfl)) (by rw [sidx_nat hj, ← hac]; rfl)) EvL.nil))
          (subst_cost P (d := subc bc ac) (la := [lw bc]) (lb := [lw ac]) (lb bc hbm) (la ac ham) (by simp) (by simp) (by simp [subc])) (by decide)) Op2.addI) (by walk_at "upd") (by decide +kernel)) ?_
      refine Ex.cons (Γ₁ := [.val (S a), .val (S b), .val (.int mx), .un, .un, .own (trow.map .int), .val (.int tr), .val (.int i), .val (S [bc]), .val (.int dd), .val (.int tm), .val (.int j), .val (.int (td + subc bc ac)), .un])
        (E1.assign (d := .int dd) (Ev.itemOwn (by walk_at "slt") (by decide) (by walk_at "name") (j := j) (by rw [sidx_nat (by simp; lia)]) (by rw [List.getElem?_map, List.getElem?_eq_getElem (by lia), hrow]; rfl) (by simp; lia)) (by walk_at "upd") (by decide +kernel)) ?_
      refine Ex.cons (Γ₁ := [.val (S a), .val (S b), .val (.int mx), .un, .un, .own (trow.map .int), .val (.int tr), .val (.int i), .val (S [bc]), .val (.int dd), .val (.int tm), .val (.int j), .val (.int (td + subc bc ac)), .val (.int (min tr dd + 2))])
        (E1.assign (by walk_at "go") (by walk_at "upd") (by decide +kernel)) ?_
      refine Ex.cons (Γ₁ := [.val (S a), .val (S b), .val (.int mx), .un, .un, .own (trow.map .int), .val (.int (min (min tr dd + 2) (td + subc bc ac))), .val (.int i), .val (S [bc]), .val (.int dd), .val (.int tm), .val (.int j), .val (.int (td + subc bc ac)), .val (.int (min tr dd + 2))])
        (E1.assign (by walk_at "go") (by walk_at "upd") (by decide +kernel)) ?_
      generalize hr' : min (min tr dd + 2) (td + subc bc ac) = r' at *
      refine Ex.cons (Γ₁ := [.val (S a), .val (S b), .val (.int mx), .un, .un, .own ((trow.map PyData.int).set (j : Int).toNat (.int r')), .val (.int r'), .val (.int i), .val (S [bc]), .val (.int dd), .val (.int tm), .val (.int j), .val (.int (td + subc bc ac)), .val (.int (min tr dd + 2))])
        (E1.setItem (d := .int r') (n := (j : Int)) (by walk_at "slt") (by decide) (by walk_at "name") rfl (by walk_at "name") (by lia) (by simp; lia) (by simp; lia) (by walk_at "upd")) ?_
      refine Ex.last (E1.ite (b := decide (r' < tm)) (by walk_at "go") (fun h => ?_) (fun h => ?_))
      · refine Ex.last ((E1.assign (by walk_at "go") (by walk_at "upd") (Γ' := [.val (S a), .val (S b), .val (.int mx), .un, .un, .own ((trow.map PyData.int).set (j : Int).toNat (.int r')), .val (.int r'), .val (.int i), .val (S [bc]), .val (.int dd), .val (.int r'), .val (.int j), .val (.int (td + subc bc ac)), .val (.int (min tr dd + 2))]) (by decide +kernel)).mono ?_)
        rintro o rfl
        refine .inl ⟨_, .inl rfl, ?_⟩
        rw [hsu]
        simp only [stepI, hdd, hac, hr', if_pos (of_decide_eq_true h), List.map_set, Int.toNat_natCast]
        exact .cons .same (.cons .same (.cons .same (.cons .same (.cons .same (.cons .same (.cons .same (.cons .same (.cons .same (.cons .same (.cons .same (.cons .un (.cons .un (.cons .un .nil)))))))))))))
      · refine Ex.nil (.inl ⟨_, .inl rfl, ?_⟩)
        rw [hsu]
        simp only [stepI, hdd, hac, hr', if_neg (of_decide_eq_false h), List.map_set, Int.toNat_natCast]
        exact .cons .same (.cons .same (.cons .same (.cons .same (.cons .same (.cons .same (.cons .same (.cons .same (.cons .same (.cons .same (.cons .same (.cons .un (.cons .un (.cons .un .nil)))))))))))))
    · generalize innerF a (b.getD i 0) row ((i : Int) * 2) = t at hfin ⊢
      refine Ex.last (E1.ite (b := decide (mx < t.mn)) (by walk_at "go") (fun h => ?_) (fun h => ?_))
      · have hno := outF_none (hfin.trans (if_pos (of_decide_eq_true h))) (show i + 1 ≤ b.length by lia)
        exact Ex.last (E1.ret (by walk_at "go") (.inr ⟨_, rfl, .inl ⟨hno, rfl⟩⟩))
      · rw [if_neg (of_decide_eq_false h)] at hfin
        refine Ex.nil (.inl ⟨_, .inl rfl, ?_, by rw [hfin]; rfl⟩)
        rw [hfin]
        simp only [Option.elim]
        exact .cons .same (.cons .same (.cons .same (.cons .same (.cons .same (.cons .same (.cons .same (.cons .un (.cons .un (.cons .un (.cons .un (.cons .same (.cons .same (.cons .same .nil)))))))))))))
  · intro h
    rw [show (R b.length).length = b.length by simp] at h ⊢
    obtain ⟨s, hs⟩ := Option.isSome_iff_exists.mp h
    exact .inr ⟨s, hs, by rw [hs]; rfl⟩
  · rintro Γ' (⟨_, h⟩ | ⟨s, hs, h⟩)
    · cases h
    cases h
    exact Ex.last (E1.ret (by walk_at "go") (by unfold levM; rw [hs]; rfl))
  · rintro o (⟨h, rfl⟩ | ⟨s, hs, rfl⟩) hn
    · unfold levM; rw [h]; rfl
    · exact absurd rfl (hn _)
end

-- text W5
section


def lcp : List Nat → List Nat → Nat
  | x :: a, y :: b => if x = y then lcp a b + 1 else 0
  | _, _ => 0
theorem lcp_le : ∀ (a b : List Nat), lcp a b ≤ a.length ∧ lcp a b ≤ b.length
  | [], _ => by simp [lcp]
  | _ :: _, [] => by simp [lcp]
  | x :: a, y :: b => by
    have := lcp_le a b
    unfold lcp
    split <;> simp <;> lia
theorem lcp_lt : ∀ (a b : List Nat) (i : Nat), i < lcp a b → a.getD i 0 = b.getD i 0
  | [], _, i, h => by simp [lcp] at h
  | _ :: _, [], i, h => by simp [lcp] at h
  | x :: a, y :: b, i, h => by
    unfold lcp at h
    split at h
    · rename_i e
      cases i with
      | zero => simpa using e
      | succ i => simpa using lcp_lt a b i (by lia)
    · lia
theorem lcp_at : ∀ (a b : List Nat), lcp a b < a.length → lcp a b < b.length → a.getD (lcp a b) 0 ≠ b.getD (lcp a b) 0
  | [], _, h, _ => by simp at h
  | _ :: _, [], _, h => by simp at h
  | x :: a, y :: b, h1, h2 => by
    by_cases e : x = y
    · have hl : lcp (x :: a) (y :: b) = lcp a b + 1 := by simp [lcp, e]
      rw [hl] at h1 h2 ⊢
      simpa using lcp_at a b (by simpa using h1) (by simpa using h2)
    · have hl : lcp (x :: a) (y :: b) = 0 := by simp [lcp, e]
      rw [hl]; simpa using e

def cutEnd (a : List Nat) (q : Nat) : List Nat := a.take (a.length - q)
def levC (a b : List Nat) (mx : Int) : Int :=
  if a = [] ∨ b = [] then 2 * ((a.length : Int) + b.length) else
  if b.length < a.length then (if mx < ((a.length : Int) - b.length) * 2 then mx + 1 else levM b a mx)
  else (if mx < ((b.length : Int) - a.length) * 2 then mx + 1 else levM a b mx)
def levF (a b : List Nat) (mx : Int) : Int :=
  if a = b then 0 else levC (cutEnd (a.drop (lcp a b)) (lcp (a.drop (lcp a b)).reverse (b.drop (lcp a b)).reverse)) (cutEnd (b.drop (lcp a b)) (lcp (a.drop (lcp a b)).reverse (b.drop (lcp a b)).reverse)) mx

section
variable {C : Cx} {k : Nat} {sc : Scope} {nm : List Str} {Γ : List Slot}
theorem Ev.cutEnd {v : Expr} {ppos p1 p2 p3 p4 : Pos} {n1 : Nat} {x : Str} {y : List Nat} {i j : Nat} (h : Ev C k sc nm Γ v (S y)) (hs : Slt nm Γ x (.val (.int (-(i : Int)))) j) (hn : plainName x = true) (hy : y.length ≤ 1000) :
    Ev C k sc nm Γ (.Subscript v (.Slice none (some (.BoolOp .Or [.Name x ppos, .Constant .none n1 p1] p2)) none p3) p4) (S (Mine.cutEnd y i)) := by
  by_cases hi : i = 0
  · subst hi
    refine (Ev.sliceS h .no (.none (Ev.or2 (b := false) (Ev.name hs hn) (Tru.i) (by simp) (fun _ => Ev.cnone))) (by lia)).cg ?_
    unfold psl Mine.cutEnd
    simp
  · have hb : (-(i : Int) != 0) = true := by simp; lia
    refine (Ev.sliceS h .no (.int (i := -(i : Int)) (Ev.or2 (b := true) (Ev.name hs hn) (hb ▸ Tru.i) (fun _ => rfl) (by simp))) (by lia)).cg ?_
    unfold psl Mine.cutEnd
    simp only [Option.elim, clipAt_neg _ _ (show 1 ≤ i by lia), List.drop_zero, Nat.sub_zero]
end

abbrev levΓ (a b : List Nat) (mx : Int) (p q : Slot) : List Slot := [.val (S a), .val (S b), .val (.int mx), p, q, .un, .un, .un, .un, .un, .un, .un, .un, .un]

theorem cutEnd_sub {a : List Nat} {q c : Nat} (h : c ∈ cutEnd a q) : c ∈ a := List.mem_of_mem_take h

theorem lev_end {C : Cx} {n : Nat} (P : Pg C) {a b : List Nat} {mx : Int} {p q : Slot} (ha : a.length ≤ 40) (hb : b.length ≤ 40) (la : LowOk a) (lb : LowOk b) :
    Ex C (n + 1) (fnS (topS 11)) ["a", "b", "max_cost", "pre", "post", "row", "result", "bindex", "bchar", "distance", "minimum", "index", "substitute", "insert_delete"]
      [.val (S a), .val (S b), .val (.int mx), p, q, .un, .un, .un, .un, .un, .un, .un, .un, .un] ((fnB (topS 11)).drop 9) (fun o => o = .ret (.int (levC a b mx))) := by
  by_cases he : a = [] ∨ b = []
  · refine Ex.cons' (Φ₁ := fun o => o = .ret (.int (levC a b mx))) (E1.ite (b := true) (Tr.cg (Tr.or (AllT.or_cons (by walk_at "go" <;> lia) fun _ => AllT.or_cons (by walk_at "go" <;> lia) fun _ => AllT.or_nil)) ?_) (fun _ => Ex.last (E1.ret (by walk_at "go" <;> first | lia | decide) ?_)) (by simp)) (by intro _ h; cases h) (fun o h _ => h)
    · rcases he with rfl | rfl <;> simp
    · unfold levC; rw [if_pos he]
  · have ha0 : a ≠ [] := fun h => he (.inl h)
    have hb0 : b ≠ [] := fun h => he (.inr h)
    have hC : levC a b mx = if b.length < a.length then (if mx < ((a.length : Int) - b.length) * 2 then mx + 1 else levM b a mx) else (if mx < ((b.length : Int) - a.length) * 2 then mx + 1 else levM a b mx) := by unfold levC; rw [if_neg he]
    refine Ex.cons (E1.ite (b := false) (Tr.cg (Tr.or (AllT.or_cons (by walk_at "go" <;> lia) fun _ => AllT.or_cons (by walk_at "go" <;> lia) fun _ => AllT.or_nil)) (by simp [ha0, hb0])) (by simp) (fun _ => Ex.nil')) ?_
    refine Ex.cons (E1.ite (b := false) (Tr.cg (Tr.or (AllT.or_cons (by walk_at "go" <;> lia) fun _ => AllT.or_cons (by walk_at "go" <;> lia) fun _ => AllT.or_nil)) (by simp; lia)) (by simp) (fun _ => Ex.nil')) ?_
    by_cases hlt : b.length < a.length
    · rw [if_pos hlt] at hC
      refine Ex.cons (Γ₁ := [.val (S b), .val (S a), .val (.int mx), p, q, .un, .un, .un, .un, .un, .un, .un, .un, .un]) (E1.ite (b := true) (Tr.cg (by walk_at "go" <;> lia) (by simp; lia)) (fun _ => Ex.last (E1.assignSw (names := ["a", "b"]) (ds := [S b, S a]) (by walk_at "go") rfl
        (show Sto C _ _ _ ["b", "a"] [S a, S b] _ from Sto.cons (Γ₁ := [.val (S a), .val (S a), .val (.int mx), p, q, .un, .un, .un, .un, .un, .un, .un, .un, .un]) (by walk_at "upd") (by decide +kernel) (Sto.cons (by walk_at "upd") (by decide +kernel) Sto.nil)) ?_)) (by simp)) ?_
      · intro e he
        unfold swappedStores
        simp only [Env.blockKind, Env.kindOf, he]
        rfl
      by_cases hmx : mx < ((a.length : Int) - b.length) * 2
      · rw [if_pos hmx] at hC
        refine Ex.cons' (Φ₁ := fun o => o = .ret (.int (levC a b mx))) (E1.ite (b := true) (Tr.cg (by walk_at "go" <;> lia) (decide_eq_true hmx)) (fun _ => Ex.last (E1.ret (by walk_at "go") (by rw [hC]))) (by simp)) (by intro _ h; cases h) (fun o h _ => h)
      · rw [if_neg hmx] at hC
        refine Ex.cons (E1.ite (b := false) (Tr.cg (by walk_at "go" <;> lia) (decide_eq_false hmx)) (by simp) (fun _ => Ex.nil')) ?_
        rw [hC]
        exact lev_main P (by lia) (by lia) lb la
    · rw [if_neg hlt] at hC
      refine Ex.cons (E1.ite (b := false) (Tr.cg (by walk_at "go" <;> lia) (by simp; lia)) (by simp) (fun _ => Ex.nil')) ?_
      by_cases hmx : mx < ((b.length : Int) - a.length) * 2
      · rw [if_pos hmx] at hC
        refine Ex.cons' (Φ₁ := fun o => o = .ret (.int (levC a b mx))) (E1.ite (b := true) (Tr.cg (by walk_at "go" <;> lia) (decide_eq_true hmx)) (fun _ => Ex.last (E1.ret (by walk_at "go") (by rw [hC]))) (by simp)) (by intro _ h; cases h) (fun o h _ => h)
      · rw [if_neg hmx] at hC
        refine Ex.cons (E1.ite (b := false) (Tr.cg (by walk_at "go" <;> lia) (decide_eq_false hmx)) (by simp) (fun _ => Ex.nil')) ?_
        rw [hC]
        exact lev_main P (by lia) (by lia) la lb
end

-- text W6
section


theorem rev_getD {a : List Nat} {i : Nat} (h : i < a.length) : a.reverse.getD i 0 = a.getD (a.length - 1 - i) 0 := by
  simp only [List.getD, List.getElem?_reverse h]

theorem drop_nil_iff {a : List Nat} {i : Nat} : (a.drop i).isEmpty = decide (a.length ≤ i) := by
  rw [Bool.eq_iff_iff]; simp
theorem cutEnd_nil_iff {a : List Nat} {i : Nat} : (cutEnd a i).isEmpty = decide (a.length ≤ i) := by
  unfold cutEnd
  rw [Bool.eq_iff_iff]
  simp only [List.isEmpty_iff, decide_eq_true_eq, List.take_eq_nil_iff]
  constructor
  · rintro (h | h)
    · lia
    · subst h; simp
  · intro h; left; lia

theorem levenshtein {C : Cx} {n : Nat} (P : Pg C) {a b : List Nat} {mx : Int} (ha : a.length ≤ 40) (hb : b.length ≤ 40) (la : LowOk a) (lb : LowOk b) : FnD C (n + 2) 11 [S a, S b, .int mx] (.int (levF a b mx)) := by
  refine FnD.of (pn := ["a", "b", "max_cost"]) P ["a", "b", "max_cost", "pre", "post", "row", "result", "bindex", "bchar", "distance", "minimum", "index", "substitute", "insert_delete"] ?_ ?_ rfl ⟨_, rfl⟩ (by decide) (by decide +kernel)
  · show Ex C (n + 1) _ _ [.val (S a), .val (S b), .val (.int mx), .un, .un, .un, .un, .un, .un, .un, .un, .un, .un, .un] _ _
    by_cases hab : a = b
    · refine Ex.cons' (Φ₁ := fun o => o = .ret (.int (levF a b mx))) (E1.ite (b := true) (Tr.cg (by walk_at "go") (by simpa using hab)) (fun _ => Ex.last (E1.ret (by walk_at "go") (by unfold levF; rw [if_pos hab]))) (by simp)) (by intro _ h; cases h) (fun o h _ => h)
    refine Ex.cons (E1.ite (b := false) (Tr.cg (by walk_at "go") (by simpa using hab)) (by simp) (fun _ => Ex.nil')) ?_
    refine Ex.cons (Γ₁ := [.val (S a), .val (S b), .val (.int mx), .val (.int 0), .un, .un, .un, .un, .un, .un, .un, .un, .un, .un]) (E1.assign (by walk_at "go") (by walk_at "upd") (by decide +kernel)) ?_
    have hle := lcp_le a b
    refine Ex.cons (Γ₁ := [.val (S a), .val (S b), .val (.int mx), .val (.int (lcp a b : Nat)), .un, .un, .un, .un, .un, .un, .un, .un, .un, .un])
      (E1.while_ (fun i => [.val (S a), .val (S b), .val (.int mx), .val (.int (i : Nat)), .un, .un, .un, .un, .un, .un, .un, .un, .un, .un]) (lcp a b) (GLe.refl _) (fun i hi => ⟨?_, ?_⟩) ?_ rfl) ?_
    · have h3 := lcp_lt a b i hi
      refine Tr.cg (Tr.and (AllT.and_cons (Tr.val (Ev.fromS (by walk_at "name") (by walk_at "name") (by lia) (by lia)) (Tru.s (by simp; lia))) fun h1 => AllT.and_cons (Tr.val (Ev.fromS (by walk_at "name") (by walk_at "name") (by lia) (by lia)) (Tru.s (by simp; lia))) fun h2 =>
        AllT.and_cons (by walk_at "go" <;> first | lia | (rw [sidx_nat (by lia)]; rfl)) fun _ => AllT.and_nil)) ?_
      rw [sidx_nat (show i < a.length by lia), sidx_nat (show i < b.length by lia)]
      simp only [Option.getD_some, Int.toNat_natCast, drop_nil_iff, h3]
      simp; lia
    · refine Ex.last ((E1.aug (by walk_at "slt") (by decide) (by walk_at "go") Op2.iaddI (Γ' := [.val (S a), .val (S b), .val (.int mx), .val (.int ((i : Int) + 1)), .un, .un, .un, .un, .un, .un, .un, .un, .un, .un]) (by walk_at "upd") (by decide +kernel)).mono ?_)
      rintro o rfl
      exact ⟨_, rfl, GLe.refl _⟩
    · by_cases h1 : lcp a b < a.length
      · by_cases h2 : lcp a b < b.length
        · have h3 := lcp_at a b h1 h2
          refine Tr.cg (Tr.and (AllT.and_cons (Tr.val (Ev.fromS (by walk_at "name") (by walk_at "name") (by lia) (by lia)) (Tru.s (by simp; lia))) fun _ => AllT.and_cons (Tr.val (Ev.fromS (by walk_at "name") (by walk_at "name") (by lia) (by lia)) (Tru.s (by simp; lia))) fun _ =>
            AllT.and_cons (by walk_at "go" <;> first | lia | (rw [sidx_nat (by lia)]; rfl)) fun _ => AllT.and_nil)) ?_
          rw [sidx_nat h1, sidx_nat h2]
          simp only [Option.getD_some]
          have h3' : ([a.getD (lcp a b) 0] == [b.getD (lcp a b) 0]) = false := by simpa using h3
          rw [h3']; simp
        · refine Tr.cg (Tr.and (AllT.and_cons (Tr.val (Ev.fromS (by walk_at "name") (by walk_at "name") (by lia) (by lia)) (Tru.s (by simp; lia))) fun _ => AllT.and_cons (c := true) (Tr.val (Ev.fromS (by walk_at "name") (by walk_at "name") (by lia) (by lia)) (Tru.s (by simp; lia))) fun h => ?_)) ?_
          · simp only [Int.toNat_natCast, drop_nil_iff] at h; simp at h; lia
          · simp only [Int.toNat_natCast, drop_nil_iff]; simp; lia
      · refine Tr.cg (Tr.and (AllT.and_cons (c := true) (Tr.val (Ev.fromS (by walk_at "name") (by walk_at "name") (by lia) (by lia)) (Tru.s (by simp; lia))) fun h => ?_)) ?_
        · simp only [Int.toNat_natCast, drop_nil_iff] at h; simp at h; lia
        · simp only [Int.toNat_natCast, drop_nil_iff]; simp; lia
    have hF : levF a b mx = levC (cutEnd (a.drop (lcp a b)) (lcp (a.drop (lcp a b)).reverse (b.drop (lcp a b)).reverse)) (cutEnd (b.drop (lcp a b)) (lcp (a.drop (lcp a b)).reverse (b.drop (lcp a b)).reverse)) mx := by unfold levF; rw [if_neg hab]
    refine Ex.cons (Γ₁ := [.val (S (a.drop (lcp a b))), .val (S b), .val (.int mx), .val (.int (lcp a b : Nat)), .un, .un, .un, .un, .un, .un, .un, .un, .un, .un]) (E1.assign (d := S (a.drop (lcp a b))) (Ev.cg (by walk_at "go" <;> lia) (by rw [Int.toNat_natCast])) (by walk_at "upd") (by decide +kernel)) ?_
    refine Ex.cons (Γ₁ := [.val (S (a.drop (lcp a b))), .val (S (b.drop (lcp a b))), .val (.int mx), .val (.int (lcp a b : Nat)), .un, .un, .un, .un, .un, .un, .un, .un, .un, .un]) (E1.assign (d := S (b.drop (lcp a b))) (Ev.cg (by walk_at "go" <;> lia) (by rw [Int.toNat_natCast])) (by walk_at "upd") (by decide +kernel)) ?_
    have la' : LowOk (a.drop (lcp a b)) := fun c h => la c (List.mem_of_mem_drop h)
    have lb' : LowOk (b.drop (lcp a b)) := fun c h => lb c (List.mem_of_mem_drop h)
    have ha' : (a.drop (lcp a b)).length ≤ 40 := by simp; lia
    have hb' : (b.drop (lcp a b)).length ≤ 40 := by simp; lia
    generalize a.drop (lcp a b) = x at *
    generalize b.drop (lcp a b) = y at *
    generalize ((lcp a b : Nat) : Int) = p
    rw [hF]
    clear hF hle la lb ha hb hab
    refine Ex.cons (Γ₁ := [.val (S x), .val (S y), .val (.int mx), .val (.int p), .val (.int 0), .un, .un, .un, .un, .un, .un, .un, .un, .un]) (E1.assign (by walk_at "go") (by walk_at "upd") (by decide +kernel)) ?_
    have hle := lcp_le x.reverse y.reverse
    rw [List.length_reverse, List.length_reverse] at hle
    refine Ex.cons (Γ₁ := [.val (S x), .val (S y), .val (.int mx), .val (.int p), .val (.int (-(lcp x.reverse y.reverse : Nat))), .un, .un, .un, .un, .un, .un, .un, .un, .un])
      (E1.while_ (fun i => [.val (S x), .val (S y), .val (.int mx), .val (.int p), .val (.int (-(i : Nat))), .un, .un, .un, .un, .un, .un, .un, .un, .un]) (lcp x.reverse y.reverse) (GLe.refl _) (fun i hi => ⟨?_, ?_⟩) ?_ rfl) ?_
    · have h3 := lcp_lt x.reverse y.reverse i hi
      rw [rev_getD (by lia), rev_getD (by lia)] at h3
      refine Tr.cg (Tr.and (AllT.and_cons (Tr.val (Ev.cutEnd (by walk_at "name") (by walk_at "slt") (by decide) (by lia)) (Tru.s (by simp [cutEnd]; lia))) fun h1 => AllT.and_cons (Tr.val (Ev.cutEnd (by walk_at "name") (by walk_at "slt") (by decide) (by lia)) (Tru.s (by simp [cutEnd]; lia))) fun h2 =>
        AllT.and_cons (by walk_at "go" <;> first | lia | (rw [sidx_neg (by lia) (by lia)]; rfl)) fun _ => AllT.and_nil)) ?_
      rw [sidx_neg (n := x.length) (by lia) (by lia), sidx_neg (n := y.length) (by lia) (by lia)]
      simp only [Option.getD_some, cutEnd_nil_iff]
      rw [show (-(i : Int) - 1 + (x.length : Int)).toNat = x.length - 1 - i by lia, show (-(i : Int) - 1 + (y.length : Int)).toNat = y.length - 1 - i by lia, h3]
      simp; lia
    · refine Ex.last ((E1.aug (by walk_at "slt") (by decide) (by walk_at "go") Op2.isubI (Γ' := [.val (S x), .val (S y), .val (.int mx), .val (.int p), .val (.int (-(i : Int) - 1)), .un, .un, .un, .un, .un, .un, .un, .un, .un]) (by walk_at "upd") (by decide +kernel)).mono ?_)
      rintro o rfl
      refine ⟨_, rfl, ?_⟩
      rw [show (-(i : Int) - 1) = -((i + 1 : Nat) : Int) by lia]
      exact GLe.refl _
    · generalize hq : lcp x.reverse y.reverse = q at hle
      by_cases h1 : q < x.length
      · by_cases h2 : q < y.length
        · have h3 := lcp_at x.reverse y.reverse (by rw [hq, List.length_reverse]; exact h1) (by rw [hq, List.length_reverse]; exact h2)
          rw [hq, rev_getD (by lia), rev_getD (by lia)] at h3
          refine Tr.cg (Tr.and (AllT.and_cons (Tr.val (Ev.cutEnd (by walk_at "name") (by walk_at "slt") (by decide) (by lia)) (Tru.s (by simp [cutEnd]; lia))) fun _ => AllT.and_cons (Tr.val (Ev.cutEnd (by walk_at "name") (by walk_at "slt") (by decide) (by lia)) (Tru.s (by simp [cutEnd]; lia))) fun _ =>
            AllT.and_cons (by walk_at "go" <;> first | lia | (rw [sidx_neg (by lia) (by lia)]; rfl)) fun _ => AllT.and_nil)) ?_
          rw [sidx_neg (n := x.length) (by lia) (by lia), sidx_neg (n := y.length) (by lia) (by lia)]
          simp only [Option.getD_some]
          rw [show (-(q : Int) - 1 + (x.length : Int)).toNat = x.length - 1 - q by lia, show (-(q : Int) - 1 + (y.length : Int)).toNat = y.length - 1 - q by lia]
          have h3' : ([x.getD (x.length - 1 - q) 0] == [y.getD (y.length - 1 - q) 0]) = false := by simpa using h3
          rw [h3']; simp
        · refine Tr.cg (Tr.and (AllT.and_cons (Tr.val (Ev.cutEnd (by walk_at "name") (by walk_at "slt") (by decide) (by lia)) (Tru.s (by simp [cutEnd]; lia))) fun _ => AllT.and_cons (c := true) (Tr.val (Ev.cutEnd (by walk_at "name") (by walk_at "slt") (by decide) (by lia)) (Tru.s (by simp [cutEnd]; lia))) fun h => ?_)) ?_
          · simp only [cutEnd_nil_iff] at h; simp at h; lia
          · simp only [cutEnd_nil_iff]; simp; lia
      · refine Tr.cg (Tr.and (AllT.and_cons (c := true) (Tr.val (Ev.cutEnd (by walk_at "name") (by walk_at "slt") (by decide) (by lia)) (Tru.s (by simp [cutEnd]; lia))) fun h => ?_)) ?_
        · simp only [cutEnd_nil_iff] at h; simp at h; lia
        · simp only [cutEnd_nil_iff]; simp; lia
    generalize lcp x.reverse y.reverse = q at hle ⊢
    refine Ex.cons (Γ₁ := [.val (S (cutEnd x q)), .val (S y), .val (.int mx), .val (.int p), .val (.int (-(q : Nat))), .un, .un, .un, .un, .un, .un, .un, .un, .un]) (E1.assign (Ev.cutEnd (by walk_at "name") (by walk_at "slt") (by decide) (by lia)) (by walk_at "upd") (by decide +kernel)) ?_
    refine Ex.cons (Γ₁ := [.val (S (cutEnd x q)), .val (S (cutEnd y q)), .val (.int mx), .val (.int p), .val (.int (-(q : Nat))), .un, .un, .un, .un, .un, .un, .un, .un, .un]) (E1.assign (Ev.cutEnd (by walk_at "name") (by walk_at "slt") (by decide) (by lia)) (by walk_at "upd") (by decide +kernel)) ?_
    exact lev_end P (by simp [cutEnd]; lia) (by simp [cutEnd]; lia) (fun c h => la' c (cutEnd_sub h)) (fun c h => lb' c (cutEnd_sub h))
  · intro pm cd doc vs hv
    match vs, hv with
    | [v1, v2, v3], _ => rfl
end

-- text W7
section


structure Twice (cut : List Int) (k : Int) (i j : Nat) : Prop where
  ij : i < j
  jn : j < cut.length
  ei : cut[i]? = some k
  ej : cut[j]? = some k
  no : ∀ t, t ≠ i → t ≠ j → cut[t]? ≠ some k

theorem Twice.idx {C : Cx} {k : Nat} {sc : Scope} {nm : List Str} {Γ : List Slot} {o a : Expr} {apos pos : Pos} {cut : List Int} {v : Int} {i j : Nat} (T : Twice cut v i j) (h₀ : Ev C k sc nm Γ o (L cut)) (h₁ : Ev C k sc nm Γ a (.int v)) (hsz : cut.length ≤ 1000)
    (hbase : ∀ e, attributeBase o "index" e (eval o e) = eval o e := by intro _; rfl) (he : ∀ e, starEach [a] e = (false, eval a e) :: starEach [] e := by intro _; rfl) (hline : (apos.endLine == pos.line) = true := by rfl)
    (hfew : ∀ e, ((backTo pos (starEach [a] e)).all (fun x => !x.1) && (backToKw pos (keywordEach [] e)).all (fun x => x.1.isSome)
      && decide ([a].length + ([] : List Keyword).length + (if ([] : List Keyword).isEmpty then 0 else 1) < 30)) = true := by intro _; rfl)
    (hp : ∀ e, (backTo pos (starEach [a] e)).any (·.1) = false := by intro _; rfl) :
    Ev C k sc nm Γ (.Call (.Attribute o "index" apos) [a] [] pos) (.int i) :=
  Ev.m_index h₀ h₁ (Nat.lt_trans T.ij T.jn) (by have := List.getElem?_eq_some_iff.mp T.ei; exact this.2) (fun t ht => T.no t (by lia) (by have := T.ij; lia)) (by lia) hbase he hline hfew hp

theorem Twice.second {C : Cx} {n : Nat} (P : Pg C) {cut : List Int} {v : Int} {i j : Nat} (T : Twice cut v i j) (hsz : cut.length ≤ 1000) : FnD C (n + 1) 15 [L cut, .int v] (.int j) := by
  have h1 := T.ij; have h2 := T.jn
  obtain ⟨h3, h4⟩ := List.getElem?_eq_some_iff.mp T.ei
  obtain ⟨h5, h6⟩ := List.getElem?_eq_some_iff.mp T.ej
  have := law_second (n := n) P (cut := cut) (c := v) (i := i) (j := j - (i + 1)) h3 h4 (fun t ht => T.no t (by lia) (by lia)) (by simp; lia)
    (by rw [List.getElem_drop]; have : i + 1 + (j - (i + 1)) = j := by lia
        simp only [this]; exact h6) (fun t ht => by rw [List.getElem?_drop]; exact T.no _ (by lia) (by lia)) hsz
  rw [show i + 1 + (j - (i + 1)) = j by lia] at this
  exact this

def pyI (n : Nat) (p : Int) : Nat := (seqIndex? p n).getD 0
def ringStep (ring : List Int) (p q : Int) : List Int := ring.map fun r => if r = ring.getD (pyI ring.length p) 0 then ring.getD (pyI ring.length q) 0 else r
def joinsF (w : Int) (i j : Nat) : List (Int × Int) := if w = 2 then [((i : Int) - 1, (j : Int) - 1), (i, j)] else [((i : Int) - 1, j), ((j : Int) - 1, i)]
def ringK (ring : List Int) (js : List (Int × Int)) : List Int := js.foldl (fun r x => ringStep r x.1 x.2) ring
theorem ringStep_length (ring : List Int) (p q : Int) : (ringStep ring p q).length = ring.length := by simp [ringStep]
theorem ringK_length (js : List (Int × Int)) : ∀ (ring : List Int), (ringK ring js).length = ring.length := by
  unfold ringK
  induction js with
  | nil => intro ring; rfl
  | cons x js ih => intro ring; rw [List.foldl_cons, ih, ringStep_length]

/-- a comprehension's element, of an int -/
def gI (f : Int → Int) : PyData → Option PyData
  | .int r => some (.int (f r))
  | _ => none
def gF (p : Int → Bool) : PyData → Option PyData
  | .int r => if p r then some (.int r) else none
  | _ => none
theorem fm_I (f : Int → Int) (ns : List Int) : (ns.map PyData.int).filterMap (gI f) = (ns.map f).map PyData.int := by
  induction ns with
  | nil => rfl
  | cons a l ih => simp [gI, ih]
theorem fm_F (p : Int → Bool) (ns : List Int) : (ns.map PyData.int).filterMap (gF p) = (ns.filter p).map PyData.int := by
  induction ns with
  | nil => rfl
  | cons a l ih => by_cases h : p a = true <;> simp [gF, ih, h]

theorem mem_map_int {ns : List Int} {i : Nat} {d : PyData} (h : (ns.map PyData.int)[i]? = some d) : ∃ r, ns[i]? = some r ∧ d = .int r := by
  rw [List.getElem?_map] at h
  obtain ⟨r, h1, h2⟩ := Option.map_eq_some_iff.mp h
  exact ⟨r, h1, h2.symm⟩
theorem R_map (n : Nat) : R n = ((List.range n).map Int.ofNat).map PyData.int := by rw [List.map_map]; rfl

abbrev parNm : List Str := ["cut", "live", "ways", "ring", "k", "i", "j", "joins", "p", "q", "old", "new", "names", "found", "lot", "shade", "choice", "n"]

/-- a slice of the law: the rings -/
theorem par_join {C : Cx} {n : Nat} (P : Pg C) {cut live ways ring : List Int} {kk : Int} {i j : Nat} {js : List (Int × Int)} (hr : ring.length = cut.length) (hc : cut.length ≤ 1000)
    (hjs : ∀ x ∈ js, (seqIndex? x.1 cut.length).isSome = true ∧ (seqIndex? x.2 cut.length).isSome = true) {st : Stmt} (hst : ∃ ss, fnB (topS 16) = ss ∧ ∃ s1, ss[1]? = some s1 ∧ ∃ t it bd o p, s1 = .For t it bd o p ∧ bd[3]? = some st) :
    E1 C n (fnS (topS 16)) ["cut", "live", "ways", "ring", "k", "i", "j", "joins", "p", "q", "old", "new", "names", "found", "lot", "shade", "choice", "n"]
      [.val (L cut), .val (L live), .val (L ways), .val (L ring), .val (.int kk), .val (.int i), .val (.int j), .val (.list (js.map fun x => .tuple [.int x.1, .int x.2])), .un, .un, .un, .un, .un, .un, .un, .un, .un, .un] st
      (Nx [.val (L cut), .val (L live), .val (L ways), .val (L (ringK ring js)), .val (.int kk), .val (.int i), .val (.int j), .val (.list (js.map fun x => .tuple [.int x.1, .int x.2])), .un, .un, .un, .un, .un, .un, .un, .un, .un, .un]) := by
  obtain ⟨ss, rfl, s1, h1, t, it, bd, o, p, h2, h3⟩ := hst
  cases h1
  cases h2
  cases h3
  refine E1.for_ (fun m => [.val (L cut), .val (L live), .val (L ways), .val (L (ringK ring (js.take m))), .val (.int kk), .val (.int i), .val (.int j), .val (.list (js.map fun x => .tuple [.int x.1, .int x.2])), .un, .un, .un, .un, .un, .un, .un, .un, .un, .un])
    (Itr.list (by walk_at "name")) (GLe.refl _) ?_ (by simp)
  intro m d hd
  rw [List.getElem?_map] at hd
  obtain ⟨⟨a, b⟩, hx, rfl⟩ := Option.map_eq_some_iff.mp hd
  have hlt : m < js.length := (List.getElem?_eq_some_iff.mp hx).1
  have hxe : js[m] = (a, b) := (List.getElem?_eq_some_iff.mp hx).2
  obtain ⟨ha, hb⟩ := hjs (a, b) (List.mem_of_getElem? hx)
  have hrl : (ringK ring (js.take m)).length = cut.length := (ringK_length _ _).trans hr
  have hnext : ringK ring (js.take (m + 1)) = ringStep (ringK ring (js.take m)) a b := by
    rw [List.take_add_one, hx]; unfold ringK; rw [Option.toList_some, List.foldl_append]; rfl
  generalize hrg : ringK ring (js.take m) = rg at *
  have ha' : (seqIndex? a rg.length).isSome = true := by rw [hrl]; exact ha
  have hb' : (seqIndex? b rg.length).isSome = true := by rw [hrl]; exact hb
  refine ⟨_, Bnd.tup (BndL.cons (Γ₁ := [.val (L cut), .val (L live), .val (L ways), .val (L rg), .val (.int kk), .val (.int i), .val (.int j), .val (.list (js.map fun x => .tuple [.int x.1, .int x.2])), .val (.int a), .un, .un, .un, .un, .un, .un, .un, .un, .un])
    (Bnd.name (by walk_at "upd") (by decide +kernel)) (BndL.cons (Γ₁ := [.val (L cut), .val (L live), .val (L ways), .val (L rg), .val (.int kk), .val (.int i), .val (.int j), .val (.list (js.map fun x => .tuple [.int x.1, .int x.2])), .val (.int a), .val (.int b), .un, .un, .un, .un, .un, .un, .un, .un]) (Bnd.name (by walk_at "upd") (by decide +kernel)) BndL.nil)), ?_⟩
  generalize hold : rg.getD (pyI rg.length a) 0 = old
  generalize hnew : rg.getD (pyI rg.length b) 0 = new
  refine Ex.cons (Γ₁ := [.val (L cut), .val (L live), .val (L ways), .val (L rg), .val (.int kk), .val (.int i), .val (.int j), .val (.list (js.map fun x => .tuple [.int x.1, .int x.2])), .val (.int a), .val (.int b), .val (.int old), .val (.int new), .un, .un, .un, .un, .un, .un])
    (E1.assignT (d := .tuple [.int old, .int new]) (Ev.cg (by walk_at "go" <;> first | assumption | lia) (by rw [← hold, ← hnew]; rfl)) (Bnd.tup (BndL.cons (Γ₁ := [.val (L cut), .val (L live), .val (L ways), .val (L rg), .val (.int kk), .val (.int i), .val (.int j), .val (.list (js.map fun x => .tuple [.int x.1, .int x.2])), .val (.int a), .val (.int b), .val (.int old), .un, .un, .un, .un, .un, .un, .un])
      (Bnd.name (by walk_at "upd") (by decide +kernel)) (BndL.cons (Bnd.name (by walk_at "upd") (by decide +kernel)) BndL.nil))) (by intro e he; rfl) ?_) ?_
  · intro e he
    unfold swappedStores
    simp only [Env.blockKind, Env.kindOf, he]
    rfl
  refine Ex.last ((E1.assign (d := L (ringStep rg a b)) (Ev.cg (Ev.ofF (EvF.comp (ds := rg.map PyData.int) (ns := ["new", "old"]) (Γc := [.val (.int new), .val (.int old)]) (gI fun r => if r = old then new else r) (Itr.list (by walk_at "name"))
    (.cons (by walk_at "slt") (by decide +kernel) (.cons (by walk_at "slt") (by decide +kernel) .nil)) ?_ (by simp; lia) (by decide +kernel) (by decide))) ?_) (Γ' := [.val (L cut), .val (L live), .val (L ways), .val (L (ringStep rg a b)), .val (.int kk), .val (.int i), .val (.int j), .val (.list (js.map fun x => .tuple [.int x.1, .int x.2])), .val (.int a), .val (.int b), .val (.int old), .val (.int new), .un, .un, .un, .un, .un, .un]) (by walk_at "upd") (by decide +kernel) ?_).mono ?_)
  · intro t d hd
    obtain ⟨r, hr, rfl⟩ := mem_map_int hd
    refine ⟨Tst.nil, fun y hy => ?_⟩
    cases hy
    refine ⟨Ev.ifexp (b := r == old) (by walk_at "go") (fun h => ?_) (fun h => ?_), rfl⟩
    · dsimp only; rw [if_pos (by simpa using h)]; walk_at "name"
    · dsimp only; rw [if_neg (by simpa using h)]; walk_at "name"
  · rw [fm_I, ringStep, hold, hnew]
  · intro e he
    unfold swapsWith
    simp only [Env.blockKind, Env.kindOf, he]
    exact congrArg pure (by decide +kernel)
  · rintro o rfl
    refine .inl ⟨_, .inl rfl, ?_⟩
    rw [hnext]
    exact .cons .same (.cons .same (.cons .same (.cons .same (.cons .same (.cons .same (.cons .same (.cons .same (.cons .un (.cons .un (.cons .un (.cons .un (.cons .un (.cons .un (.cons .un (.cons .un (.cons .un (.cons .un .nil)))))))))))))))))
end

-- text W8
section


def ringsN (ways : Int → Int) (I J : Int → Nat) (live : List Int) (ring : List Int) : List Int := live.foldl (fun r k => ringK r (joinsF (ways k) (I k) (J k))) ring
theorem ringsN_length (ways : Int → Int) (I J : Int → Nat) : ∀ (live : List Int) (ring : List Int), (ringsN ways I J live ring).length = ring.length := by
  unfold ringsN
  intro live
  induction live with
  | nil => intro ring; rfl
  | cons k r ih => intro ring; rw [List.foldl_cons, ih, ringK_length]
def arcs (n : Nat) : List Int := (List.range n).map Int.ofNat
def namesF (n : Nat) (ring : List Int) : List Int := (arcs n).filter fun r => ring.any (· == r)
def shadeV (names : List Int) (lot : Nat) (r : Int) : Int := ((2 * (lot : Int)).fdiv (2 ^ (names.idxOf r))) % 2
def shadeF (names : List Int) (ring : List Int) (lot : Nat) : List Int := ring.map (shadeV names lot)
def choiceN (I : Int → Nat) (shade live : List Int) : Nat → Int
  | 0 => 0
  | n + 1 => choiceN I shade live n + if shade.getD (pyI shade.length ((I (live.getD n 0) : Int) - 1)) 0 = shade.getD (I (live.getD n 0)) 0 then 0 else 2 ^ n
def foundF (cut live : List Int) (ways : Int → Int) (I J : Int → Nat) : List Int :=
  let ring := ringsN ways I J live (arcs cut.length)
  let names := namesF cut.length ring
  (List.range (2 ^ (names.length - 1))).map fun lot => choiceN I (shadeF names ring lot) live live.length

theorem sidx_ok {n : Nat} {x : Int} (h1 : -(n : Int) ≤ x) (h2 : x < n) : (seqIndex? x n).isSome = true := by
  by_cases h : x < 0
  · rw [sidx_neg h (by lia)]; rfl
  · have : x = (x.toNat : Int) := by lia
    rw [this, sidx_nat (by lia)]; rfl

abbrev parΓ (cut live ways : List Int) (ring k i j joins p q old new names found lot shade choice n : Slot) : List Slot :=
  [.val (L cut), .val (L live), .val (L ways), ring, k, i, j, joins, p, q, old, new, names, found, lot, shade, choice, n]

theorem index_at {C : Cx} {k : Nat} {sc : Scope} {nm : List Str} {Γ : List Slot} {o a : Expr} {apos pos : Pos} {ns : List Int} {v : Int} (hm : v ∈ ns) (h₀ : Ev C k sc nm Γ o (L ns)) (h₁ : Ev C k sc nm Γ a (.int v)) (hsz : ns.length ≤ 1000)
    (hbase : ∀ e, attributeBase o "index" e (eval o e) = eval o e := by intro _; rfl) (he : ∀ e, starEach [a] e = (false, eval a e) :: starEach [] e := by intro _; rfl) (hline : (apos.endLine == pos.line) = true := by rfl)
    (hfew : ∀ e, ((backTo pos (starEach [a] e)).all (fun x => !x.1) && (backToKw pos (keywordEach [] e)).all (fun x => x.1.isSome)
      && decide ([a].length + ([] : List Keyword).length + (if ([] : List Keyword).isEmpty then 0 else 1) < 30)) = true := by intro _; rfl)
    (hp : ∀ e, (backTo pos (starEach [a] e)).any (·.1) = false := by intro _; rfl) :
    Ev C k sc nm Γ (.Call (.Attribute o "index" apos) [a] [] pos) (.int (ns.idxOf v : Nat)) := by
  have hlt : ns.idxOf v < ns.length := List.idxOf_lt_length_iff.mpr hm
  refine Ev.m_index h₀ h₁ hlt (by simp) (fun i hi => ?_) (by lia) hbase he hline hfew hp
  intro hc
  obtain ⟨h1, h2⟩ := List.getElem?_eq_some_iff.mp hc
  have := List.not_of_lt_findIdx (p := (· == v)) (xs := ns) (i := i) hi
  simp [h2] at this

theorem law_partings {C : Cx} {n : Nat} (P : Pg C) {cut live ways ys : List Int} {I J : Int → Nat} {wf : Int → Int} (hc : cut.length ≤ 40) (hl : live.length ≤ 10) (hw4 : ways.length ≤ 10) (hT : ∀ k ∈ live, Twice cut k (I k) (J k))
    (hwk : ∀ k ∈ live, (seqIndex? k ways.length).isSome = true ∧ ways.getD ((seqIndex? k ways.length).getD 0) 0 = wf k)
    (hring : ∀ r ∈ ringsN wf I J live (arcs cut.length), r ∈ arcs cut.length)
    (hN : (namesF cut.length (ringsN wf I J live (arcs cut.length))).length ≤ 6)
    (hp : ys.Perm (foundF cut live wf I J)) (hs : ys.Pairwise (· ≤ ·)) : FnD C (n + 2) 16 [L cut, L live, L ways] (L ys) := by
  refine FnD.of (pn := ["cut", "live", "ways"]) P ["cut", "live", "ways", "ring", "k", "i", "j", "joins", "p", "q", "old", "new", "names", "found", "lot", "shade", "choice", "n"] ?_ ?_ rfl ⟨_, rfl⟩ (by decide) (by decide +kernel)
  · show Ex C (n + 1) _ _ [.val (L cut), .val (L live), .val (L ways), .un, .un, .un, .un, .un, .un, .un, .un, .un, .un, .un, .un, .un, .un, .un] _ _
    refine Ex.cons (Γ₁ := [.val (L cut), .val (L live), .val (L ways), .val (L (arcs cut.length)), .un, .un, .un, .un, .un, .un, .un, .un, .un, .un, .un, .un, .un, .un]) (E1.assign (d := L (arcs cut.length)) (Ev.cg (Ev.ofF (EvF.listOf (a := 0) (c := 1) (b := cut.length) (n := cut.length) P.B (by decide +kernel)
      (fun A e N S s a E o => wp_keep (EvR.mk' (i := (cut.length : Int)) P.B.W (by decide +kernel) (P.B.at (by decide +kernel)) (Ev.cg (by walk_at "go" <;> (simp; lia)) (by simp)) (by intro _; rfl) (by intro _; rfl) A e N S s a E o) fun v s' ⟨r, t, u, w, h1, h2, h3, h4⟩ => ⟨r, t, u, w, h1, h3, h4⟩) (range_big (by lia) (by lia)) (by rw [rangeSize_one]; split <;> lia) (by lia))) ?_) (by walk_at "upd") (by decide +kernel) ?_) ?_
    · unfold arcs L
      rw [List.map_map]
      congr 1
      apply List.map_congr_left
      intro a _
      simp
    · intro e he; rfl
    refine Ex.cons (Γ₁ := [.val (L cut), .val (L live), .val (L ways), .val (L (ringsN wf I J live (arcs cut.length))), .un, .un, .un, .un, .un, .un, .un, .un, .un, .un, .un, .un, .un, .un])
      (E1.for_ (fun m => [.val (L cut), .val (L live), .val (L ways), .val (L (ringsN wf I J (live.take m) (arcs cut.length))), .un, .un, .un, .un, .un, .un, .un, .un, .un, .un, .un, .un, .un, .un]) (Itr.list (by walk_at "name")) (GLe.refl _) ?_ (by simp)) ?_
    · intro m d hd
      obtain ⟨kk, hk, rfl⟩ := mem_map_int hd
      have hkm : kk ∈ live := List.mem_of_getElem? hk
      have T := hT kk hkm
      obtain ⟨hw1, hw2⟩ := hwk kk hkm
      have hij := T.ij
      have hjn := T.jn
      have hnext : ringsN wf I J (live.take (m + 1)) (arcs cut.length) = ringK (ringsN wf I J (live.take m) (arcs cut.length)) (joinsF (wf kk) (I kk) (J kk)) := by
        unfold ringsN; rw [List.take_add_one, hk, Option.toList_some, List.foldl_append]; rfl
      have hrl : (ringsN wf I J (live.take m) (arcs cut.length)).length = cut.length := (ringsN_length _ _ _ _ _).trans (by simp [arcs])
      generalize ringsN wf I J (live.take m) (arcs cut.length) = rg at *
      generalize I kk = i at *
      generalize J kk = j at *
      refine ⟨_, Bnd.name (by walk_at "upd") (by decide +kernel), ?_⟩
      refine Ex.cons (Γ₁ := [.val (L cut), .val (L live), .val (L ways), .val (L rg), .val (.int kk), .val (.int i), .val (.int j), .un, .un, .un, .un, .un, .un, .un, .un, .un, .un, .un])
        (E1.assignSw (names := ["i", "j"]) (ds := [.int i, .int j]) (Ev.tuple (EvL.cons (T.idx (by walk_at "name") (by walk_at "name") (by lia)) (EvL.cons (Ev.call P 15 (by decide) (by decide +kernel) (by decide +kernel) (EvL.cons (by walk_at "name") (EvL.cons (by walk_at "name") EvL.nil)) (T.second P (by lia)) (by decide)) EvL.nil)) (by simp)) rfl
          (show Sto C _ _ _ ["j", "i"] [.int j, .int i] _ from Sto.cons (Γ₁ := [.val (L cut), .val (L live), .val (L ways), .val (L rg), .val (.int kk), .un, .val (.int j), .un, .un, .un, .un, .un, .un, .un, .un, .un, .un, .un]) (by walk_at "upd") (by decide +kernel) (Sto.cons (by walk_at "upd") (by decide +kernel) Sto.nil)) ?_) ?_
      · intro e he
        unfold swappedStores
        simp only [Env.blockKind, Env.kindOf, he]
        rfl
      refine Ex.cons (Γ₁ := [.val (L cut), .val (L live), .val (L ways), .val (L rg), .val (.int kk), .val (.int i), .val (.int j), .val (.list [.tuple [.int ((i : Int) - 1), .int j], .tuple [.int ((j : Int) - 1), .int i]]), .un, .un, .un, .un, .un, .un, .un, .un, .un, .un])
        (E1.assign (by walk_at "go" <;> simp) (by walk_at "upd") (by decide +kernel)) ?_
      have hfin : ∀ (Φ : Out → Prop) (o : Out), o = Out.next [.val (L cut), .val (L live), .val (L ways), .val (L (ringK rg (joinsF (wf kk) i j))), .val (.int kk), .val (.int i), .val (.int j), .val (.list ((joinsF (wf kk) i j).map fun x => .tuple [.int x.1, .int x.2])), .un, .un, .un, .un, .un, .un, .un, .un, .un, .un] →
          (∃ Γ', (o = .next Γ' ∨ o = .cont Γ') ∧ GLe Γ' [.val (L cut), .val (L live), .val (L ways), .val (L (ringsN wf I J (live.take (m + 1)) (arcs cut.length))), .un, .un, .un, .un, .un, .un, .un, .un, .un, .un, .un, .un, .un, .un]) ∨ (∃ r, o = .ret r ∧ Φ (.ret r)) := by
        rintro Φ o rfl
        refine .inl ⟨_, .inl rfl, ?_⟩
        rw [hnext]
        exact .cons .same (.cons .same (.cons .same (.cons .same (.cons .un (.cons .un (.cons .un (.cons .un (.cons .un (.cons .un (.cons .un (.cons .un (.cons .un (.cons .un (.cons .un (.cons .un (.cons .un (.cons .un .nil)))))))))))))))))
      refine Ex.cons (Γ₁ := [.val (L cut), .val (L live), .val (L ways), .val (L rg), .val (.int kk), .val (.int i), .val (.int j), .val (.list ((joinsF (wf kk) i j).map fun x => .tuple [.int x.1, .int x.2])), .un, .un, .un, .un, .un, .un, .un, .un, .un, .un])
        (E1.ite (b := wf kk == 2) (Tr.cg (Tr.cmp (Ev.item (by walk_at "name") (by walk_at "name") (Itm.listL hw1 (by lia))) Ev.cint Op2.eqI) (by rw [hw2])) (fun h => ?_) (fun h => ?_)) ?_
      · have : wf kk = 2 := by simpa using h
        unfold joinsF
        rw [if_pos this]
        exact Ex.last (E1.assign (d := .list ([((i : Int) - 1, (j : Int) - 1), ((i : Int), (j : Int))].map fun x => .tuple [.int x.1, .int x.2])) (Ev.cg (by walk_at "go" <;> simp) (by rfl)) (by walk_at "upd") (by decide +kernel))
      · have : wf kk ≠ 2 := by simpa using h
        unfold joinsF
        rw [if_neg this]
        exact Ex.nil'
      refine Ex.last ((par_join P hrl (by lia) ?_ ⟨_, rfl, _, rfl, _, _, _, _, _, rfl, rfl⟩).mono (hfin _))
      intro x hx
      unfold joinsF at hx
      split at hx
      · simp only [List.mem_cons, List.mem_nil_iff, or_false] at hx
        rcases hx with rfl | rfl
        · exact ⟨sidx_ok (by simp only; lia) (by simp only; lia), sidx_ok (by simp only; lia) (by simp only; lia)⟩
        · exact ⟨sidx_ok (by simp only; lia) (by simp only; lia), sidx_ok (by simp only; lia) (by simp only; lia)⟩
      · simp only [List.mem_cons, List.mem_nil_iff, or_false] at hx
        rcases hx with rfl | rfl
        · exact ⟨sidx_ok (by simp only; lia) (by simp only; lia), sidx_ok (by simp only; lia) (by simp only; lia)⟩
        · exact ⟨sidx_ok (by simp only; lia) (by simp only; lia), sidx_ok (by simp only; lia) (by simp only; lia)⟩
    have hrl : (ringsN wf I J live (arcs cut.length)).length = cut.length := (ringsN_length _ _ _ _ _).trans (by simp [arcs])
    unfold foundF at hp
    dsimp only at hp
    generalize ringsN wf I J live (arcs cut.length) = rg at *
    have hnm : ∀ r ∈ rg, r ∈ namesF cut.length rg := fun r hr => by
      unfold namesF
      rw [List.mem_filter]
      exact ⟨hring r hr, by rw [List.any_eq_true]; exact ⟨r, hr, by simp⟩⟩
    refine Ex.cons (Γ₁ := [.val (L cut), .val (L live), .val (L ways), .val (L rg), .un, .un, .un, .un, .un, .un, .un, .un, .val (L (namesF cut.length rg)), .un, .un, .un, .un, .un])
      (E1.assign (d := L (namesF cut.length rg)) (Ev.cg (Ev.ofF (EvF.comp (ds := R cut.length) (ns := ["ring"]) (Γc := [.val (L rg)]) (gF fun r => rg.any (· == r)) (Itr.range (n := cut.length) (i := (cut.length : Int)) P.B.W (by decide +kernel) (P.B.at (by decide +kernel)) (Ev.cg (by walk_at "go" <;> (simp; lia)) (by simp)) rfl (by lia))
        (.cons (by walk_at "slt") (by decide +kernel) .nil) ?_ (by simp; lia) (by decide +kernel) (by decide))) ?_) (by walk_at "upd") (by decide +kernel) ?_) ?_
    · intro t d hd
      rw [R_map] at hd
      obtain ⟨r, hr, rfl⟩ := mem_map_int hd
      refine ⟨?_, fun y hy => ?_⟩
      · have : (gF (fun r => rg.any (· == r)) (.int r)).isSome = rg.any (· == r) := by
          unfold gF
          cases h : rg.any (· == r) <;> simp [h]
        rw [this]
        exact Tst.one (by walk_at "go")
      · change (if (rg.any (· == r)) = true then some (PyData.int r) else none) = some y at hy
        by_cases hq : (rg.any (· == r)) = true
        · rw [if_pos hq] at hy
          cases hy; exact ⟨by walk_at "name", rfl⟩
        · rw [if_neg hq] at hy; cases hy
    · rw [R_map, fm_F]; rfl
    · intro e he
      unfold swapsWith
      simp only [Env.blockKind, Env.kindOf, he]
      exact congrArg pure (by decide +kernel)
    generalize hnam : namesF cut.length rg = names at *
    refine Ex.cons (Γ₁ := [.val (L cut), .val (L live), .val (L ways), .val (L rg), .un, .un, .un, .un, .un, .un, .un, .un, .val (L names), .own [], .un, .un, .un, .un]) (E1.assignOwn EvF.nil (by walk_at "upd") (by decide +kernel)) ?_
    refine Ex.cons (Γ₁ := [.val (L cut), .val (L live), .val (L ways), .val (L rg), .un, .un, .un, .un, .un, .un, .un, .un, .val (L names), .own (((List.range (2 ^ (names.length - 1))).map fun lot => choiceN I (shadeF names rg lot) live live.length).map .int), .un, .un, .un, .un])
      (E1.for_ (fun m => [.val (L cut), .val (L live), .val (L ways), .val (L rg), .un, .un, .un, .un, .un, .un, .un, .un, .val (L names), .own (((List.range m).map fun lot => choiceN I (shadeF names rg lot) live live.length).map .int), .un, .un, .un, .un])
        (Itr.range (n := 2 ^ (names.length - 1)) (i := 2 ^ (max (0 : Int) ((names.length : Int) - 1)).toNat) P.B.W (by decide +kernel) (P.B.at (by decide +kernel)) (Ev.cg (Ev.bin Ev.cint (Ev.f_max (i := 0) (j := (names.length : Int) - 1) P.B (by decide +kernel) Ev.cint (Ev.cg (by walk_at "go" <;> (simp; lia)) (by simp))) (Op2.powI (by decide) (by lia) (by lia))) rfl) ?_ ?_) (GLe.refl _) ?_ (by simp)) ?_
    · have : (max (0 : Int) ((names.length : Int) - 1)).toNat = names.length - 1 := by lia
      rw [this]; norm_cast
    · have : 2 ^ (names.length - 1) ≤ 2 ^ 5 := Nat.pow_le_pow_right (by decide) (by lia)
      have h2 : (2 : Nat) ^ 5 < 2 ^ 40 := by decide
      lia
    · intro lot d hd
      obtain ⟨hlot, rfl⟩ := R_get hd
      have hlb : 2 ^ (names.length - 1) ≤ 32 := Nat.pow_le_pow_right (n := 2) (by decide) (show names.length - 1 ≤ 5 by lia)
      refine ⟨_, Bnd.name (by walk_at "upd") (by decide +kernel), ?_⟩
      generalize hfd : ((List.range lot).map fun lot => choiceN I (shadeF names rg lot) live live.length).map PyData.int = fd
      have hfdl : fd.length ≤ 32 := by rw [← hfd]; simp; lia
      refine Ex.cons (Γ₁ := [.val (L cut), .val (L live), .val (L ways), .val (L rg), .un, .un, .un, .un, .un, .un, .un, .un, .val (L names), .own fd, .val (.int lot), .val (L (shadeF names rg lot)), .un, .un])
        (E1.assignComp (ds := rg.map PyData.int) (ns := ["lot", "names"]) (Γc := [.val (.int lot), .val (L names)]) (Γ' := [.val (L cut), .val (L live), .val (L ways), .val (L rg), .un, .un, .un, .un, .un, .un, .un, .un, .val (L names), .own fd, .val (.int lot), .val (L (shadeF names rg lot)), .un, .un]) (gI (shadeV names lot)) (Itr.list (by walk_at "name")) (.cons (by walk_at "slt") (by decide +kernel) (.cons (by walk_at "slt") (by decide +kernel) .nil)) ?_ (by simp; lia) (by rw [fm_I]; show Upd _ _ _ (.val (L (shadeF names rg lot))) _ _; walk_at "upd") (by decide +kernel) (by decide +kernel) (by decide) ?_) ?_
      · intro t d hd
        obtain ⟨r, hr, rfl⟩ := mem_map_int hd
        refine ⟨Tst.nil, fun y hy => ?_⟩
        cases hy
        refine ⟨Ev.cg (Ev.bin (Ev.bin (by walk_at "go" <;> lia) (index_at (ns := names) (hnm r (List.mem_of_getElem? hr)) (by walk_at "name") (by walk_at "name") (by lia)) (Op2.shrI (by lia))) Ev.cint Op2.andI) ?_, rfl⟩
        unfold shadeV
        rw [bitAnd_m1, Int.toNat_natCast]
      · intro e he
        unfold swapsWith
        simp only [Env.blockKind, Env.kindOf, he]
        exact congrArg pure (by decide +kernel)
      have hshl : (shadeF names rg lot).length = cut.length := by simp [shadeF, hrl]
      generalize hsh : shadeF names rg lot = shade at *
      refine Ex.cons (Γ₁ := [.val (L cut), .val (L live), .val (L ways), .val (L rg), .un, .un, .un, .un, .un, .un, .un, .un, .val (L names), .own fd, .val (.int lot), .val (L shade), .val (.int 0), .un]) (E1.assign (by walk_at "go") (by walk_at "upd") (by decide +kernel)) ?_
      refine Ex.cons (Γ₁ := [.val (L cut), .val (L live), .val (L ways), .val (L rg), .un, .un, .un, .un, .un, .un, .un, .un, .val (L names), .own fd, .val (.int lot), .val (L shade), .val (.int (choiceN I shade live live.length)), .un])
        (E1.for_ (fun m => [.val (L cut), .val (L live), .val (L ways), .val (L rg), .un, .un, .un, .un, .un, .un, .un, .un, .val (L names), .own fd, .val (.int lot), .val (L shade), .val (.int (choiceN I shade live m)), .un])
          (Itr.range (n := live.length) (i := (live.length : Int)) P.B.W (by decide +kernel) (P.B.at (by decide +kernel)) (Ev.cg (by walk_at "go" <;> (simp; lia)) (by simp)) rfl (by lia)) (GLe.refl _) ?_ (by simp)) ?_
      · intro m d hd
        obtain ⟨hm, rfl⟩ := R_get hd
        have hkm : live.getD m 0 ∈ live := by simp [List.getD, hm]
        have T := hT _ hkm
        have hij := T.ij
        have hjn := T.jn
        refine ⟨_, Bnd.name (by walk_at "upd") (by decide +kernel), ?_⟩
        refine Ex.cons (Γ₁ := [.val (L cut), .val (L live), .val (L ways), .val (L rg), .un, .val (.int (I (live.getD m 0))), .un, .un, .un, .un, .un, .un, .val (L names), .own fd, .val (.int lot), .val (L shade), .val (.int (choiceN I shade live m)), .val (.int m)])
          (E1.assign (T.idx (by walk_at "name") (Ev.cg (Ev.item (by walk_at "name") (by walk_at "name") (Itm.listL (by rw [sidx_nat hm]; rfl) (by lia))) (by rw [sidx_nat hm]; rfl)) (by lia)) (by walk_at "upd") (by decide +kernel)) ?_
        have hchs : choiceN I shade live (m + 1) = choiceN I shade live m + if shade.getD (pyI shade.length ((I (live.getD m 0) : Int) - 1)) 0 = shade.getD (I (live.getD m 0)) 0 then 0 else 2 ^ m := rfl
        generalize I (live.getD m 0) = i at *
        have hs1 : (seqIndex? ((i : Int) - 1) shade.length).isSome = true := sidx_ok (by lia) (by lia)
        have hs2 : (seqIndex? (i : Int) shade.length).isSome = true := sidx_ok (by lia) (by lia)
        have hs3 : shade.getD ((seqIndex? (i : Int) shade.length).getD 0) 0 = shade.getD i 0 := by rw [sidx_nat (by lia)]; rfl
        refine Ex.last (E1.ite (b := shade.getD (pyI shade.length ((i : Int) - 1)) 0 != shade.getD i 0) (Tr.cg (by walk_at "go" <;> first | assumption | lia) (by rw [hs3]; rfl)) (fun h => ?_) (fun h => ?_))
        · have hne : ¬ shade.getD (pyI shade.length ((i : Int) - 1)) 0 = shade.getD i 0 := by simpa using h
          rw [if_neg hne] at hchs
          refine Ex.last ((E1.aug (d := .int (choiceN I shade live (m + 1))) (by walk_at "slt") (by decide) (d₁ := .int (2 ^ m)) (Ev.cg (by walk_at "go" <;> first | lia | decide) (by rw [Int.toNat_natCast])) (hchs ▸ Op2.iaddI) (Γ' := [.val (L cut), .val (L live), .val (L ways), .val (L rg), .un, .val (.int i), .un, .un, .un, .un, .un, .un, .val (L names), .own fd, .val (.int lot), .val (L shade), .val (.int (choiceN I shade live (m + 1))), .val (.int m)]) (by walk_at "upd") (by decide +kernel)).mono ?_)
          rintro o rfl
          refine .inl ⟨_, .inl rfl, ?_⟩
          exact .cons .same (.cons .same (.cons .same (.cons .same (.cons .same (.cons .un (.cons .same (.cons .same (.cons .same (.cons .same (.cons .same (.cons .same (.cons .same (.cons .same (.cons .same (.cons .same (.cons .same (.cons .un .nil)))))))))))))))))
        · have he : shade.getD (pyI shade.length ((i : Int) - 1)) 0 = shade.getD i 0 := by simpa using h
          rw [if_pos he] at hchs
          refine Ex.nil (.inl ⟨_, .inl rfl, ?_⟩)
          rw [hchs, Int.add_zero]
          exact .cons .same (.cons .same (.cons .same (.cons .same (.cons .same (.cons .un (.cons .same (.cons .same (.cons .same (.cons .same (.cons .same (.cons .same (.cons .same (.cons .same (.cons .same (.cons .same (.cons .same (.cons .un .nil)))))))))))))))))
      · refine Ex.last ((E1.append (by walk_at "slt") (by decide) (by walk_at "name") rfl (by lia) (Γ' := [.val (L cut), .val (L live), .val (L ways), .val (L rg), .un, .un, .un, .un, .un, .un, .un, .un, .val (L names), .own (fd ++ [.int (choiceN I shade live live.length)]), .val (.int lot), .val (L shade), .val (.int (choiceN I shade live live.length)), .un]) (by walk_at "upd")).mono ?_)
        rintro o rfl
        refine .inl ⟨_, .inl rfl, ?_⟩
        have : ((List.range (lot + 1)).map fun lot => choiceN I (shadeF names rg lot) live live.length).map PyData.int = fd ++ [.int (choiceN I shade live live.length)] := by
          rw [List.range_succ, List.map_append, List.map_append, hfd, ← hsh]; rfl
        rw [this]
        exact .cons .same (.cons .same (.cons .same (.cons .same (.cons .same (.cons .same (.cons .same (.cons .same (.cons .same (.cons .same (.cons .same (.cons .same (.cons .same (.cons .same (.cons .un (.cons .un (.cons .un (.cons .same .nil)))))))))))))))))
    refine ExS.freeze (by walk_at "slt") (by walk_at "upd") ?_
    refine Ex.last (E1.ret (Ev.f_sorted P.B (by decide +kernel) (by walk_at "name") hp hs ?_) rfl)
    have hlb : 2 ^ (names.length - 1) ≤ 32 := Nat.pow_le_pow_right (n := 2) (by decide) (show names.length - 1 ≤ 5 by lia)
    simp; lia
  · intro pm cd doc vs hv
    match vs, hv with
    | [v1, v2, v3], _ => rfl
end

-- text MGen
section

section
variable {prog : Program} {w : World} {A : Around} {R : GenEnd} {Y : Protocol} {n : Nat} {s₀ : Shared} {c : Code} {fs : List Frame} {s : Shared} {env : Env}
  {K : Flow → Sem Fin} {H : Value → Sem Fin} {gd : Bool → Bool} {lv : List Value → List Value}

theorem seg_stmt {st : Stmt} (h : wpAny (model prog w) (A.over c fs) (exec st env) (fun f s' => Seg (model prog w) A R Y n s₀ c (K f) fs s') F0 s) : Seg (model prog w) A R Y n s₀ c ((exec st env).wrap K H gd lv) fs s :=
  seg_wrap (wpAny_noRaise h)

theorem seg_If {test : Expr} {body orelse : List Stmt} {pos : Pos}
    (h : wpAny (model prog w) (A.over c fs) (isTrue test env (eval test env)) (fun b s' => if b = true then Seg (model prog w) A R Y n s₀ c ((execs body env).wrap K H gd lv) fs s' else Seg (model prog w) A R Y n s₀ c ((execs orelse env).wrap K H gd lv) fs s') F0 s) :
    Seg (model prog w) A R Y n s₀ c ((exec (.If test body orelse pos) env).wrap K H gd lv) fs s := by
  rw [exec_If]
  refine seg_bind_wrap (wpAny_standAt ?_)
  refine seg_bind_wrap (wpAny_noRaise (wpAny_mono h (fun b s' hb => ?_) fun _ _ x => x))
  cases b with
  | true => rw [if_pos rfl] at hb ⊢; exact hb
  | false => rw [if_neg Bool.false_ne_true] at hb ⊢; exact hb

theorem seg_For {t iter : Expr} {body orelse : List Stmt} {pos : Pos} (hs : ∀ x, foldedSetIterable iter env x = pure x)
    (h : wpAny (model prog w) (A.over c fs) (eval iter env) (fun x s₁ => wpAny (model prog w) (A.over c fs) (pyIter x) (fun it s₂ => ∀ p, Seg (model prog w) A R Y n s₀ (.forLoop t it body orelse env) ((model prog w).den (.forLoop t it body orelse env))
      (.ret (fun r => ((match r with | .ok f => (.pure f : Sem Flow) | .error e => .raise e).onRaise fun (x : Value) => do
        if (← field x 1) == Value.none then unsupported "frame.own-activation:exception-without-traceback"
        setFlight x env.frame).wrap K H gd lv) none (gd false) (lv []) c p [] :: fs) s₂) F0 s₁) F0 s) :
    Seg (model prog w) A R Y n s₀ c ((exec (.For t iter body orelse pos) env).wrap K H gd lv) fs s := by
  rw [exec_For]
  refine seg_bind_wrap (wpAny_standAt ?_)
  refine seg_bind_wrap (wpAny_noRaise (wpAny_mono h (fun x s₁ h₁ => ?_) fun _ _ x => x))
  refine seg_bind_wrap (wpAny_of_eq (hs x) ?_)
  refine seg_bind_wrap (wpAny_standAt ?_)
  refine seg_bind_wrap (wpAny_holding (wpAny_noRaise (wpAny_mono h₁ (fun it s₂ h₂ => ?_) fun _ _ x => x)))
  exact seg_call h₂

theorem seg_forLoop {t : Expr} {it : Value} {body : List Stmt}
    (h : wpAny (model prog w) (A.over (.forLoop t it body [] env) fs) (pyNext it) (fun r s' => match r with
      | none => Seg (model prog w) A R Y n s₀ (.block [] env) (.pure (.done .next)) fs s'
      | some v => wpAny (model prog w) (A.over (.forLoop t it body [] env) fs) (letOwnedTupleGo t it v) (fun _ s₂ => wpAny (model prog w) (A.over (.forLoop t it body [] env) fs) (assign t env v) (fun _ s₃ =>
          Seg (model prog w) A R Y n s₀ (.forLoop t it body [] env) ((execs body env).wrap (fun f => match f with
            | .next | .cont => .pure (.again (.forLoop t it body [] env))
            | .brk => .pure (.done .next)
            | .ret v => .pure (.done (.ret v))) (fun e => (do noteFrame e env; theTreesLotGoes e : Sem Unit).wrap (fun _ => .raise e) .raise id id) id id) fs s₃) F0 s₂) F0 s') F0 s) :
    Seg (model prog w) A R Y n s₀ (.forLoop t it body [] env) ((model prog w).den (.forLoop t it body [] env)) fs s := by
  show Seg _ A R Y n s₀ _ ((forTurn t it body [] env).onRaise (fun x => do noteFrame x env; theTreesLotGoes x)) fs s
  unfold forTurn
  rw [Sem.onRaise_eq_wrap]
  refine seg_bind_wrap (wpAny_standAt ?_)
  refine seg_bind_wrap (wpAny_onRaise (wpAny_noRaise (wpAny_mono h (fun r s' hr => ?_) fun _ _ x => x)))
  cases r with
  | none => exact seg_again rfl hr
  | some v =>
    refine seg_bind_wrap (wpAny_noRaise (wpAny_mono hr (fun _ s₂ h₂ => ?_) fun _ _ x => x))
    refine seg_bind_wrap (wpAny_noRaise (wpAny_mono h₂ (fun _ s₃ h₃ => ?_) fun _ _ x => x))
    rw [Sem.bind_eq_wrap', Sem.wrap_wrap]
    rw [Sem.wrap_congr (execs body env) _ _ (K' := fun f => match f with
            | .next | .cont => .pure (.again (.forLoop t it body [] env))
            | .brk => .pure (.done .next)
            | .ret v => .pure (.done (.ret v))) (H' := (fun e => (do noteFrame e env; theTreesLotGoes e : Sem Unit).wrap (fun _ => .raise e) .raise id id))
        (fun f => by cases f <;> rfl)
        (fun e => by first | exact Sem.bind_eq_wrap _ _ | (show (do noteFrame e env; theTreesLotGoes e : Sem Unit).bind (fun _ => .raise e) = _; rw [Sem.bind_eq_wrap]))]
    exact h₃
end
end

-- text MGen2
section


open Builtin Builtin.Str

def escL : Nat → Bool → List Nat → List (Nat × List Nat)
  | i, true, [] => [(i - 1, [92])]
  | _, false, [] => []
  | i, true, c :: r => (i, [92, c]) :: escL (i + 1) false r
  | i, false, c :: r => if c = 92 then escL (i + 1) true r else (i, [c]) :: escL (i + 1) false r
def escD (x : List Nat) : List PyData := (escL 0 false x).map fun p => .tuple [.int p.1, S p.2]

def gFor : Stmt := (fnB (topS 4)).getD 2 (.Pass ⟨0, 0, 0, 0⟩)
def gT : Expr := match gFor with | .For t _ _ _ _ => t | _ => .Constant .none 0 ⟨0, 0, 0, 0⟩
def gB : List Stmt := match gFor with | .For _ _ b _ _ => b | _ => []

abbrev gNm : List Str := ["addr", "pos", "escape", "ch"]
abbrev Tt : Addr → Prop := fun _ => True
abbrev Zz : Addr → Option Nat := fun _ => none

structure Cond (C : Cx) (wr : List Addr) (s s' : Shared) : Prop where
  keep : ∀ b ∈ wr, ∀ o, s.heap.get? b = some o → s'.heap.get? b = some o
  base : ∀ b o, C.hb.get? b = some o → s'.heap.get? b = some o
  bare : AllBare s'.gens

def RR (wr : List Addr) : GenEnd := fun n s₀ r s₁ => r = .ok (.ret .none) ∧ (n = 0 ∧ Nxt wr [] s₀ s₁)
def YY (C : Cx) (wr : List Addr) (ds : List PyData) : Protocol := fun m s₀ v s₁ kap =>
  (∃ d, ds[ds.length - (m + 1)]? = some d ∧ RepN (fun _ => False) s₁.heap d v) ∧ Nxt wr [] s₀ s₁ ∧ (∀ b ∈ wr, ∃ o, s₁.heap.get? b = some o ∧ ¬ ∃ vs n, o.data = .seq vs n) ∧ ∀ s'', Cond C wr s₁ s'' → kap (.send .none) s''

structure GI (C : Cx) (x : List Nat) (tk : Tok) (e : Env) (E it : Addr) (i : Nat) (b : Bool) (s : Shared) : Prop where
  ok : Ok C e gNm Tt [.val (S x), .val (.int ((i - 1 : Nat) : Int)), .val (.bool b), .un] Zz s
  en : ∃ old, IsEnum s.heap E it i old
  st : s.heap.IsStrIter it (strIterType (tx x)) (tx x) tk i

theorem Nxt.refl (wr : List Addr) (gs : List Nat) (s : Shared) : Nxt wr gs s s := ⟨fun _ _ q _ => q, rfl, fun _ _ q _ => q, fun q => q⟩
theorem Nxt.trans {wr : List Addr} {gs : List Nat} {a b c : Shared} (x : Nxt wr gs a b) (y : Nxt wr gs b c) : Nxt wr gs a c :=
  ⟨fun q o e m => y.heap q o (x.heap q o e m) m, y.os.trans x.os, fun i q e m => y.gens i q (x.gens i q e m) m, fun e => y.bare (x.bare e)⟩
theorem Nxt.of_kp {wr : List Addr} {gs : List Nat} {a b : Shared} (x : Kp a b) : Nxt wr gs a b := ⟨fun q o e _ => x.heap q o e, x.os, fun i q e _ => x.gens i q e, x.bare⟩

theorem draws_any {prog : Program} {w : World} {A : Around} (hh : A.handled = none) (it : Addr) (x : List Nat) (t : Tok) :
    Draws prog w A it [it] x.length (fun i v => ∃ c u, x[i]? = some c ∧ v = .str ⟨#[c]⟩ u) (fun i h => h.IsStrIter it (strIterType (tx x)) (tx x) t i) := by
  have e1 : (tx x).cps.size = x.length := by simp
  have e2 : (fun (i : Nat) v => ∃ c u, x[i]? = some c ∧ v = Value.str ⟨#[c]⟩ u) = fun i v => ∃ c u, (tx x).cps[i]? = some c ∧ v = Value.str ⟨#[c]⟩ u := by
    funext i v; simp
  rw [← e1, e2]
  unfold strIterType
  split
  · exact Draws.strAscii hh it (tx x) t
  · exact Draws.strWide hh it (tx x) t

section
variable {C : Cx} {x : List Nat} {tk : Tok} {e : Env} {E it : Addr}

/-- the generator's frame, when it is woken -/
theorem ok_resume {Γ : List Slot} {s s' : Shared} {wr : List Addr} (o : Ok C e gNm Tt Γ Zz s) (hL : e.locals ∈ wr) (c : Cond C wr s s') (hc : ∀ x c, e.cells.lookup x ≠ some c) (hf : ∀ (i : Nat) (sl : Slot), Γ[i]? = some sl → sl = Slot.un ∨ ∃ d, sl = Slot.val d ∧ isFlat d = true) :
    Ok C e gNm Tt Γ Zz s' := by
  refine ⟨c.base, fun _ _ => ⟨trivial, rfl⟩, fun _ q => absurd rfl q, c.bare, ?_, fun y a q => absurd q (hc y a), fun _ q => absurd rfl q, fun i y sl q r => ?_⟩
  · obtain ⟨m, ob, es, ep, h1, h2⟩ := o.ns; exact ⟨m, ob, es, ep, c.keep _ hL ob h1, h2⟩
  · have := o.slots i y sl q r
    rcases hf i sl r with rfl | ⟨d, rfl, hd⟩
    · trivial
    · obtain ⟨v, h1, h2⟩ := this
      refine ⟨v, ?_, h2.flat hd⟩
      rcases h1 with ⟨g1, m, ⟨ob, es, ep, h1, h2⟩, g3⟩ | ⟨_, a, g, _⟩
      · exact .inl ⟨g1, m, ⟨ob, es, ep, c.keep _ hL ob h1, h2⟩, g3⟩
      · exact absurd g (hc _ _)

theorem ok_live {Γ : List Slot} {s : Shared} (o : Ok C e gNm Tt Γ Zz s) : ∃ ob, s.heap.get? e.locals = some ob ∧ ¬ ∃ vs n, ob.data = .seq vs n := by
  obtain ⟨m, ob, es, ep, h1, h2, _⟩ := o.ns
  exact ⟨ob, h1, fun ⟨vs, n, d⟩ => by rw [h2] at d; cases d⟩

theorem mv_nxt {s s' : Shared} {S' : Addr → Option Nat} {Γ : List Slot} (m : Mv e Zz S' s s') (hc : ∀ x c, e.cells.lookup x ≠ some c) (o : Ok C e gNm Tt Γ S' s') : Nxt [e.locals, it, E] [] s s' :=
  ⟨fun b ob q h => m.heap b ob q (fun hb => h (by simp [hb])) (fun y hy => hc y b hy) rfl, m.os, fun i y q _ => m.gens i y q, fun _ => o.bare⟩

theorem rep_tup {N N' : Addr → Prop} {h : Heap} {ds : List PyData} {v : Value} (r : RepN N h (.tuple ds) v) (hf : ds.all isFlat = true) : RepN N' h (.tuple ds) v := by
  obtain ⟨a, vs, rfl, ht, rs⟩ := r.tuple_inv
  exact .tuple ht (rs.flat hf)
end
end

-- text MGen3
section


open Builtin Builtin.Str
section
variable {prog : Program} {w : World} {A : Around} {E' : Value → Shared → Prop} {s : Shared}
/-- the last next of an enumerate over an ASCII text: its iterator stays -/
theorem enum_end_live {en it : Addr} {x : Str} {t : Tok} {i : Nat} {j : Int} {old : Value} {Q : Option Value → Shared → Prop} (hh : A.handled = none) (he : IsEnum s.heap en it j old)
    (hit : s.heap.IsStrIter it "str_ascii_iterator" x t i) (hx : x.cps[i]? = none)
    (hQ : ∀ h', Heap.ExtBut it s.heap h' → (∃ o vs, h'.get? it = some o ∧ o.data = .fields vs) → Q none { s with heap := h' }) : wpAny (model prog w) A (pyNext (.ref en)) Q E' s := by
  have hT : s.TypeIs (.ref en) "enumerate" := ⟨_, he, rfl⟩
  unfold pyNext
  refine wpAny_bind (wpAny_attempt (wpAny_callSpecial?_slot (name := Str.ofString "__next__") hT F.slot_enumerate_next
    (wpAny_call_entry F.slot_enumerate_next hT F.entry_enumerate_next ?_ (F.args_enumerate_next_1 _))))
  show wpAny _ _ (field (.ref en) 2 >>= _) _ _ _
  refine wpAny_bind (wpAny_field he rfl (x := .ref it) rfl ?_)
  obtain ⟨o, ho, hc, hd⟩ := id hit
  refine wpAny_bind ?_
  unfold Builtin.SmallTypes.nextOf
  refine wpAny_bind (wpAny_callSpecial?_slot (name := Str.ofString "__next__") hit.typeIs F.slot_str_ascii_iterator_next
    (wpAny_call_entry F.slot_str_ascii_iterator_next hit.typeIs F.entry_str_ascii_iterator_next ?_ (F.args_str_ascii_iterator_next_1 _)))
  show wpAny _ _ (field (.ref it) 0 >>= _) _ _ s
  refine wpAny_bind (wpAny_field ho hd (x := .str x t) rfl ?_)
  show wpAny _ _ (field (.ref it) 1 >>= _) _ _ s
  refine wpAny_bind (wpAny_field ho hd (x := .int i 0) rfl ?_)
  simp only [Int.toNat_natCast, hx]
  refine wpAny_bind (wpAny_rule (wpAny_bind (wpAny_setField ho hd (by simp) (wpAny_bind (wpAny_letGo ?_)))))
  show wpAny _ _ (newExc (.type "StopIteration") [] >>= _) _ _ _
  refine wpAny_bind ?_
  simp only [newExc, newTuple]
  refine wpAny_bind (wpAny_newObj_type ?_ (by size_fits))
  refine wpAny_bind (m := firstArgMember _ _) (wpAny_of_eq (a := Value.none) (by first | rfl | (simp only [firstArgMember]; rfl)) ?_)
  refine wpAny_newObj_type ?_ (by size_fits)
  simp only [raiseNew]
  refine wpAny_bind (wpAny_handled ?_)
  first | rw [show A.in1.handled = none from hh] | rw [hh]
  refine wpAny_bind (wpAny_pure (wpAny_throw ?_))
  refine wpAny_bind (wpAny_isInstance (T := "StopIteration") (b := true) ⟨_, Heap.get?_push_size _ rfl, rfl⟩ isSubtype_stop ?_)
  refine wpAny_pure (hQ _ (((Heap.SameBut.update ..).extBut.push _).push _) ⟨_, _, Heap.get?_push_of_some _ (Heap.get?_push_of_some _ (Heap.get?_update_self _ ho (Obj.isFreed_of_fields (Obj.data_mapFields hd _)))), Obj.data_mapFields hd _⟩)
end

section
variable {C : Cx} {A : Around} {x : List Nat} {tk : Tok} {e : Env} {E it : Addr}

theorem fl3 {x : List Nat} {i : Int} {b : Bool} {sl' : Slot} (h : sl' = .un ∨ ∃ d, sl' = Slot.val d ∧ isFlat d = true) : ∀ (j : Nat) (sl : Slot), ([.val (S x), .val (.int i), .val (.bool b), sl'] : List Slot)[j]? = some sl → sl = Slot.un ∨ ∃ d, sl = Slot.val d ∧ isFlat d = true
  | 0, sl, h => by simp at h; exact .inr ⟨_, h.symm, rfl⟩
  | 1, sl, h => by simp at h; exact .inr ⟨_, h.symm, rfl⟩
  | 2, sl, h => by simp at h; exact .inr ⟨_, h.symm, rfl⟩
  | 3, sl, q => by simp at q; subst q; exact h
  | n + 4, sl, h => by simp at h

theorem ok_Z {Γ : List Slot} {S' : Addr → Option Nat} {s : Shared} (o : Ok C e gNm Tt Γ S' s) (hf : ∀ (i : Nat) (sl : Slot), Γ[i]? = some sl → sl = Slot.un ∨ ∃ d, sl = Slot.val d ∧ isFlat d = true) : Ok C e gNm Tt Γ Zz s := by
  refine ⟨o.base, fun _ _ => ⟨trivial, rfl⟩, fun _ q => absurd rfl q, o.bare, o.ns, o.cells, fun _ q => absurd rfl q, fun i y sl q r => ?_⟩
  have := o.slots i y sl q r
  rcases hf i sl r with rfl | ⟨d, rfl, hd⟩
  · trivial
  · obtain ⟨v, h1, h2⟩ := this
    exact ⟨v, h1, h2.flat hd⟩

/-- the end of the generator: a lone sign -/
theorem seg_tail (hA : ∀ c fs, (fs = [] ∧ c = Code.func (fnB (topS 4)) e) ∨ (∃ k p, c = Code.forLoop gT (.ref E) gB [] e ∧ fs = [Frame.ret k none false [] (.func (fnB (topS 4)) e) p []]) → AOk 0 (A.over c fs)) (hsc : EnvOk C (fnS (topS 4)) e gNm) (hc : ∀ x c, e.cells.lookup x ≠ some c)
    {i : Nat} {b : Bool} {s₀ s : Shared} {pre : List (Nat × List Nat)} (hi : i = x.length) (hpre : escL 0 false x = pre ++ escL i b []) (hs : Ok C e gNm Tt [.val (S x), .val (.int ((i - 1 : Nat) : Int)), .val (.bool b), .un] Zz s) (hx : Nxt [e.locals, it, E] [] s₀ s) (hlE : ∃ o, s.heap.get? E = some o ∧ ¬ ∃ vs n, o.data = .seq vs n) (hlI : ∃ o, s.heap.get? it = some o ∧ ¬ ∃ vs n, o.data = .seq vs n) :
    Seg (model C.prog C.w) A (RR [e.locals, it, E]) (YY C [e.locals, it, E] (escD x)) (escL i b []).length s₀ (.func (fnB (topS 4)) e) ((execs ((fnB (topS 4)).drop 3) e).wrap (fun f => .pure (.done (.ret (match f with | .ret v => v | _ => .none))))
      (fun e' => (leaving e e').wrap (fun _ => .raise e') .raise id id) id id) [] s := by
  have a1 : AOk 0 (A.over (.func (fnB (topS 4)) e) []) := hA _ _ (.inl ⟨rfl, rfl⟩)
  refine seg_execs_cons ?_
  refine seg_If ?_
  refine wpAny_mono ((Tr.val (C := C) (k := 0) (sc := fnS (topS 4)) (nm := gNm) (Γ := [.val (S x), .val (.int ((i - 1 : Nat) : Int)), .val (.bool b), .un]) (b := b) (by walk_at "name") Tru.b).run _ _ _ _ _ a1 hsc hs) (fun r s₁ h₁ => ?_) fun _ _ x => x
  obtain ⟨rfl, k₁⟩ := h₁
  cases r with
  | false =>
    rw [if_neg (by simp)]
    exact seg_end (.ok (.ret .none)) ⟨rfl, rfl, hx.trans (.of_kp k₁)⟩
  | true =>
    rw [if_pos rfl]
    refine seg_execs_cons ?_
    have hsc2 : e.scope = fnS (topS 4) := hsc.scope
    refine seg_Expr_Yield (n := 0) rfl rfl rfl ?_ (by rw [hsc2]; rfl) (by unfold interactive; rw [hsc2]; rfl)
    refine wpAny_noRaise (wp_keep ((Ev.tuple (C := C) (k := 0) (sc := fnS (topS 4)) (nm := gNm) (Γ := [.val (S x), .val (.int ((i - 1 : Nat) : Int)), .val (.bool true), .un]) (ds := [.int ((i - 1 : Nat) : Int), S (cp "\\")]) (by walk_at "go") (by simp)).run _ _ _ _ _ a1 hsc (hs.kp k₁)) fun v s₂ h₂ => ?_)
    obtain ⟨r₂, k₂⟩ := h₂
    intro kap hk
    have k12 := k₁.trans k₂
    refine ⟨⟨.tuple [.int ((i - 1 : Nat) : Int), S [92]], ?_, ?_⟩, hx.trans (.of_kp k12), ?_, fun s'' c => hk .none s'' ?_⟩
    · unfold escD
      rw [hpre, List.length_map, List.length_append, List.map_append]
      show _ = some _
      rw [show pre.length + (escL i true []).length - (0 + 1) = pre.length by simp [escL], List.getElem?_append_right (by simp)]
      simp [escL]
    · have hcp : cp (Str.ofString "\\") = [92] := by decide +kernel
      rw [hcp] at r₂; exact rep_tup r₂ rfl
    · intro b hb
      simp only [List.mem_cons, List.mem_nil_iff, or_false] at hb
      rcases hb with rfl | rfl | rfl
      · obtain ⟨o, h1, h2⟩ := ok_live hs; exact ⟨o, k12.heap _ _ h1, h2⟩
      · obtain ⟨o, h1, h2⟩ := hlI; exact ⟨o, k12.heap _ _ h1, h2⟩
      · obtain ⟨o, h1, h2⟩ := hlE; exact ⟨o, k12.heap _ _ h1, h2⟩
    · exact seg_end (.ok (.ret .none)) ⟨rfl, rfl, .refl _ _ _⟩

theorem seg_loop (has : strIterType (tx x) = "str_ascii_iterator") (hA : ∀ c fs, (fs = [] ∧ c = Code.func (fnB (topS 4)) e) ∨ (∃ k p, c = Code.forLoop gT (.ref E) gB [] e ∧ fs = [Frame.ret k none false [] (.func (fnB (topS 4)) e) p []]) → AOk 0 (A.over c fs)) (hsc : EnvOk C (fnS (topS 4)) e gNm) (hc : ∀ x c, e.cells.lookup x ≠ some c)
    (hEi : E ≠ it) (hEL : e.locals ≠ E) (hIL : e.locals ≠ it) (hbE : C.hb.get? E = none) (hbI : C.hb.get? it = none) {kont : Result → Sem PySem.Fin} {p : Pos}
    (hk : ∀ n s₀ s, Seg (model C.prog C.w) A (RR [e.locals, it, E]) (YY C [e.locals, it, E] (escD x)) n s₀ (.func (fnB (topS 4)) e) ((execs ((fnB (topS 4)).drop 3) e).wrap (fun f => .pure (.done (.ret (match f with | .ret v => v | _ => .none))))
      (fun e' => (leaving e e').wrap (fun _ => .raise e') .raise id id) id id) [] s → Seg (model C.prog C.w) A (RR [e.locals, it, E]) (YY C [e.locals, it, E] (escD x)) n s₀ (.func (fnB (topS 4)) e) (kont (.ok .next)) [] s) :
    ∀ (r : List Nat) (i : Nat) (b : Bool) (pre : List (Nat × List Nat)) (s₀ s : Shared), x.drop i = r → i ≤ x.length → escL 0 false x = pre ++ escL i b r → GI C x tk e E it i b s → Nxt [e.locals, it, E] [] s₀ s →
      Seg (model C.prog C.w) A (RR [e.locals, it, E]) (YY C [e.locals, it, E] (escD x)) (escL i b r).length s₀ (.forLoop gT (.ref E) gB [] e) ((model C.prog C.w).den (.forLoop gT (.ref E) gB [] e)) [Frame.ret kont none false [] (.func (fnB (topS 4)) e) p []] s := by
  have a2 : AOk 0 (A.over (.forLoop gT (.ref E) gB [] e) [Frame.ret kont none false [] (.func (fnB (topS 4)) e) p []]) := hA _ _ (.inr ⟨_, _, rfl, rfl⟩)
  generalize hA2 : A.over (.forLoop gT (.ref E) gB [] e) [Frame.ret kont none false [] (.func (fnB (topS 4)) e) p []] = A2 at *
  have W := WalksT.enumerateD (prog := C.prog) (w := C.w) (A := A2) (draws_any (prog := C.prog) (w := C.w) (A := A2.in1) (show A2.in1.handled = none from a2.hd) it x tk) E hEi (by simp [hEi]) (by simp)
  have hsc2 : e.scope = fnS (topS 4) := hsc.scope
  have hwr : ∀ b, b ∉ [E, it] → b ∉ [it, E] := fun b h m => h (by simp at m ⊢; exact m.symm)
  intro r
  induction r with
  | nil =>
    intro i b pre s₀ s hr hi hpre hs hx
    have hin : i = x.length := by have := congrArg List.length hr; simp at this; lia
    refine seg_forLoop ?_
    rw [hA2]
    obtain ⟨old, hen⟩ := hs.en
    have hst := hs.st
    rw [has] at hst
    refine enum_end_live a2.hd hen hst (by simp [hin]) fun h' hext hlive => ?_
    have hx1 : Nxt [it] [] s { s with heap := h' } := ⟨fun b o q m => hext b o (by simpa using m) q, rfl, fun _ _ q _ => q, fun q => q⟩
    have hx2 : Nxt [e.locals, it, E] [] s { s with heap := h' } := ⟨fun b o q m => hx1.heap b o q (fun h => m (by simp at h ⊢; simp [h])), rfl, fun _ _ q _ => q, fun q => q⟩
    obtain ⟨oi, hoi, _, hdi⟩ := id hst
    have ok1 : Ok C e gNm Tt [.val (S x), .val (.int ((i - 1 : Nat) : Int)), .val (.bool b), .un] Zz { s with heap := h' } := hs.ok.nxt hx1 (fun q m => by
      have : q = it := by simpa using m
      subst this; exact ⟨oi, hoi, fun ⟨vs, n, d⟩ => by rw [hdi] at d; cases d⟩) (fun q m => by
      have : q = it := by simpa using m
      subst this; exact hbI) (by simp [hIL]) (fun y a q => absurd q (hc y a)) (fun q _ _ => ⟨trivial, rfl⟩)
    refine seg_leaf (.ok .next) (hk _ _ _ (seg_tail hA hsc hc hin hpre ok1 (hx.trans hx2) ?_ ?_))
    · exact ⟨_, hext E _ hEi hen, fun ⟨vs, n, d⟩ => by cases d⟩
    · obtain ⟨o, vs, h1, h2⟩ := hlive; exact ⟨o, h1, fun ⟨ws, n, d⟩ => by rw [h2] at d; cases d⟩
  | cons c r ih =>
    intro i b pre s₀ s hr hi hpre hs hx
    have hci : x[i]? = some c := by
      have := congrArg List.head? hr
      simpa [List.head?_drop] using this
    have hlt : i < x.length := (List.getElem?_eq_some_iff.mp hci).1
    have hr' : x.drop (i + 1) = r := by rw [← List.drop_drop, hr]; rfl
    refine seg_forLoop ?_
    rw [hA2]
    refine W.item i s _ _ hlt ⟨hs.en, hs.st⟩ fun T vals h₁ t₁ hP hTs hT hM hk₁ => ?_
    obtain ⟨ti, xv, ⟨c', u, hc', rfl⟩, rfl⟩ := hP
    rw [hci] at hc'; cases hc'
    refine W.go _ _ _ i T _ _ _ hM fun h₂ hst₂ hk₂ => ?_
    obtain ⟨hen₂, hst₂⟩ := hst₂
    have hk12 : ∀ b o, b ∉ [E, it] → s.heap.get? b = some o → h₂.get? b = some o := fun b o m q => hk₂ b o m (hk₁ b o m q)
    have hx1 : Nxt [E, it] [] s { s with heap := h₂, toks := t₁ } := ⟨fun b o q m => hk12 b o m q, rfl, fun _ _ q _ => q, fun q => q⟩
    have hx2 : Nxt [e.locals, it, E] [] s { s with heap := h₂, toks := t₁ } := ⟨fun b o q m => hk12 b o (fun h => m (by simp at h ⊢; rcases h with h | h <;> simp [h])) q, rfl, fun _ _ q _ => q, fun q => q⟩
    obtain ⟨old, hen⟩ := hs.en
    obtain ⟨oi, hoi, _, hdi⟩ := id hs.st
    have ok1 : Ok C e gNm Tt [.val (S x), .val (.int ((i - 1 : Nat) : Int)), .val (.bool b), .un] Zz { s with heap := h₂, toks := t₁ } := hs.ok.nxt hx1 (fun q m => by
      rcases List.mem_cons.mp m with rfl | m
      · exact ⟨_, hen, fun ⟨vs, n, d⟩ => by cases d⟩
      · have : q = it := by simpa using m
        subst this; exact ⟨oi, hoi, fun ⟨vs, n, d⟩ => by rw [hdi] at d; cases d⟩) (fun q m => by
      rcases List.mem_cons.mp m with rfl | m
      · exact hbE
      · have : q = it := by simpa using m
        subst this; exact hbI) (by simp [hIL, hEL]) (fun y a q => absurd q (hc y a)) (fun q _ _ => ⟨trivial, rfl⟩)
    have hTn : T ∉ [E, it] := W.apart i T _ hM
    have hrep : RepN (fun a => Tt a ∧ Zz a = none) h₂ (.tuple [.int i, S [c]]) (.ref T) := by
      obtain ⟨o, g1, g2, g3⟩ := hT
      exact .tuple (vs := [.int i ti, .str ⟨#[c]⟩ u]) ⟨o, hk₂ _ _ hTn g1, g2, g3⟩ (.cons .int (.cons .str .nil))
    refine wp_keep ((Bnd.tup (C := C) (sc := fnS (topS 4)) (nm := gNm) (Γ := [.val (S x), .val (.int ((i - 1 : Nat) : Int)), .val (.bool b), .un]) (BndL.cons (Γ₁ := [.val (S x), .val (.int i), .val (.bool b), .un]) (Bnd.name (by walk_at "upd") (by decide +kernel))
      (BndL.cons (Γ₁ := [.val (S x), .val (.int i), .val (.bool b), .val (S [c])]) (Bnd.name (by walk_at "upd") (by decide +kernel)) BndL.nil))).run _ _ _ _ _ _ a2 hsc ok1 hrep) fun _ s₃ h₃ => ?_
    obtain ⟨ok3, mv3⟩ := h₃
    have hx3 : Nxt [e.locals, it, E] [] s s₃ := hx2.trans (mv_nxt mv3 hc ok3)
    have keepE : ∀ {sa sb : Shared} {S' : Addr → Option Nat}, Mv e Zz S' sa sb → ∀ {o}, sa.heap.get? E = some o → sb.heap.get? E = some o := fun m _ q => m.heap _ _ q (Ne.symm hEL) (fun y hy => hc y _ hy) rfl
    have keepI : ∀ {sa sb : Shared} {S' : Addr → Option Nat}, Mv e Zz S' sa sb → ∀ {o}, sa.heap.get? it = some o → sb.heap.get? it = some o := fun m _ q => m.heap _ _ q (Ne.symm hIL) (fun y hy => hc y _ hy) rfl
    obtain ⟨old2, hen2⟩ := hen₂
    have hen3 : IsEnum s₃.heap E it ((i + 1 : Nat) : Int) old2 := keepE mv3 hen2
    have hst3 : s₃.heap.IsStrIter it (strIterType (tx x)) (tx x) tk (i + 1) := by obtain ⟨o, g1, g2, g3⟩ := hst₂; exact ⟨o, keepI mv3 g1, g2, g3⟩
    have hcp : cp (Str.ofString "\\") = [92] := by decide +kernel
    -- a turn's end
    have turn : ∀ (b' : Bool) (pre' : List (Nat × List Nat)) (sa sb : Shared) (sl : Slot), escL 0 false x = pre' ++ escL (i + 1) b' r → Ok C e gNm Tt [.val (S x), .val (.int i), .val (.bool b'), sl] Zz sb → IsEnum sb.heap E it ((i + 1 : Nat) : Int) old2 → sb.heap.IsStrIter it (strIterType (tx x)) (tx x) tk (i + 1) →
        Nxt [e.locals, it, E] [] sa sb → Seg (model C.prog C.w) A (RR [e.locals, it, E]) (YY C [e.locals, it, E] (escD x)) (escL (i + 1) b' r).length sa (.forLoop gT (.ref E) gB [] e) (.pure (.again (.forLoop gT (.ref E) gB [] e))) [Frame.ret kont none false [] (.func (fnB (topS 4)) e) p []] sb :=
      fun b' pre' sa sb sl hp ho h1 h2 h3 => seg_again rfl (ih (i + 1) b' pre' sa sb hr' (by lia) hp ⟨ho.le (.cons .same (.cons .same (.cons .same (.cons .un .nil)))), ⟨old2, h1⟩, h2⟩ h3)
    -- what is handed out
    have item : ∀ (pre' : List (Nat × List Nat)) (w' : List Nat) (m : Nat) (rest : List (Nat × List Nat)), escL 0 false x = pre' ++ (i, w') :: rest → rest.length = m → (escD x)[(escD x).length - (m + 1)]? = some (.tuple [.int i, S w']) := fun pre' w' m rest hp hm => by
      unfold escD
      rw [hp, List.length_map, List.length_append, List.length_cons, hm, show pre'.length + (m + 1) - (m + 1) = pre'.length by lia, List.map_append, List.getElem?_append_right (by simp)]
      simp
    have live : ∀ (sb : Shared) (Γ : List Slot), Ok C e gNm Tt Γ Zz sb → IsEnum sb.heap E it ((i + 1 : Nat) : Int) old2 → sb.heap.IsStrIter it (strIterType (tx x)) (tx x) tk (i + 1) → ∀ b ∈ [e.locals, it, E], ∃ o, sb.heap.get? b = some o ∧ ¬ ∃ vs n, o.data = .seq vs n := fun sb Γ ho h1 h2 b hb => by
      simp only [List.mem_cons, List.mem_nil_iff, or_false] at hb
      rcases hb with rfl | rfl | rfl
      · exact ok_live ho
      · obtain ⟨o, g1, g2, g3⟩ := h2; exact ⟨o, g1, fun ⟨vs, n, d⟩ => by rw [g3] at d; cases d⟩
      · exact ⟨_, h1, fun ⟨vs, n, d⟩ => by cases d⟩
    have hyco : e.scope.isCoroutine = false := by rw [hsc2]; rfl
    have hyin : interactive e = false := by unfold interactive; rw [hsc2]; rfl
    refine seg_execs_cons (seg_If ?_)
    rw [hA2]
    refine wp_keep ((Tr.val (C := C) (k := 0) (sc := fnS (topS 4)) (nm := gNm) (Γ := [.val (S x), .val (.int i), .val (.bool b), .val (S [c])]) (b := b) (by walk_at "name") Tru.b).run _ _ _ _ _ a2 hsc ok3) fun r₁ s₄ h₄ => ?_
    obtain ⟨rfl, k₄⟩ := h₄
    have ok4 := ok3.kp k₄
    have hx4 := hx3.trans (.of_kp k₄)
    cases r₁ with
    | true =>
      rw [if_pos rfl]
      refine seg_execs_cons ?_
      have hpre' : escL 0 false x = pre ++ (i, [92, c]) :: escL (i + 1) false r := hpre
      refine seg_Expr_Yield (n := (escL (i + 1) false r).length) rfl rfl rfl ?_ hyco hyin
      rw [hA2]
      refine wpAny_noRaise (wp_keep ((Ev.tuple (C := C) (k := 0) (sc := fnS (topS 4)) (nm := gNm) (Γ := [.val (S x), .val (.int i), .val (.bool true), .val (S [c])]) (ds := [.int i, S (cp "\\" ++ [c])]) (by walk_at "go" <;> (rw [hcp]; simp)) (by simp)).run _ _ _ _ _ a2 hsc ok4) fun v s₅ h₅ => ?_)
      obtain ⟨r₅, k₅⟩ := h₅
      rw [hcp] at r₅
      have k45 := k₄.trans k₅
      have ok5 := ok4.kp k₅
      have hen5 : IsEnum s₅.heap E it ((i + 1 : Nat) : Int) old2 := k45.heap _ _ hen3
      have hst5 : s₅.heap.IsStrIter it (strIterType (tx x)) (tx x) tk (i + 1) := by obtain ⟨o, g1, g2⟩ := hst3; exact ⟨o, k45.heap _ _ g1, g2⟩
      intro kap hkap
      refine ⟨⟨_, item pre [92, c] _ _ hpre' rfl, rep_tup r₅ rfl⟩, hx.trans (hx4.trans (.of_kp k₅)), live _ _ ok5 hen5 hst5, fun s₆ c₆ => hkap .none s₆ ?_⟩
      have ok6 := ok_resume ok5 (by simp) c₆ (fun y a q => hc y a q) (fl3 (.inr ⟨_, rfl, rfl⟩))
      have hen6 : IsEnum s₆.heap E it ((i + 1 : Nat) : Int) old2 := c₆.keep E (by simp) _ hen5
      have hst6 : s₆.heap.IsStrIter it (strIterType (tx x)) (tx x) tk (i + 1) := by obtain ⟨o, g1, g2⟩ := hst5; exact ⟨o, c₆.keep it (by simp) _ g1, g2⟩
      show Seg _ _ _ _ _ _ _ ((execs _ e).wrap _ _ _ _) _ _
      refine seg_execs_cons (seg_stmt ?_)
      rw [hA2]
      refine wp_keep ((E1.assign (C := C) (k := 0) (sc := fnS (topS 4)) (nm := gNm) (Γ := [.val (S x), .val (.int i), .val (.bool true), .val (S [c])]) (Γ' := [.val (S x), .val (.int i), .val (.bool false), .val (S [c])]) (d := .bool false) (by walk_at "go") (by walk_at "upd") (by decide +kernel)).run _ _ _ _ _ a2 hsc ok6) fun fl s₇ h₇ => ?_
      obtain ⟨out, S', rfl, ⟨rfl, ok7⟩, mv7⟩ := h₇
      have ok7' := ok_Z ok7 (fl3 (.inr ⟨_, rfl, rfl⟩))
      exact turn false (pre ++ [(i, [92, c])]) s₆ s₇ _ (by rw [hpre', List.append_assoc]; rfl) ok7' (keepE mv7 hen6) (by obtain ⟨o, g1, g2⟩ := hst6; exact ⟨o, keepI mv7 g1, g2⟩) (mv_nxt mv7 hc ok7)
    | false =>
      rw [if_neg (by simp)]
      refine seg_execs_cons (seg_If ?_)
      rw [hA2]
      refine wp_keep ((Tr.cmp (C := C) (k := 0) (sc := fnS (topS 4)) (nm := gNm) (Γ := [.val (S x), .val (.int i), .val (.bool false), .val (S [c])]) (b := [c] == cp "\\") (by walk_at "name") Ev.cstr2 Op2.eqS).run _ _ _ _ _ a2 hsc ok4) fun r₁ s₅ h₅ => ?_
      obtain ⟨hr1, k₅⟩ := h₅
      rw [hcp] at hr1
      have k45 := k₄.trans k₅
      have ok5 := ok4.kp k₅
      have hx5 := hx4.trans (.of_kp k₅)
      have hen5 : IsEnum s₅.heap E it ((i + 1 : Nat) : Int) old2 := k45.heap _ _ hen3
      have hst5 : s₅.heap.IsStrIter it (strIterType (tx x)) (tx x) tk (i + 1) := by obtain ⟨o, g1, g2⟩ := hst3; exact ⟨o, k45.heap _ _ g1, g2⟩
      by_cases h92 : c = 92
      · have hb1 : r₁ = true := by rw [hr1, h92]; rfl
        subst hb1
        rw [if_pos rfl]
        have hpre' : escL 0 false x = pre ++ escL (i + 1) true r := by rw [hpre]; simp [escL, h92]
        have hlev : escL i false (c :: r) = escL (i + 1) true r := by simp [escL, h92]
        rw [hlev]
        refine seg_execs_cons (seg_stmt ?_)
        rw [hA2]
        refine wp_keep ((E1.assign (C := C) (k := 0) (sc := fnS (topS 4)) (nm := gNm) (Γ := [.val (S x), .val (.int i), .val (.bool false), .val (S [c])]) (Γ' := [.val (S x), .val (.int i), .val (.bool true), .val (S [c])]) (d := .bool true) (by walk_at "go") (by walk_at "upd") (by decide +kernel)).run _ _ _ _ _ a2 hsc ok5) fun fl s₇ h₇ => ?_
        obtain ⟨out, S', rfl, ⟨rfl, ok7⟩, mv7⟩ := h₇
        have ok7' := ok_Z ok7 (fl3 (.inr ⟨_, rfl, rfl⟩))
        exact turn true pre s₀ s₇ _ hpre' ok7' (keepE mv7 hen5) (by obtain ⟨o, g1, g2⟩ := hst5; exact ⟨o, keepI mv7 g1, g2⟩) ((hx.trans hx5).trans (mv_nxt mv7 hc ok7))
      · have hb1 : r₁ = false := by rw [hr1]; simp [h92]
        subst hb1
        rw [if_neg (by simp)]
        have hlev : escL i false (c :: r) = (i, [c]) :: escL (i + 1) false r := by simp [escL, h92]
        have hpre' : escL 0 false x = pre ++ (i, [c]) :: escL (i + 1) false r := by rw [hpre, hlev]
        rw [hlev, List.length_cons]
        refine seg_execs_cons ?_
        refine seg_Expr_Yield (n := (escL (i + 1) false r).length) rfl rfl rfl ?_ hyco hyin
        rw [hA2]
        refine wpAny_noRaise (wp_keep ((Ev.tuple (C := C) (k := 0) (sc := fnS (topS 4)) (nm := gNm) (Γ := [.val (S x), .val (.int i), .val (.bool false), .val (S [c])]) (ds := [.int i, S [c]]) (by walk_at "go") (by simp)).run _ _ _ _ _ a2 hsc ok5) fun v s₆ h₆ => ?_)
        obtain ⟨r₆, k₆⟩ := h₆
        have ok6 := ok5.kp k₆
        have hen6 : IsEnum s₆.heap E it ((i + 1 : Nat) : Int) old2 := k₆.heap _ _ hen5
        have hst6 : s₆.heap.IsStrIter it (strIterType (tx x)) (tx x) tk (i + 1) := by obtain ⟨o, g1, g2⟩ := hst5; exact ⟨o, k₆.heap _ _ g1, g2⟩
        intro kap hkap
        refine ⟨⟨_, item pre [c] _ _ hpre' rfl, rep_tup r₆ rfl⟩, hx.trans (hx5.trans (.of_kp k₆)), live _ _ ok6 hen6 hst6, fun s₇ c₇ => hkap .none s₇ ?_⟩
        have ok7 := ok_resume ok6 (by simp) c₇ (fun y a q => hc y a q) (fl3 (.inr ⟨_, rfl, rfl⟩))
        have hen7 : IsEnum s₇.heap E it ((i + 1 : Nat) : Int) old2 := c₇.keep E (by simp) _ hen6
        have hst7 : s₇.heap.IsStrIter it (strIterType (tx x)) (tx x) tk (i + 1) := by obtain ⟨o, g1, g2⟩ := hst6; exact ⟨o, c₇.keep it (by simp) _ g1, g2⟩
        exact turn false (pre ++ [(i, [c])]) s₇ s₇ _ (by rw [hpre', List.append_assoc]; rfl) ok7 hen7 hst7 (.refl _ _ _)
end
end

-- text MGen4
section


open Builtin Builtin.Str
section
variable {prog : Program} {w : World} {A : Around} {E' : Value → Shared → Prop} {s : Shared}

theorem pyNext_gen {a : Addr} {g n : Nat} {gs : GenState} {P : Nat → Shared → Shared → Prop} {Y : Protocol} {Q : Option Value → Shared → Prop} (hh : A.handled = none)
    (hl : s.heap.NoLimit) (hroom : A.depth < recursionLimit)
    (hg : s.heap.IsGen a g) (hgs : s.gens[g]? = some gs)
    (hgo : gs.Goes (model prog w) A.in1 (fun n s₀ r s₁ => r = .ok (.ret .none) ∧ P n s₀ s₁) Y n (.send .none) (s.setGen g .running))
    (hY : ∀ v s₁ gs', gs'.bare = true → Y (n - 1) (s.setGen g .running) v s₁ (fun r' s'' => match n with
        | 0 => False
        | m + 1 => gs'.Goes (model prog w) A.in1 (fun n s₀ r s₁ => r = .ok (.ret .none) ∧ P n s₀ s₁) Y m r' s'') → Q (some v) (s₁.setGen g gs'))
    (hP : ∀ s₁, P n (s.setGen g .running) s₁ → ∀ h', (∀ b o, s₁.heap.get? b = some o → h'.get? b = some o) → Q none { s₁.setGen g .finished with heap := h' }) :
    wpAny (model prog w) A (pyNext (.ref a)) Q E' s := by
  unfold pyNext
  refine wpAny_bind (wpAny_attempt (wpAny_callSpecial?_slot (name := Str.ofString "__next__") hg.typeIs slot_gen_next
    (wpAny_call_entry slot_gen_next hg.typeIs entry_gen_next ?_ (args_gen_next _))))
  show wpAny _ _ (Builtin.Generator.genWake (.ref a) (.send .none)) _ _ s
  unfold Builtin.Generator.genWake
  refine wpAny_bind (wpAny_holding (wpAny_genNumber hg (wpAny_bind (wpAny_genState hgs ?_))))
  cases gs with
  | running => exact hgo.elim
  | finished => exact hgo.elim
  | _ =>
    refine wpAny_bind (wpAny_roomToWake hl hroom ?_)
    show wpAny _ _ (.resume g (.send .none) [] _) _ _ s
    refine wpAny_resumeQ hgs hgo (fun x s₁ hx => ?_) (fun v s₁ gs' hb hv => ?_)
    · obtain ⟨rfl, hp⟩ := hx
      show wpAny _ _ (newExc (.type "StopIteration") [] >>= _) _ _ _
      refine wpAny_bind ?_
      simp only [newExc, newTuple]
      refine wpAny_bind (wpAny_newObj_type ?_ (by size_fits))
      refine wpAny_bind (m := firstArgMember _ _) (wpAny_of_eq (a := Value.none) (by first | rfl | (simp only [firstArgMember]; rfl)) ?_)
      refine wpAny_newObj_type ?_ (by size_fits)
      simp only [raiseNew]
      refine wpAny_bind (wpAny_bind (wpAny_handled ?_))
      rw [show A.in1.handled = none from hh]
      refine wpAny_throw ?_
      refine wpAny_bind (wpAny_isInstance (T := "StopIteration") (b := true) ⟨_, Heap.get?_push_size _ rfl, rfl⟩ isSubtype_stop ?_)
      exact wpAny_pure (hP s₁ hp _ fun b o hb => Heap.get?_push_of_some _ (Heap.get?_push_of_some _ hb))
    · exact wpAny_pure ⟨v, rfl, wpAny_pure (hY v s₁ gs' hb hv)⟩
end

section
variable {C : Cx} {A : Around} {x : List Nat} {tk : Tok} {e : Env}

theorem hA_ok (a : AOk 3 A) {E : Addr} : ∀ c fs, (fs = [] ∧ c = Code.func (fnB (topS 4)) e) ∨ (∃ k p, c = Code.forLoop gT (.ref E) gB [] e ∧ fs = [Frame.ret k none false [] (.func (fnB (topS 4)) e) p []]) → AOk 0 (A.in1.over c fs) := by
  rintro c fs (⟨rfl, rfl⟩ | ⟨k, p, rfl, rfl⟩)
  · refine ⟨a.hd, ?_, ?_⟩
    · have h : (A.in1.over (Code.func (fnB (topS 4)) e) []).depth ≤ A.depth + 1 := Nat.le_of_eq rfl
      have := a.dp; lia
    · have h : (A.in1.over (Code.func (fnB (topS 4)) e) []).units ≤ A.units + 1 + 3 := Nat.le_of_eq rfl
      have := a.un; lia
  · refine ⟨a.hd, ?_, ?_⟩
    · have h : (A.in1.over (Code.forLoop gT (.ref E) gB [] e) [Frame.ret k none false [] (.func (fnB (topS 4)) e) p []]).depth ≤ A.depth + 1 := Nat.le_of_eq rfl
      have := a.dp; lia
    · have h : (A.in1.over (Code.forLoop gT (.ref E) gB [] e) [Frame.ret k none false [] (.func (fnB (topS 4)) e) p []]).units ≤ A.units + 1 + 3 := Nat.le_of_eq rfl
      have := a.un; lia

/-- the generator, from its start -/
theorem seg_start (P : Pg C) (has : strIterType (tx x) = "str_ascii_iterator") (a : AOk 3 A) (hsc : EnvOk C (fnS (topS 4)) e gNm) (hc : ∀ x c, e.cells.lookup x ≠ some c) {s : Shared} {sz : Nat} (hsz : s.heap.objs.size = sz)
    (ok : Ok C e gNm Tt [.val (S x), .un, .un, .un] Zz s) :
    Seg (model C.prog C.w) A.in1 (RR [e.locals, sz, sz + 1]) (YY C [e.locals, sz, sz + 1] (escD x)) (escL 0 false x).length s (.func (fnB (topS 4)) e) ((model C.prog C.w).den (.func (fnB (topS 4)) e)) [] s := by
  have a1 : AOk 0 (A.in1.over (.func (fnB (topS 4)) e) []) := hA_ok a (E := 0) _ _ (.inl ⟨rfl, rfl⟩)
  have hsc2 : e.scope = fnS (topS 4) := hsc.scope
  refine seg_func ?_
  refine seg_execs_cons (seg_stmt ?_)
  refine wpAny_Assign_Name (wpAny_Constant_int ?_) rfl
  refine store_loc (i := 1) (d := .int 0) hsc (ok.kp .tok) rfl (by decide +kernel) .int fun h₁ t₁ ok1 sb1 => ?_
  refine seg_execs_cons (seg_stmt ?_)
  refine wpAny_Assign_Name (wpAny_Constant_bool ?_) rfl
  refine store_loc (i := 2) (d := .bool false) hsc ok1 rfl (by decide +kernel) .bool fun h₂ t₂ ok2 sb2 => ?_
  change Ok C e gNm Tt [.val (S x), .val (.int 0), .val (.bool false), .un] Zz _ at ok2
  have hsz2 : h₂.objs.size = sz := by rw [sb2.1, sb1.1]; exact hsz
  refine seg_execs_cons (seg_For (fun _ => rfl) ?_)
  generalize hs3 : ({ s with heap := h₂, toks := t₂ } : Shared) = s3 at *
  have hsz3 : s3.heap.objs.size = sz := by subst hs3; exact hsz2
  have hx3 : Nxt [e.locals, sz, sz + 1] [] s s3 := by
    subst hs3
    exact ⟨fun b o q m => (sb2.2 b (fun h => m (by simp [h]))).trans ((sb1.2 b (fun h => m (by simp [h]))).trans q), rfl, fun _ _ q _ => q, fun q => q⟩
  have hk : e.scope.kind = .function := by rw [hsc2]; rfl
  obtain ⟨v, hv, hr⟩ := ok2.slots 0 "addr" _ rfl rfl
  obtain ⟨tk', rfl⟩ := hr.str_inv
  have hw : wpAny (model C.prog C.w) (A.in1.over (.func (fnB (topS 4)) e) []) (eval (.Name "enumerate" ⟨35, 19, 35, 28⟩) e) (fun v s' => v = .type "enumerate" ∧ s' = s3) F0 s3 := by
    refine Calls.Name_function_global hk (by unfold Env.kindOf; rw [hsc2]; decide +kernel) ?_ (by decide)
    exact Calls.loadGlobal_builtin (v := .type "enumerate") (by rw [hsc.glob]; exact P.B.W.g.keeps ok2.base) (P.B.no _ (by decide +kernel)) (by rw [hsc.blt]; exact P.B.W.b.keeps ok2.base) ((P.B.W.bts _ (by decide)).trans (by decide +kernel)) ⟨rfl, rfl⟩
  show wpAny _ _ (do callWith _ (← eval (.Name "enumerate" ⟨35, 19, 35, 28⟩) e) [] (backTo _ (starEach [.Name "addr" _] e)) (backToKw _ (keywordEach [] e))) _ _ s3
  refine wpAny_bind (wp_keep hw fun v' s' h' => ?_)
  obtain ⟨rfl, rfl⟩ := h'
  refine PyProof.Rows.callWith_type (by rfl) (evalArgs_any (by rfl) (wpAny_items_cons (wpAny_Name (load_var hsc (by decide) hv (wpAny_items_nil ?_)) (by decide)) (by rfl)))
  refine call_enumerate_str fun h₄ hen hst hz4 hk4 => ?_
  rw [hsz3] at hen hst hz4 ⊢
  refine wpAny_pyIter_enum hen ?_
  intro p
  have hx4 : Nxt [e.locals, sz, sz + 1] [] s { s' with heap := h₄ } := hx3.trans ⟨fun b o q _ => hk4 b o q, rfl, fun _ _ q _ => q, fun q => q⟩
  have ok4 : Ok C e gNm Tt [.val (S x), .val (.int 0), .val (.bool false), .un] Zz { s' with heap := h₄ } := ok2.kp (.of (t := s'.toks) hk4)
  have hLs : e.locals < sz := by
    obtain ⟨m, ob, _, _, q, _⟩ := ok.ns; rw [← hsz]; exact Heap.lt_size q
  have hbn : ∀ b, sz ≤ b → C.hb.get? b = none := fun b q => by
    cases q' : C.hb.get? b with
    | none => rfl
    | some ob => have := ok.base b ob q'; rw [get_none (by lia)] at this; cases this
  exact seg_loop has (hA_ok a) hsc hc (E := sz + 1) (it := sz) (Nat.succ_ne_self _) (Nat.ne_of_lt (Nat.lt_succ_of_lt hLs)) (Nat.ne_of_lt hLs) (hbn _ (Nat.le_succ _)) (hbn _ (Nat.le_refl _)) (fun n s₀ s h => h) x 0 false [] s _ rfl (Nat.zero_le _) rfl ⟨ok4, ⟨_, hen⟩, hst⟩ hx4

/-- the generator's states -/
def GSt (C : Cx) (A : Around) (x : List Nat) (e : Env) (I : Addr) (g sz : Nat) : Nat → List Addr → Shared → Prop
  | 0, wr, s => wr = [I, e.locals] ∧ s.heap.objs.size = sz ∧ s.heap.IsGen I g ∧ s.gens[g]? = some (.fresh (.func (fnB (topS 4)) e)) ∧ Ok C e gNm Tt [.val (S x), .un, .un, .un] Zz s
  | i + 1, wr, s => wr = [I, e.locals, sz, sz + 1] ∧ s.heap.IsGen I g ∧ (∀ b o, C.hb.get? b = some o → s.heap.get? b = some o) ∧ AllBare s.gens ∧ (∀ b ∈ [e.locals, sz, sz + 1], ∃ o, s.heap.get? b = some o ∧ ¬ ∃ vs n, o.data = .seq vs n) ∧
      ∃ gs, s.gens[g]? = some gs ∧ ∀ s'', Cond C [e.locals, sz, sz + 1] s s'' → gs.Goes (model C.prog C.w) A.in1 (RR [e.locals, sz, sz + 1]) (YY C [e.locals, sz, sz + 1] (escD x)) ((escD x).length - (i + 1)) (.send .none) s''

theorem bare_set {gens : Array GenState} {g : Nat} {y : GenState} (h : AllBare gens) (hy : y.bare = true) : AllBare (gens.setIfInBounds g y) := fun z hz => by
  rcases Array.mem_or_eq_of_mem_setIfInBounds hz with q | q
  · exact h z q
  · rw [q]; exact hy

theorem isgen_obj {h : Heap} {I : Addr} {g : Nat} (x : h.IsGen I g) : ∃ o, h.get? I = some o ∧ ¬ ∃ vs n, o.data = .seq vs n := by
  obtain ⟨o, a, b, h1, h2, h3, _⟩ := x
  exact ⟨o, h1, fun ⟨vs, n, d⟩ => by rw [h3] at d; cases d⟩

theorem walk_gen (P : Pg C) (has : strIterType (tx x) = "str_ascii_iterator") (a : AOk 3 A) (hsc : EnvOk C (fnS (topS 4)) e gNm) (hc : ∀ x c, e.cells.lookup x ≠ some c) {I : Addr} {g sz : Nat} (hIL : I ≠ e.locals) (hIs : I < sz) (hLs : e.locals < sz) (hbz : C.hb.get? sz = none) (hbz1 : C.hb.get? (sz + 1) = none) :
    WalkV C A I [g] (fun _ => False) (escD x) (GSt C A x e I g sz) := by
  have hlen : (escD x).length = (escL 0 false x).length := by simp [escD]
  have rest : ∀ (wr : List Addr) (s s₁ : Shared) (gs' : GenState), (∀ b o, s.heap.get? b = some o → b ∉ wr → b ∉ [e.locals, sz, sz + 1]) → gs'.bare = true → Nxt [e.locals, sz, sz + 1] [] (s.setGen g .running) s₁ → Nxt wr [g] s (s₁.setGen g gs') := by
    intro wr s s₁ gs' hw hb hx
    refine ⟨fun b o q m => hx.heap b o q (hw b o q m), hx.os, fun j y q m => ?_, fun q => bare_set (hx.bare (bare_set q rfl)) hb⟩
    have hj : j ≠ g := fun h => m (by simp [h])
    have h1 : (s.setGen g .running).gens[j]? = some y := by
      show (s.gens.setIfInBounds g .running)[j]? = _
      rw [Array.getElem?_setIfInBounds_ne (Ne.symm hj)]; exact q
    have h2 := hx.gens j y h1 (by simp)
    show (s₁.gens.setIfInBounds g gs')[j]? = _
    rw [Array.getElem?_setIfInBounds_ne (Ne.symm hj)]; exact h2
  have based : ∀ {s s₁ : Shared}, (∀ b o, C.hb.get? b = some o → s.heap.get? b = some o) → Nxt [e.locals, sz, sz + 1] [] s s₁ → ∀ b o, C.hb.get? b = some o → s₁.heap.get? b = some o := fun h1 h2 b o q => h2.heap b o (h1 b o q) fun m => by
    simp only [List.mem_cons, List.mem_nil_iff, or_false] at m
    rcases m with rfl | rfl | rfl
    · rw [hsc.hbL] at q; cases q
    · rw [hbz] at q; cases q
    · rw [hbz1] at q; cases q
  have gen_at : ∀ {s s₁ : Shared}, s.heap.IsGen I g → Nxt [e.locals, sz, sz + 1] [] s s₁ → s₁.heap.IsGen I g := fun h1 h2 => by
    obtain ⟨o, a, b, q1, q2⟩ := h1
    exact ⟨o, a, b, h2.heap _ _ q1 (fun m => by
      simp only [List.mem_cons, List.mem_nil_iff, or_false] at m
      rcases m with h | h | h
      · exact hIL h
      · exact Nat.ne_of_lt hIs h
      · exact Nat.ne_of_lt (Nat.lt_succ_of_lt hIs) h), q2⟩
  have run_at : ∀ {s s₁ : Shared} {y : GenState}, s.gens[g]? = some y → Nxt [e.locals, sz, sz + 1] [] (s.setGen g .running) s₁ → ∀ gs', (s₁.setGen g gs').gens[g]? = some gs' := fun {s s₁ y} h1 h2 gs' => by
    have hlt : g < s.gens.size := (Array.getElem?_eq_some_iff.mp h1).1
    have h3 : (s.setGen g .running).gens[g]? = some .running := by
      show (s.gens.setIfInBounds g .running)[g]? = _
      rw [Array.getElem?_setIfInBounds_self_of_lt hlt]
    have h4 := h2.gens g _ h3 (by simp)
    have hlt2 : g < s₁.gens.size := (Array.getElem?_eq_some_iff.mp h4).1
    show (s₁.gens.setIfInBounds g gs')[g]? = _
    rw [Array.getElem?_setIfInBounds_self_of_lt hlt2]
  -- one step
  have step : ∀ (n i : Nat) (wr : List Addr) (s : Shared) (gs : GenState) (d : PyData), (∀ b o, C.hb.get? b = some o → s.heap.get? b = some o) → AllBare s.gens → s.heap.IsGen I g → s.gens[g]? = some gs → n = (escD x).length - i → (escD x)[i]? = some d →
      (∀ b o, s.heap.get? b = some o → b ∉ wr → b ∉ [e.locals, sz, sz + 1]) → (∀ b ∈ [I, e.locals, sz, sz + 1], b ∈ wr ∨ s.heap.get? b = none) → (∀ b ∈ wr, b ∈ [I, e.locals, sz, sz + 1]) →
      gs.Goes (model C.prog C.w) A.in1 (RR [e.locals, sz, sz + 1]) (YY C [e.locals, sz, sz + 1] (escD x)) n (.send .none) (s.setGen g .running) →
      wpAny (model C.prog C.w) A (pyNext (.ref I)) (fun r s' => ∃ v wr', r = some v ∧ RepN (fun _ => False) s'.heap d v ∧ GSt C A x e I g sz (i + 1) wr' s' ∧ Nxt wr [g] s s' ∧ (∀ b ∈ wr', b ∈ wr ∨ s.heap.get? b = none) ∧ ∀ b ∈ wr, b ∈ wr') F0 s := by
    intro n i wr s gs d hbase hbare hg hgs hn hd hw1 hw2 hw3 hgo
    have hi : i < (escD x).length := (List.getElem?_eq_some_iff.mp hd).1
    obtain ⟨m, rfl⟩ : ∃ m, n = m + 1 := ⟨n - 1, by lia⟩
    refine pyNext_gen (P := fun n s₀ s₁ => n = 0 ∧ Nxt [e.locals, sz, sz + 1] [] s₀ s₁) (n := m + 1) a.hd (P.B.W.nolim.keeps hbase) a.room hg hgs hgo (fun v s₁ gs' hb hy => ?_) (fun s₁ hp => absurd hp.1 (Nat.succ_ne_zero m))
    obtain ⟨⟨d', hd', hr⟩, hx, hlive, hk⟩ := hy
    have hdd : d' = d := by
      rw [show (escD x).length - (m + 1 - 1 + 1) = i by lia, hd] at hd'
      exact (Option.some.inj hd').symm
    subst hdd
    have hbase1 : ∀ b o, C.hb.get? b = some o → s₁.heap.get? b = some o := based (s := s.setGen g .running) hbase hx
    refine ⟨v, [I, e.locals, sz, sz + 1], rfl, hr, ⟨rfl, gen_at (s := s.setGen g .running) (s₁ := s₁) hg hx, hbase1, bare_set (hx.bare (bare_set hbare rfl)) hb, hlive, gs', run_at hgs hx gs', fun s'' c => ?_⟩, rest wr s s₁ gs' hw1 hb hx, hw2, hw3⟩
    have := hk s'' ⟨c.keep, c.base, c.bare⟩
    rw [show (escD x).length - (i + 1) = m by lia]
    exact this
  refine ⟨?_, ?_, ?_, ?_, ?_, ?_⟩
  · rintro i wr s s' ⟨rfl, hg, hb, hbare, hl, gs, hgs, hgo⟩ hk hgk hb' hbare'
    refine ⟨rfl, ?_, hb', hbare', fun b m => ?_, gs, (hgk g (by simp)).trans hgs, fun s'' c => hgo s'' ⟨fun b m o q => c.keep b m o (hk b o q (.inl (List.mem_cons_of_mem _ m))), c.base, c.bare⟩⟩
    · obtain ⟨o, p, q, h1, h2⟩ := hg; exact ⟨o, p, q, hk _ _ h1 (.inl (by simp)), h2⟩
    · obtain ⟨o, h1, h2⟩ := hl b m; exact ⟨o, hk _ _ h1 (.inl (List.mem_cons_of_mem _ m)), h2⟩
  · rintro (_ | i) wr s d hd st
    · obtain ⟨rfl, hsz, hg, hgs, hok⟩ := st
      refine step (escD x).length 0 _ s _ d hok.base hok.bare hg hgs rfl hd (fun b o q m h => ?_) (fun b m => ?_) (fun b m => ?_) ⟨rfl, ?_⟩
      · simp only [List.mem_cons, List.mem_nil_iff, or_false, not_or] at m h
        rcases h with h | h | h
        · exact m.2 h
        · rw [h] at q; have := Heap.lt_size q; rw [hsz] at this; exact Nat.lt_irrefl _ this
        · rw [h] at q; have := Heap.lt_size q; rw [hsz] at this; exact Nat.lt_irrefl _ (Nat.lt_of_succ_lt this)
      · simp only [List.mem_cons, List.mem_nil_iff, or_false] at m ⊢
        rcases m with h | h | h | h
        · exact .inl (.inl h)
        · exact .inl (.inr h)
        · exact .inr (get_none (by rw [hsz, h]; exact Nat.le_refl _))
        · exact .inr (get_none (by rw [hsz, h]; exact Nat.le_succ _))
      · simp only [List.mem_cons, List.mem_nil_iff, or_false] at m ⊢
        rcases m with h | h <;> simp [h]
      · rw [hlen]
        exact seg_start P has a hsc hc hsz ⟨hok.base, hok.fresh, hok.hbS, bare_set hok.bare rfl, hok.ns, hok.cells, hok.list, hok.slots⟩
    · obtain ⟨rfl, hg, hb, hbare, hl, gs, hgs, hgo⟩ := st
      exact step _ (i + 1) _ s gs d hb hbare hg hgs rfl hd (fun b o _ m h => m (List.mem_cons_of_mem _ h)) (fun b m => .inl m) (fun b m => m) (hgo _ ⟨fun _ _ _ q => q, hb, bare_set hbare rfl⟩)
  · intro wr s st
    have fin : ∀ (s : Shared) (gs : GenState), (∀ b o, C.hb.get? b = some o → s.heap.get? b = some o) → AllBare s.gens → s.heap.IsGen I g → s.gens[g]? = some gs → (∀ b o, s.heap.get? b = some o → b ∉ wr → b ∉ [e.locals, sz, sz + 1]) →
        gs.Goes (model C.prog C.w) A.in1 (RR [e.locals, sz, sz + 1]) (YY C [e.locals, sz, sz + 1] (escD x)) 0 (.send .none) (s.setGen g .running) → wpAny (model C.prog C.w) A (pyNext (.ref I)) (fun r s' => r = none ∧ Nxt wr [g] s s') F0 s := by
      intro s gs hbase hbare hg hgs hw hgo
      refine pyNext_gen (P := fun n s₀ s₁ => n = 0 ∧ Nxt [e.locals, sz, sz + 1] [] s₀ s₁) (n := 0) a.hd (P.B.W.nolim.keeps hbase) a.room hg hgs hgo (fun v s₁ gs' hb hy => ?_) (fun s₁ hp h' hk => ?_)
      · obtain ⟨_, hx, _, hk⟩ := hy
        exact (hk s₁ ⟨fun _ _ _ q => q, based (s := s.setGen g .running) hbase hx, hx.bare (bare_set hbare rfl)⟩).elim
      · have h1 := rest wr s s₁ .finished hw rfl hp.2
        exact ⟨rfl, fun b o q m => hk b o (h1.heap b o q m), h1.os, h1.gens, h1.bare⟩
    generalize hn : (escD x).length = n at st
    match n, st with
    | 0, st =>
      obtain ⟨rfl, hsz, hg, hgs, hok⟩ := st
      refine fin s _ hok.base hok.bare hg hgs (fun b o q m h => ?_) ⟨rfl, ?_⟩
      · simp only [List.mem_cons, List.mem_nil_iff, or_false, not_or] at m h
        rcases h with h | h | h
        · exact m.2 h
        · rw [h] at q; have := Heap.lt_size q; rw [hsz] at this; exact Nat.lt_irrefl _ this
        · rw [h] at q; have := Heap.lt_size q; rw [hsz] at this; exact Nat.lt_irrefl _ (Nat.lt_of_succ_lt this)
      · have h0 : (escL 0 false x).length = 0 := by rw [← hlen]; exact hn
        have := seg_start P has a hsc hc (s := s.setGen g .running) hsz ⟨hok.base, hok.fresh, hok.hbS, bare_set hok.bare rfl, hok.ns, hok.cells, hok.list, hok.slots⟩
        rw [h0] at this
        exact this
    | n + 1, st =>
      obtain ⟨rfl, hg, hb, hbare, hl, gs, hgs, hgo⟩ := st
      have := hgo (s.setGen g .running) ⟨fun _ _ _ q => q, hb, bare_set hbare rfl⟩
      rw [hn, Nat.sub_self] at this
      exact fin s gs hb hbare hg hgs (fun b o _ m h => m (List.mem_cons_of_mem _ h)) this
  · rintro (_ | i) wr s st b hb
    · obtain ⟨rfl, hsz, hg, hgs, hok⟩ := st
      rcases List.mem_cons.mp hb with rfl | hb
      · exact isgen_obj hg
      · have : b = e.locals := by simpa using hb
        subst this; exact ok_live hok
    · obtain ⟨rfl, hg, _, _, hl, _⟩ := st
      rcases List.mem_cons.mp hb with rfl | hb
      · exact isgen_obj hg
      · exact hl b hb
  · rintro (_ | i) wr s st j hj
    · obtain ⟨rfl, hsz, hg, hgs, hok⟩ := st
      obtain rfl : j = g := by simpa using hj
      exact ⟨_, hgs⟩
    · obtain ⟨rfl, hg, _, _, hl, gs, hgs, _⟩ := st
      obtain rfl : j = g := by simpa using hj
      exact ⟨_, hgs⟩
  · rintro i wr s target v st _
    have hg : s.heap.IsGen I g := by
      cases i with
      | zero => exact st.2.2.1
      | succ i => exact st.2.1
    obtain ⟨o, _, _, h1, h2, _⟩ := hg
    exact lot_none h1 h2 (by decide)
end
end

-- text MGen5
section


open Builtin Builtin.Str
section
variable {C : Cx} {k : Nat} {sc : Scope} {nm : List Str} {Γ : List Slot}

/-- what a call of the generator's def gives -/
structure GenAt (C : Cx) (A : Around) (x : List Nat) (s s' : Shared) (I : Addr) (e : Env) (g : Nat) : Prop where
  kp : Kp s s'
  fI : s.heap.get? I = none
  fL : s.heap.get? e.locals = none
  fg : s.gens[g]? = none
  ne : I ≠ e.locals
  lI : I < s'.heap.objs.size
  lL : e.locals < s'.heap.objs.size
  env : EnvOk C (fnS (topS 4)) e gNm
  nc : ∀ x c, e.cells.lookup x ≠ some c
  gen : s'.heap.IsGen I g
  gs : s'.gens[g]? = some (.fresh (.func (fnB (topS 4)) e))
  ok : Ok C e gNm Tt [.val (S x), .un, .un, .un] Zz s'

theorem gen_call {A : Around} {a : Addr} (P : Pg C) (F : Fn C (fnN (topS 4)) a (fnP (topS 4)) (fnB (topS 4)) (fnS (topS 4))) {x : List Nat} {v : Value} {s : Shared} (ao : AOk 1 A) (hbase : ∀ b o, C.hb.get? b = some o → s.heap.get? b = some o)
    (hbare : AllBare s.gens) (hr : RepN Tt s.heap (S x) v) : wpAny (model C.prog C.w) A (call (.ref a) [v] []) (fun r s' => ∃ I e g, r = .ref I ∧ GenAt C A x s s' I e g) F0 s := by
  obtain ⟨o, pm, cd, doc, ho, hd, hcd⟩ := F.at_
  refine wpAny_call (codeAny_call_generator (fd := Calls.docDef (fnN (topS 4)) (fnP (topS 4)) (fnB (topS 4)) (fnS (topS 4)) pm cd doc) ao.room (hbase _ _ ho) hd rfl rfl rfl (hcd.keeps hbase) ?_)
  have hb : bindArgs (Calls.docDef (fnN (topS 4)) (fnP (topS 4)) (fnB (topS 4)) (fnS (topS 4)) pm cd doc) ⟨[v], []⟩ = pure [(Str.ofString "addr", v)] := rfl
  rw [hb]
  refine wpAny_pure (wpAny_newFunctionEnv_cells rfl (fun y hy => .inl (by
    have : y = (Str.ofString "addr", v) := by simpa using hy
    subst this; exact (show (fnS (topS 4)).names.lookup (Str.ofString "addr") = some .local by decide +kernel))) fun env he s₁ X => ?_)
  subst he
  have hnl : s.heap.NoLimit := P.B.W.nolim.keeps hbase
  refine ⟨hnl.keeps X.toInCall.keep, ?_⟩
  obtain ⟨E, O⟩ := frame_ok (C := C) (fd := Calls.docDef (fnN (topS 4)) (fnP (topS 4)) (fnB (topS 4)) (fnS (topS 4)) pm cd doc) (a := a) (nm := gNm) (N := Tt) (pn := ["addr"]) (ds := [S x]) (vs := [v]) hbase hbare (fun _ _ => trivial) (.cons hr .nil) rfl rfl rfl (by decide) ⟨["pos", "escape", "ch"], rfl⟩ rfl (show ∀ x ∈ [Str.ofString "addr"], (fnS (topS 4)).names.lookup x = some .local ∨ (fnS (topS 4)).names.lookup x = some .cell by decide +kernel) X
  obtain ⟨h₁, t₁, rfl⟩ := X.toInCall.same
  have keep := X.toInCall.keep
  dsimp only
  have kk : Kp s { s with heap := h₁, toks := t₁ } := .of keep
  refine ⟨_, callEnvC (Calls.docDef (fnN (topS 4)) (fnP (topS 4)) (fnB (topS 4)) (fnS (topS 4)) pm cd doc) s.heap.objs.size a, s.gens.size, rfl, ?_⟩
  have hL : (callEnvC (Calls.docDef (fnN (topS 4)) (fnP (topS 4)) (fnB (topS 4)) (fnS (topS 4)) pm cd doc) s.heap.objs.size a).locals = s.heap.objs.size := rfl
  have hLlt : s.heap.objs.size < h₁.objs.size := by
    obtain ⟨m, ob, _, _, q, _⟩ := O.ns; exact Heap.lt_size q
  have k2 : Kp { s with heap := h₁, toks := t₁ } { s with heap := h₁.push { cls := .type "generator", data := .fields #[.int s.gens.size 0, .str (fnN (topS 4)) t₁, .str (fnN (topS 4)) (t₁ + 1)] }, gens := s.gens.push (.fresh (.func (fnB (topS 4)) (callEnvC (Calls.docDef (fnN (topS 4)) (fnP (topS 4)) (fnB (topS 4)) (fnS (topS 4)) pm cd doc) s.heap.objs.size a))), toks := t₁ + 1 + 1 } := by
    refine ⟨fun b ob q => Heap.get?_push_of_some _ q, rfl, fun i y q => ?_, fun q => AllBare.push q rfl⟩
    have hlt := (Array.getElem?_eq_some_iff.mp q).1
    show (s.gens.push _)[i]? = _
    rw [Array.getElem?_push_lt hlt]
    exact (Array.getElem?_eq_some_iff.mp q).2 ▸ rfl
  refine ⟨kk.trans k2, kk.fresh (get_new _), by rw [hL]; exact get_new _, by simp, ?_, ?_, ?_, E, fun y c q => ?_, ⟨_, _, _, Heap.get?_push_size _ rfl, rfl, rfl, rfl⟩, Array.getElem?_push_size, O.kp k2⟩
  · rw [hL]; exact Nat.ne_of_gt hLlt
  · rw [Heap.size_push]; exact Nat.lt_succ_self _
  · rw [Heap.size_push, hL]; exact Nat.lt_succ_of_lt hLlt
  · have : (callEnvC (Calls.docDef (fnN (topS 4)) (fnP (topS 4)) (fnB (topS 4)) (fnS (topS 4)) pm cd doc) s.heap.objs.size a).cells = [] := rfl
    rw [this] at q; cases q

theorem ItrV.gen {fpos pos : Pos} {arg : Expr} {x : List Nat} (P : Pg C) (has : strIterType (tx x) = "str_ascii_iterator") (hx : sc.names.lookup ("_iter_escaped_chars" : Str) = some .globalImplicit) (h : Ev C k sc nm Γ arg (S x)) (hk4 : 4 ≤ k)
    (hp : ∀ e, (backTo pos (starEach [arg] e)).any (·.1) = false := by intro _; rfl) (he : ∀ e, starEach [arg] e = (false, eval arg e) :: starEach [] e := by intro _; rfl) :
    ItrV C k sc nm Γ (.Call (.Name "_iter_escaped_chars" fpos) [arg] [] pos) (escD x) := by
  refine ⟨?_⟩; intro A e N Sg s ao E ok
  obtain ⟨a, F⟩ := P.fn 4 (by decide)
  have hk : e.scope.kind = .function := by rw [E.scope]; exact E.kind
  obtain ⟨o, pm, cd, doc, ho, hd, _⟩ := F.at_
  have hfn : fnN (topS 4) = ("_iter_escaped_chars" : Str) := rfl
  show wpAny _ A (do callWith pos (← eval (.Name "_iter_escaped_chars" fpos) e) [] (backTo pos (starEach [arg] e)) (backToKw pos (keywordEach [] e))) _ _ s
  refine wpAny_bind (Calls.Name_function_global hk (by unfold Env.kindOf; rw [E.scope]; exact hx) ?_ (by decide))
  refine Calls.loadGlobal_global (by rw [E.glob]; exact P.B.W.g.keeps ok.base) F.g ?_
  refine Calls.callWith_function (o := o) (args_ (.cons h .nil he) ao E ok (hp e) fun vs s₂ r₂ k₂ o₂ => ⟨⟨o₂.base _ _ ho, hd⟩, ?_⟩)
  obtain ⟨v, w, rfl, r1, r2⟩ := r₂.cons_inv
  obtain rfl := r2.nil_inv
  refine wp_keep (gen_call P F (ao.weaken (by lia)) o₂.base o₂.bare (r1.flat rfl)) fun r s₃ h₃ => ?_
  obtain ⟨I, ge, g, rfl, G⟩ := h₃
  refine wpAny_pyIter_gen G.gen ?_
  have kk := k₂.trans G.kp
  have o₃ := o₂.kp G.kp
  have hbn : ∀ b, s₃.heap.objs.size ≤ b → C.hb.get? b = none := fun b q => by
    cases q' : C.hb.get? b with
    | none => rfl
    | some ob => have := o₃.base b ob q'; rw [get_none q] at this; cases this
  refine ⟨I, [I, ge.locals], [g], _, GSt C A x ge I g s₃.heap.objs.size, rfl, kk, walk_gen P has (ao.weaken (by lia)) G.env G.nc G.ne G.lI G.lL (hbn _ (Nat.le_refl _)) (hbn _ (Nat.le_succ _)), ⟨rfl, rfl, G.gen, G.gs, G.ok⟩, fun b m => ?_, fun j m => ?_, fun b hb => hb.elim⟩
  · simp only [List.mem_cons, List.mem_nil_iff, or_false] at m
    rcases m with rfl | rfl
    · exact k₂.fresh G.fI
    · exact k₂.fresh G.fL
  · have : j = g := by simpa using m
    subst this
    cases q : s.gens[j]? with
    | none => rfl
    | some y => have := k₂.gens j y q; rw [G.fg] at this; cases this
end

/-! list(generator) -/
section
variable {C : Cx} {A : Around}

structure Lx (wr : List Addr) (gs : List Nat) (Sx : Addr) (s s' : Shared) : Prop where
  heap : ∀ b o, s.heap.get? b = some o → b ∉ wr → b ≠ Sx → s'.heap.get? b = some o
  os : s'.os = s.os
  gens : ∀ i y, s.gens[i]? = some y → i ∉ gs → s'.gens[i]? = some y
  bare : AllBare s.gens → AllBare s'.gens

theorem extend_gen {I Sx : Addr} {gs : List Nat} {ds : List PyData} {St : Nat → List Addr → Shared → Prop} {res : Value} {R : Result → Shared → Prop} (W : WalkV C A.in1 I gs (fun _ => False) ds St) (hn : ds.length ≤ 1000) (hb : C.hb.get? Sx = none) :
    ∀ (k i : Nat) (wr : List Addr) (s : Shared) (acc : Array Value) (c : Nat), ds.length - i = k → i ≤ ds.length → St i wr s → Sx ∉ wr → s.heap.get? Sx = some { cls := .type "list", dict := none, data := .seq acc c, slots := #[] } → RepAllN (fun _ => False) s.heap (ds.take i) acc.toList →
      (∀ b o, C.hb.get? b = some o → s.heap.get? b = some o) → (∀ b ∈ wr, C.hb.get? b = none) → AllBare s.gens →
      (∀ s' acc' c', Lx wr gs Sx s s' → s'.heap.get? Sx = some { cls := .type "list", dict := none, data := .seq acc' c', slots := #[] } → RepAllN (fun _ => False) s'.heap ds acc'.toList → R (.ok (.ret res)) s') →
      codeAny (model C.prog C.w) A (.builtin "list.extend.loop" ⟨[.ref Sx, .ref I, res], []⟩) R s := by
  intro k
  have reps : ∀ {wr : List Addr} {s s' : Shared} {xs : List PyData} {vs : List Value}, RepAllN (fun _ => False) s.heap xs vs → (∀ b ∈ wr, ∃ o, s.heap.get? b = some o ∧ ¬ ∃ vs n, o.data = .seq vs n) → (∀ b o, s.heap.get? b = some o → b ∉ wr → s'.heap.get? b = some o) → RepAllN (fun _ => False) s'.heap xs vs :=
    fun r hw hk => r.stable fun b o q d _ => hk b o q fun m => by
      obtain ⟨o', q', d'⟩ := hw b m
      rw [q] at q'; cases q'; exact d' d
  induction k with
  | zero =>
    intro i wr s acc c hk hi hst hSw hS hacc hbase hbw hbare hR
    have hin : i = ds.length := by lia
    subst hin
    refine codeAny_builtin F.entry_extend_loop ?_
    rw [Around.under_plainId F.plain_extend_loop _]
    show wpAny _ A.in1 (pyNext (.ref I) >>= _) _ _ s
    refine wpAny_bind (wpAny_noRaise (wp_keep (W.done wr s hst) fun r s' h' => ?_))
    obtain ⟨rfl, hx⟩ := h'
    refine wpAny_pure (hR s' acc c ⟨fun b o q m _ => hx.heap b o q m, hx.os, hx.gens, hx.bare⟩ (hx.heap _ _ hS hSw) ?_)
    have := reps hacc (W.wrf _ _ _ hst) fun b o q m => hx.heap b o q m
    rwa [List.take_length] at this
  | succ k ih =>
    intro i wr s acc c hk hi hst hSw hS hacc hbase hbw hbare hR
    have hlt : i < ds.length := by lia
    have hd : ds[i]? = some ds[i] := List.getElem?_eq_getElem hlt
    refine codeAny_builtin F.entry_extend_loop ?_
    rw [Around.under_plainId F.plain_extend_loop _]
    show wpAny _ A.in1 (pyNext (.ref I) >>= _) _ _ s
    refine wpAny_bind (wpAny_noRaise (wp_keep (W.item i wr s _ hd hst) fun r s' h' => ?_))
    obtain ⟨v, wr', rfl, rv, hst', hx, hnw, how⟩ := h'
    have hS' := hx.heap _ _ hS hSw
    have hSw' : Sx ∉ wr' := fun m => (hnw Sx m).elim hSw fun q => by rw [hS] at q; cases q
    have hasz : acc.size = i := by have := hacc.length; simp at this; lia
    show wpAny _ A.in1 (updateSeq Sx (·.push v) >>= _) _ _ _
    refine wpAny_bind ?_
    have hoth : ∀ b o, b ≠ Sx → s'.heap.get? b = some o → (s'.heap.update Sx (Obj.mapSeq (·.push v))).get? b = some o := fun b o hb q => (Heap.get?_update_other _ _ (Ne.symm hb)).trans q
    have hbase' : ∀ b o, C.hb.get? b = some o → s'.heap.get? b = some o := fun b o q => hx.heap b o (hbase b o q) fun m => by rw [hbw b m] at q; cases q
    have hacc' : RepAllN (fun _ => False) s'.heap (ds.take (i + 1)) (acc.push v).toList := by
      rw [List.take_add_one, hd, Array.toList_push]
      exact (reps hacc (W.wrf _ _ _ hst) fun b o q m => hx.heap b o q m).append (.cons rv .nil)
    refine wpAny_updateSeq hS' rfl (wpAny_pure ⟨plainId_quiet F.plain_extend_loop _, ih (i + 1) wr' _ (acc.push v) _ (by lia) hlt
      (W.frame i wr' s' _ hst' (fun b o q hdep => ?_) (fun _ _ => rfl) (fun b o q => hoth b o (fun h => by subst h; rw [hb] at q; cases q) (hbase' b o q)) (hx.bare hbare)) hSw'
      (Heap.get?_update_self _ hS' rfl) ?_ (fun b o q => hoth b o (fun h => by subst h; rw [hb] at q; cases q) (hbase' b o q)) (fun b m => ?_) (hx.bare hbare) fun s'' acc'' c'' hl hS'' hr => ?_⟩) (by rw [hasz]; unfold sizeLine; lia) (by show (acc.push v).size ≤ sizeLine + 1; rw [Array.size_push, hasz]; unfold sizeLine; lia)
    · refine hoth b o (fun h => ?_) q
      subst h
      rcases hdep with m | ⟨_, t | t⟩
      · exact hSw' m
      · rw [hS'] at q; cases q; simp at t
      · exact t
    · refine hacc'.stable fun b o q d f => hoth b o (fun h => ?_) q
      subst h
      rcases f with f | f
      · rw [hS'] at q; cases q; simp at f
      · exact f
    · rcases hnw b m with g | g
      · exact hbw b g
      · cases q : C.hb.get? b with
        | none => rfl
        | some o => rw [hbase b o q] at g; cases g
    · refine hR s'' acc'' c'' ⟨fun b o q m hne => hl.heap b o (hoth b o hne (hx.heap b o q m)) (fun m' => (hnw b m').elim m fun g => by rw [q] at g; cases g) hne, hl.os.trans hx.os, fun j y q m => hl.gens j y (hx.gens j y q m) m, fun q => hl.bare (hx.bare q)⟩ hS'' hr
end
end

-- text MGen6
section


open Builtin Builtin.Str
section
variable {C : Cx} {A : Around} {s : Shared}

theorem call_list_genV {I : Addr} {gs : List Nat} {ds : List PyData} {wr : List Addr} {St : Nat → List Addr → Shared → Prop} {Q : Value → Shared → Prop} (W : WalkV C A.in1.in1 I gs (fun _ => False) ds St) (hT : s.TypeIs (.ref I) "generator") (hgen : ∃ g, s.heap.IsGen I g) (hn : ds.length ≤ 1000)
    (hbase : ∀ b o, C.hb.get? b = some o → s.heap.get? b = some o) (hbare : AllBare s.gens) (hwr : ∀ b ∈ wr, ∃ o, s.heap.get? b = some o) (hwb : ∀ b ∈ wr, C.hb.get? b = none)
    (hst : ∀ h', (∀ b o, s.heap.get? b = some o → h'.get? b = some o) → h'.objs.size = s.heap.objs.size + 1 → St 0 wr { s with heap := h' })
    (hQ : ∀ s' acc c, Lx wr gs s.heap.objs.size s s' → s'.heap.get? s.heap.objs.size = some { cls := .type "list", dict := none, data := .seq acc c, slots := #[] } → RepAllN (fun _ => False) s'.heap ds acc.toList → Q (.ref s.heap.objs.size) s') :
    wpAny (model C.prog C.w) A (call (.type "list") [.ref I]) Q F0 s := by
  have hSI : s.heap.objs.size ≠ I := by
    obtain ⟨o, ho, _⟩ := hT; exact Nat.ne_of_gt (Heap.lt_size ho)
  have hSw : s.heap.objs.size ∉ wr := fun m => by obtain ⟨o, ho⟩ := hwr _ m; exact Nat.lt_irrefl _ (Heap.lt_size ho)
  have hbS : C.hb.get? s.heap.objs.size = none := by
    cases q : C.hb.get? s.heap.objs.size with
    | none => rfl
    | some o => exact absurd (Heap.lt_size (hbase _ _ q)) (Nat.lt_irrefl _)
  refine callType_codes (Q₁ := fun obj s₁ => obj = .ref s.heap.objs.size ∧ s₁ = { s with heap := s.heap.push { cls := .type "list", data := .seq #[] } }) F.called_list (F.typeCall_list_1 _) F.entry_list_init
    (code_list_new _ ⟨rfl, rfl⟩) fun obj s₁ h₁ => ?_
  obtain ⟨rfl, rfl⟩ := h₁
  have hS : (s.heap.push { cls := .type "list", data := .seq #[] }).get? s.heap.objs.size = some { cls := .type "list", data := .seq #[] } := Heap.get?_push_size _ rfl
  have hT1 : ∀ h' : Heap, (∀ b o, s.heap.get? b = some o → h'.get? b = some o) → ({ s with heap := h' } : Shared).TypeIs (.ref I) "generator" := fun h' hk => by
    obtain ⟨o, ho, hc⟩ := hT; exact ⟨o, hk _ _ ho, hc⟩
  refine ⟨⟨_, hS, rfl⟩, F.args_list_init_2 _ _, ?_⟩
  generalize hH : s.heap.push { cls := .type "list", data := .seq #[] } = H at hS ⊢
  have hkH : ∀ b o, s.heap.get? b = some o → H.get? b = some o := fun b o q => by rw [← hH]; exact Heap.get?_push_of_some _ q
  have hzH : H.objs.size = s.heap.objs.size + 1 := by rw [← hH, Heap.size_push]
  generalize hSx : s.heap.objs.size = Sx at *
  show wpAny _ _ (do let old ← Builtin.List.listItems (.ref Sx); Builtin.List.listUpdate (.ref Sx) (fun _ => #[]); letGo old.toList.reverse; Builtin.List.listExtendWith (.ref Sx) (.ref I) .none) _ _ _
  refine wpAny_bind ?_
  unfold Builtin.List.listItems
  refine wpAny_bind (wpAny_seqItems hS rfl (wpAny_pure ?_))
  show wpAny _ _ (updateSeq Sx (fun _ => #[]) >>= fun _ => letGo (#[] : Array Value).toList.reverse >>= fun _ => Builtin.List.listExtendWith (.ref Sx) (.ref I) .none) _ _ _
  refine wpAny_bind (wpAny_updateSeq hS rfl ?_)
  have hS₂ := Heap.get?_update_self (Obj.mapSeq (fun _ => (#[] : Array Value))) hS rfl
  have oth : ∀ b o, s.heap.get? b = some o → (H.update Sx (Obj.mapSeq (fun _ => (#[] : Array Value)))).get? b = some o := fun b o q =>
    (Heap.get?_update_other _ _ (fun h : Sx = b => by subst h; have := Heap.lt_size q; rw [hSx] at this; exact Nat.lt_irrefl _ this)).trans (hkH b o q)
  have hz₂ : (H.update Sx (Obj.mapSeq (fun _ => (#[] : Array Value)))).objs.size = Sx + 1 := by rw [Heap.size_after_update]; exact hzH
  generalize H.update Sx (Obj.mapSeq (fun _ => (#[] : Array Value))) = H2 at *
  refine wpAny_bind (wpAny_letGo ?_)
  unfold Builtin.List.listExtendWith
  refine wpAny_bind (wpAny_typeOf (hT1 _ oth) ?_)
  have h1 : Builtin.List.listSameRef (.ref Sx) (.ref I) = false := by simp [Builtin.List.listSameRef, hSI]
  have h2 : (Value.type "generator" == Value.type "list") = false := by decide
  have h3 : (Value.type "generator" == Value.type "tuple") = false := by decide
  simp only [h1, h2, h3, Bool.or_false, Bool.false_eq_true, if_false]
  obtain ⟨g, hg⟩ := hgen
  refine wpAny_bind (wpAny_pyIter_gen (hg.keeps oth) ?_)
  refine wpAny_bind (wpAny_holding ?_)
  unfold Builtin.List.listLengthHint
  refine wpAny_bind (wpAny_specialOf (hT1 _ oth) F.gen_no_len ?_)
  show wpAny _ _ (specialOf (Value.ref I) (Str.ofString "__length_hint__") >>= _) _ _ _
  refine wpAny_bind (wpAny_specialOf (hT1 _ oth) F.gen_no_hint ?_)
  refine wpAny_pure ?_
  show wpAny _ _ (rule "list.extend.makes-room" >>= fun _ => Builtin.List.listTouch (.ref Sx) >>= fun _ =>
    again (.builtin "list.extend.loop" ⟨[.ref Sx, .ref I, .none], []⟩)) _ _ _
  refine wpAny_bind (wpAny_rule ?_)
  refine wpAny_bind ?_
  show wpAny _ _ (updateSeq Sx (·.push .none) >>= fun _ => updateSeq Sx (·.pop)) _ _ _
  refine wpAny_bind (wpAny_updateSeq hS₂ rfl ?_)
  have hS₃ := Heap.get?_update_self (Obj.mapSeq (·.push Value.none)) hS₂ rfl
  refine wpAny_updateSeq (hz := by seq_fits) hS₃ rfl ?_
  have hS₄ := Heap.get?_update_self (Obj.mapSeq (·.pop)) hS₃ rfl
  have oth4 : ∀ b o, s.heap.get? b = some o → ((H2.update Sx (Obj.mapSeq (·.push Value.none))).update Sx (Obj.mapSeq (·.pop))).get? b = some o := fun b o q => by
    have hne : Sx ≠ b := fun h => by subst h; have := Heap.lt_size q; rw [hSx] at this; exact Nat.lt_irrefl _ this
    exact (Heap.get?_update_other _ _ hne).trans ((Heap.get?_update_other _ _ hne).trans (oth b o q))
  have hz₄ : ((H2.update Sx (Obj.mapSeq (·.push Value.none))).update Sx (Obj.mapSeq (·.pop))).objs.size = Sx + 1 := by rw [Heap.size_after_update, Heap.size_after_update]; exact hz₂
  refine wpAny_pure ⟨plainId_quiet F.plain_extend_loop _, extend_gen (St := St) W hn hbS _ 0 wr _ _ _ rfl (Nat.zero_le _) (hst _ oth4 hz₄) hSw hS₄ .nil (fun b o q => oth4 b o (hbase b o q)) hwb hbare fun s' acc' c' hl hS' hr => ?_⟩
  refine ⟨rfl, hQ s' acc' c' ⟨fun b o q m hne => hl.heap b o (oth4 b o q) m hne, hl.os, hl.gens, hl.bare⟩ hS' hr⟩
end
section
variable {C : Cx} {k : Nat} {sc : Scope} {nm : List Str} {Γ : List Slot}
theorem Ev.listGen {fpos pos fpos2 pos2 : Pos} {arg : Expr} {x : List Nat} (P : Pg C) (has : strIterType (tx x) = "str_ascii_iterator") (hx0 : sc.names.lookup ("list" : Str) = some .globalImplicit) (hx : sc.names.lookup ("_iter_escaped_chars" : Str) = some .globalImplicit) (h : Ev C k sc nm Γ arg (S x)) (hk4 : 4 ≤ k) (hn : x.length ≤ 500)
    (hp : ∀ e, (backTo pos2 (starEach [arg] e)).any (·.1) = false := by intro _; rfl) (he : ∀ e, starEach [arg] e = (false, eval arg e) :: starEach [] e := by intro _; rfl) :
    Ev C k sc nm Γ (.Call (.Name "list" fpos) [.Call (.Name "_iter_escaped_chars" fpos2) [arg] [] pos2] [] pos) (.list (escD x)) := by
  refine ⟨?_⟩; intro A e N Sg s ao E ok
  obtain ⟨a, F⟩ := P.fn 4 (by decide)
  have hk : e.scope.kind = .function := by rw [E.scope]; exact E.kind
  obtain ⟨o, pm, cd, doc, ho, hd, _⟩ := F.at_
  show wpAny _ A (do callWith pos (← eval (.Name "list" fpos) e) [] (backTo pos (starEach [.Call (.Name "_iter_escaped_chars" fpos2) [arg] [] pos2] e)) (backToKw pos (keywordEach [] e))) _ _ s
  refine wpAny_bind (Calls.Name_function_global hk (by unfold Env.kindOf; rw [E.scope]; exact hx0) ?_ (by decide))
  refine Calls.loadGlobal_builtin (v := .type "list") (by rw [E.glob]; exact P.B.W.g.keeps ok.base) (P.B.no _ (by decide +kernel)) (by rw [E.blt]; exact P.B.W.b.keeps ok.base) ((P.B.W.bts _ (by decide)).trans (by decide +kernel)) ?_
  refine PyProof.Rows.callWith_type (by rfl) (evalArgs_any (by rfl) (wpAny_items_cons ?_ (by rfl)))
  show wpAny _ A (do callWith pos2 (← eval (.Name "_iter_escaped_chars" fpos2) e) [] (backTo pos2 (starEach [arg] e)) (backToKw pos2 (keywordEach [] e))) _ _ s
  refine wpAny_bind (Calls.Name_function_global hk (by unfold Env.kindOf; rw [E.scope]; exact hx) ?_ (by decide))
  refine Calls.loadGlobal_global (by rw [E.glob]; exact P.B.W.g.keeps ok.base) F.g ?_
  refine Calls.callWith_function (o := o) (args_ (.cons h .nil he) ao E ok (hp e) fun vs s₂ r₂ k₂ o₂ => ⟨⟨o₂.base _ _ ho, hd⟩, ?_⟩)
  obtain ⟨v, w, rfl, r1, r2⟩ := r₂.cons_inv
  obtain rfl := r2.nil_inv
  refine wp_keep (gen_call P F (ao.weaken (by lia)) o₂.base o₂.bare (r1.flat rfl)) fun r s₃ h₃ => wpAny_items_nil ?_
  obtain ⟨I, ge, g, rfl, G⟩ := h₃
  have kk := k₂.trans G.kp
  have o₃ := o₂.kp G.kp
  have hbn : ∀ b, s₃.heap.objs.size ≤ b → C.hb.get? b = none := fun b q => by
    cases q' : C.hb.get? b with
    | none => rfl
    | some ob => have := o₃.base b ob q'; rw [get_none q] at this; cases this
  have hbI : ∀ b, s₂.heap.get? b = none → C.hb.get? b = none := fun b q => by
    cases q' : C.hb.get? b with
    | none => rfl
    | some ob => have := o₂.base b ob q'; rw [q] at this; cases this
  have ao2 : AOk 3 A.in1.in1 := ⟨ao.hd, by have := ao.dp; show A.depth + 3 ≤ 900; lia, by have := ao.un; show A.units + 1 + 1 + 100 * 3 ≤ 9500; lia⟩
  have W := walk_gen P has ao2 G.env G.nc (I := I) (g := g) (sz := s₃.heap.objs.size + 1) G.ne (Nat.lt_succ_of_lt G.lI) (Nat.lt_succ_of_lt G.lL) (hbn _ (Nat.le_succ _)) (hbn _ (Nat.le_succ_of_le (Nat.le_succ _)))
  have hlen : ∀ (r : List Nat) (i : Nat) (b : Bool), (escL i b r).length ≤ r.length + 1 := by
    intro r
    induction r with
    | nil => intro i b; cases b <;> simp [escL]
    | cons c r ih =>
      intro i b
      cases b with
      | true => simp only [escL, List.length_cons]; have := ih (i + 1) false; lia
      | false =>
        simp only [escL]
        split
        · have := ih (i + 1) true; simp only [List.length_cons]; lia
        · simp only [List.length_cons]; have := ih (i + 1) false; lia
  refine call_list_genV (wr := [I, ge.locals]) W G.gen.typeIs ⟨g, G.gen⟩ (by unfold escD; rw [List.length_map]; have := hlen x 0 false; lia) o₃.base o₃.bare (fun b m => ?_) (fun b m => ?_) (fun h' hk' hz' => ⟨rfl, hz', G.gen.keeps hk', G.gs, G.ok.kp (.of (t := s₃.toks) hk')⟩) fun s₄ acc c hl hS hr => ?_
  · simp only [List.mem_cons, List.mem_nil_iff, or_false] at m
    rcases m with rfl | rfl
    · obtain ⟨o, _, _, h1, _⟩ := G.gen; exact ⟨o, h1⟩
    · obtain ⟨o, h1, _⟩ := ok_live G.ok; exact ⟨o, h1⟩
  · simp only [List.mem_cons, List.mem_nil_iff, or_false] at m
    rcases m with rfl | rfl
    · exact hbI _ G.fI
    · exact hbI _ G.fL
  · have hfr := o₃.fresh s₃.heap.objs.size (get_new _)
    refine ⟨.list (vs := acc.toList) hfr ⟨c, by simpa using hS⟩ (hr.mono fun _ f => f.elim), ⟨fun b ob q => ?_, hl.os.trans kk.os, fun j y q => hl.gens j y (kk.gens j y q) (fun m => ?_), fun q => hl.bare (kk.bare q)⟩⟩
    · refine hl.heap b ob (kk.heap b ob q) (fun m => ?_) (fun h => ?_)
      · simp only [List.mem_cons, List.mem_nil_iff, or_false] at m
        rcases m with rfl | rfl
        · rw [k₂.fresh G.fI] at q; cases q
        · rw [k₂.fresh G.fL] at q; cases q
      · subst h; have := kk.heap _ _ q; rw [get_new] at this; cases this
    · have hj : j = g := by simpa using m
      subst hj
      have := k₂.gens _ y q; rw [G.fg] at this; cases this
end
end

-- text MZip
section


open Builtin Builtin.Str
theorem zip_no_len : typeLookup (.type "zip") "__len__" = pure none := by rw [typeLookup_type, builtinLookup_eq_fast]; kernel_rfl
theorem zip_no_hint : typeLookup (.type "zip") "__length_hint__" = pure none := by rw [typeLookup_type, builtinLookup_eq_fast]; kernel_rfl

abbrev IsZ2 (h : Heap) (z TI TO : Addr) (f0 : Value) (b : Bool) : Prop :=
  h.get? z = some { cls := .type "zip", dict := none, data := .fields #[f0, .bool b, .bool false, .ref TI, .ref TO], slots := #[] }

section
variable {prog : Program} {w : World} {A : Around} {E : Value → Shared → Prop} {s : Shared}
theorem wpAny_loadIfAlive {M : Model} {a : Addr} {o : Obj} {Q : Option Obj → Shared → Prop} (ho : s.heap.get? a = some o) (h : Q (some o) s) : wpAny M A (loadIfAlive a) Q E s := fun Γ p _ => by
  unfold loadIfAlive
  rw [Sem.wp_loadIfAlive, ho]
  exact h

theorem own_no {z TI TO T : Addr} {oT : Obj} {b1 : Bool} (hT : s.heap.get? T = some oT) (hz : IsZ2 s.heap z TI TO (rawInt T) b1) :
    wpAny (model prog w) A (Builtin.SmallTypes.ownedTupleIsFree (.ref z)) (fun r s' => r = false ∧ ∃ h₁, s' = { s with heap := h₁ } ∧ IsZ2 h₁ z TI TO (rawInt T) true ∧ Heap.SameBut z s.heap h₁) F0 s := by
  unfold Builtin.SmallTypes.ownedTupleIsFree
  refine wpAny_bind (wpAny_field hz rfl (x := rawInt T) rfl ?_)
  show wpAny _ _ (loadIfAlive ((T : Int).toNat) >>= _) _ _ _
  rw [Int.toNat_natCast]
  refine wpAny_bind (wpAny_loadIfAlive hT ?_)
  cases b1 with
  | true =>
    show wpAny _ _ (field (.ref z) 1 >>= _) _ _ _
    refine wpAny_bind (wpAny_field hz rfl (x := .bool true) rfl ?_)
    rw [if_neg (by decide)]
    exact wpAny_pure ⟨rfl, s.heap, rfl, hz, .refl _ _⟩
  | false =>
    show wpAny _ _ (field (.ref z) 1 >>= _) _ _ _
    refine wpAny_bind (wpAny_field hz rfl (x := .bool false) rfl ?_)
    rw [if_pos (by decide)]
    refine wpAny_bind (wpAny_setField_rec hz (by simp) fun h₁ hz₁ hs₁ => ?_)
    exact wpAny_pure ⟨rfl, h₁, rfl, hz₁, hs₁⟩

structure ZSt (z TI TO i1 i2 l1 l2 : Addr) (xs ys : Array Value) (i : Nat) (h : Heap) : Prop where
  z : (IsZip h z TI TO .none ∨ ∃ T o b, h.get? T = some o ∧ T ≠ z ∧ T ≠ i1 ∧ T ≠ i2 ∧ IsZ2 h z TI TO (rawInt T) b)
  ti : IsPair h TI (.ref i1) (.ref i2)
  to : ∃ a b, IsPair h TO a b
  i1 : h.IsListIter i1 l1 i
  i2 : h.IsListIter i2 l2 i
  l1 : h.IsList l1 xs
  l2 : h.IsList l2 ys

theorem zip_item {z TI TO i1 i2 l1 l2 : Addr} {i : Nat} {xs ys : Array Value} {x y : Value} {Q : Option Value → Shared → Prop} (D : ZipApart z TI TO i1 i2 l1 l2) (Z : ZSt z TI TO i1 i2 l1 l2 xs ys i s.heap) (hx : xs[i]? = some x) (hy : ys[i]? = some y)
    (hQ : ∀ h', ZSt z TI TO i1 i2 l1 l2 xs ys (i + 1) h' → IsPair h' s.heap.objs.size x y → (∀ c o, c ≠ z → c ≠ TO → c ≠ i1 → c ≠ i2 → s.heap.get? c = some o → h'.get? c = some o) → Q (some (.ref s.heap.objs.size)) { s with heap := h' }) :
    wpAny (model prog w) A (pyNext (.ref z)) Q E s := by
  obtain ⟨hz, hTI, ⟨a, b, hTO⟩, h1, h2, hl1, hl2⟩ := Z
  rcases hz with hz | ⟨T, oT, b1, hT, hTz, hT1, hT2, hz⟩
  · refine wpAny_pyNext_zip_item D hz hTI hTO h1 h2 hl1 hl2 hx hy fun h' a1 a2 a3 a4 a5 a6 hk => ?_
    have lt : ∀ {c o}, s.heap.get? c = some o → s.heap.objs.size ≠ c := fun e => Nat.ne_of_gt (Heap.lt_size e)
    exact hQ h' ⟨.inr ⟨_, _, false, a5, lt hz, (by obtain ⟨_, e, _⟩ := h1; exact lt e), (by obtain ⟨_, e, _⟩ := h2; exact lt e), a1⟩, hk _ _ D.TIz D.TITO D.TIi1 D.TIi2 hTI, ⟨_, _, a2⟩, a3, a4, hl1.at fun o e => hk _ o D.l1z D.l1TO D.l1i1 D.l1i2 e, hl2.at fun o e => hk _ o D.l2z D.l2TO D.l2i1 D.l2i2 e⟩ a5 hk
  · have hTy : s.TypeIs (.ref z) "zip" := ⟨_, hz, rfl⟩
    unfold pyNext
    refine wpAny_bind (wpAny_attempt (wpAny_callSpecial?_slot (name := Str.ofString "__next__") hTy F.slot_zip_next
      (wpAny_call_entry F.slot_zip_next hTy F.entry_zip_next ?_ (F.args_zip_next_1 _))))
    show wpAny _ _ (field (.ref z) 2 >>= _) _ _ _
    refine wpAny_bind (wpAny_field hz rfl (x := .bool false) rfl ?_)
    show wpAny _ _ (field (.ref z) 3 >>= _) _ _ _
    refine wpAny_bind (wpAny_field hz rfl (x := .ref TI) rfl ?_)
    refine wpAny_bind (wpAny_seqItems hTI rfl ?_)
    show wpAny _ _ (Builtin.SmallTypes.ownedTupleIsFree (.ref z) >>= _) _ _ _
    refine wpAny_bind (wpAny_mono (own_no hT hz) (fun r s' h => ?_) (fun _ _ x => x.elim))
    obtain ⟨rfl, h₁, rfl, hz₁, hs₁⟩ := h
    rw [if_neg (by decide)]
    simp only [List.forIn_toArray, List.forIn_cons, List.forIn_nil]
    refine wpAny_bind ?_
    refine wpAny_bind (wpAny_bind (wpAny_holding ?_))
    show wpAny _ _ (Builtin.SmallTypes.nextOf (.ref i1) >>= _) _ _ _
    refine wpAny_bind (wpAny_nextOf_list_item (h1.extBut hs₁.extBut D.i1z) (hl1.extBut hs₁.extBut D.l1z) hx fun h₂ h1₂ hs₂ => wpAny_pure (wpAny_pure ?_))
    refine wpAny_bind (wpAny_bind (wpAny_holding ?_))
    show wpAny _ _ (Builtin.SmallTypes.nextOf (.ref i2) >>= _) _ _ _
    refine wpAny_bind (wpAny_nextOf_list_item ((h2.extBut hs₁.extBut D.i2z).extBut hs₂.extBut D.i12.symm) ((hl2.extBut hs₁.extBut D.l2z).extBut hs₂.extBut D.l2i1) hy fun h₄ h2₄ hs₄ => wpAny_pure (wpAny_pure (wpAny_pure ?_)))
    refine wpAny_bind (wpAny_newTuple (hsz := by simp [sizeLine]) ?_)
    have hsz : h₄.objs.size = s.heap.objs.size := by rw [hs₄.1, hs₂.1, hs₁.1]
    have hk₄ : ∀ c o, c ≠ z → c ≠ i1 → c ≠ i2 → s.heap.get? c = some o → h₄.get? c = some o := fun c o c1 c3 c4 e => hs₄.extBut _ _ c4 (hs₂.extBut _ _ c3 (hs₁.extBut _ _ c1 e))
    refine wpAny_pure ⟨_, rfl, wpAny_pure ?_⟩
    show Q (some (.ref h₄.objs.size)) { s with heap := h₄.push { cls := .type "tuple", data := .seq #[x, y] } }
    have hup : ∀ c o, h₄.get? c = some o → (h₄.push { cls := .type "tuple", data := .seq #[x, y] }).get? c = some o := fun c o e => Heap.get?_push_of_some _ e
    have hnew : IsPair (h₄.push { cls := .type "tuple", data := .seq #[x, y] }) s.heap.objs.size x y := by rw [← hsz]; exact Heap.get?_push_size _ rfl
    rw [hsz]
    refine hQ _ ⟨.inr ⟨T, oT, true, hup _ _ (hk₄ _ _ hTz hT1 hT2 hT), hTz, hT1, hT2, hup _ _ (hs₄.extBut _ _ D.i2z.symm (hs₂.extBut _ _ D.i1z.symm hz₁))⟩, hup _ _ (hk₄ _ _ D.TIz D.TIi1 D.TIi2 hTI), ⟨a, b, hup _ _ (hk₄ _ _ D.TOz D.TOi1 D.TOi2 hTO)⟩,
      (h1₂.extBut hs₄.extBut D.i12).at fun o e => hup _ o e, h2₄.at fun o e => hup _ o e, hl1.at fun o e => hup _ o (hk₄ _ o D.l1z D.l1i1 D.l1i2 e), hl2.at fun o e => hup _ o (hk₄ _ o D.l2z D.l2i1 D.l2i2 e)⟩ hnew fun c o c1 _ c3 c4 e => hup _ _ (hk₄ c o c1 c3 c4 e)

theorem zip_done {z TI TO i1 i2 l1 l2 : Addr} {i : Nat} {xs ys : Array Value} {Q : Option Value → Shared → Prop} (hh : A.handled = none) (D : ZipApart z TI TO i1 i2 l1 l2) (Z : ZSt z TI TO i1 i2 l1 l2 xs ys i s.heap) (hx : xs[i]? = none)
    (hQ : ∀ h', (∀ c o, c ≠ z → c ≠ TO → c ≠ i1 → c ≠ i2 → s.heap.get? c = some o → h'.get? c = some o) → Q none { s with heap := h' }) :
    wpAny (model prog w) A (pyNext (.ref z)) Q E s := by
  obtain ⟨hz, hTI, ⟨a, b, hTO⟩, h1, h2, hl1, hl2⟩ := Z
  rcases hz with hz | ⟨T, oT, b1, hT, hTz, hT1, hT2, hz⟩
  · exact wpAny_pyNext_zip_end hh D hz hTI hTO h1 h2 hl1 hl2 (.inl hx) hQ
  · have hTy : s.TypeIs (.ref z) "zip" := ⟨_, hz, rfl⟩
    unfold pyNext
    refine wpAny_bind (wpAny_attempt (wpAny_callSpecial?_slot (name := Str.ofString "__next__") hTy F.slot_zip_next
      (wpAny_call_entry F.slot_zip_next hTy F.entry_zip_next ?_ (F.args_zip_next_1 _))))
    show wpAny _ _ (field (.ref z) 2 >>= _) _ _ _
    refine wpAny_bind (wpAny_field hz rfl (x := .bool false) rfl ?_)
    show wpAny _ _ (field (.ref z) 3 >>= _) _ _ _
    refine wpAny_bind (wpAny_field hz rfl (x := .ref TI) rfl ?_)
    refine wpAny_bind (wpAny_seqItems hTI rfl ?_)
    show wpAny _ _ (Builtin.SmallTypes.ownedTupleIsFree (.ref z) >>= _) _ _ _
    refine wpAny_bind (wpAny_mono (own_no hT hz) (fun r s' h => ?_) (fun _ _ x => x.elim))
    obtain ⟨rfl, h₁, rfl, hz₁, hs₁⟩ := h
    rw [if_neg (by decide)]
    simp only [List.forIn_toArray, List.forIn_cons, List.forIn_nil]
    refine wpAny_bind ?_
    refine wpAny_bind (wpAny_bind (wpAny_holding ?_))
    show wpAny _ _ (Builtin.SmallTypes.nextOf (.ref i1) >>= _) _ _ _
    refine wpAny_bind (wpAny_nextOf_list_end hh (h1.extBut hs₁.extBut D.i1z) (hl1.extBut hs₁.extBut D.l1z) hx fun h₂ e hs₂ he => ?_)
    obtain ⟨oe, hoe, hce⟩ := he
    refine wpAny_bind (wpAny_isInstance (T := "StopIteration") (b := true) ⟨oe, hoe, hce⟩ isSubtype_stop ?_)
    exact wpAny_pure (hQ _ fun c o c1 _ c3 _ x => hs₂ _ _ c3 (hs₁.extBut _ _ c1 x))
end
end

-- text MZip2
section


open Builtin Builtin.Str
section
variable {prog : Program} {w : World} {A : Around} {s : Shared}

structure Zx (z TO i1 i2 Sx : Addr) (s s' : Shared) : Prop where
  heap : ∀ c o, c ≠ z → c ≠ TO → c ≠ i1 → c ≠ i2 → c ≠ Sx → s.heap.get? c = some o → s'.heap.get? c = some o
  os : s'.os = s.os
  gens : s'.gens = s.gens

def ZAcc (z TO i1 i2 Sx : Addr) (xs ys acc : Array Value) (h : Heap) : Prop := ∀ (j : Nat) (v : Value), acc[j]? = some v → ∃ T x y, v = .ref T ∧ xs[j]? = some x ∧ ys[j]? = some y ∧ IsPair h T x y ∧ T ≠ z ∧ T ≠ TO ∧ T ≠ i1 ∧ T ≠ i2 ∧ T ≠ Sx

theorem extend_zip {z TI TO i1 i2 l1 l2 Sx : Addr} {xs ys : Array Value} {res : Value} {R : Result → Shared → Prop} (hh : A.handled = none) (D : ZipApart z TI TO i1 i2 l1 l2) (hn : xs.size ≤ 1000) (hxy : xs.size = ys.size)
    (hS : Sx ≠ z ∧ Sx ≠ TO ∧ Sx ≠ i1 ∧ Sx ≠ i2 ∧ Sx ≠ TI ∧ Sx ≠ l1 ∧ Sx ≠ l2) :
    ∀ (k i : Nat) (s : Shared) (acc : Array Value) (c : Nat), xs.size - i = k → i ≤ xs.size → ZSt z TI TO i1 i2 l1 l2 xs ys i s.heap → s.heap.get? Sx = some { cls := .type "list", dict := none, data := .seq acc c, slots := #[] } → acc.size = i → ZAcc z TO i1 i2 Sx xs ys acc s.heap →
      (∀ s' acc' c', Zx z TO i1 i2 Sx s s' → s'.heap.get? Sx = some { cls := .type "list", dict := none, data := .seq acc' c', slots := #[] } → acc'.size = xs.size → ZAcc z TO i1 i2 Sx xs ys acc' s'.heap → R (.ok (.ret res)) s') →
      codeAny (model prog w) A (.builtin "list.extend.loop" ⟨[.ref Sx, .ref z, res], []⟩) R s := by
  obtain ⟨hSz, hSTO, hS1, hS2, hSTI, hSl1, hSl2⟩ := hS
  intro k
  induction k with
  | zero =>
    intro i s acc c hk hi hZ hSx has hacc hR
    have hin : i = xs.size := by lia
    subst hin
    refine codeAny_builtin F.entry_extend_loop ?_
    rw [Around.under_plainId F.plain_extend_loop _]
    show wpAny _ A.in1 (pyNext (.ref z) >>= _) _ _ s
    refine wpAny_bind (zip_done (A := A.in1) hh D hZ (by simp) fun h' hk' => ?_)
    refine wpAny_pure (hR _ acc c ⟨fun c o c1 c2 c3 c4 _ q => hk' c o c1 c2 c3 c4 q, rfl, rfl⟩ (hk' _ _ hSz hSTO hS1 hS2 hSx) has fun j v hj => ?_)
    obtain ⟨T, x, y, h1, h2, h3, h4, t1, t2, t3, t4, t5⟩ := hacc j v hj
    exact ⟨T, x, y, h1, h2, h3, hk' _ _ t1 t2 t3 t4 h4, t1, t2, t3, t4, t5⟩
  | succ k ih =>
    intro i s acc c hk hi hZ hSx has hacc hR
    have hlt : i < xs.size := by lia
    refine codeAny_builtin F.entry_extend_loop ?_
    rw [Around.under_plainId F.plain_extend_loop _]
    show wpAny _ A.in1 (pyNext (.ref z) >>= _) _ _ s
    refine wpAny_bind (zip_item (A := A.in1) D hZ (Array.getElem?_eq_getElem hlt) (Array.getElem?_eq_getElem (show i < ys.size by lia)) fun h' hZ' hT hk' => ?_)
    have hSx' := hk' _ _ hSz hSTO hS1 hS2 hSx
    show wpAny _ A.in1 (updateSeq Sx (·.push (.ref s.heap.objs.size)) >>= _) _ _ _
    have lt : ∀ {c o}, s.heap.get? c = some o → s.heap.objs.size ≠ c := fun e => Nat.ne_of_gt (Heap.lt_size e)
    have hoth : ∀ b o, b ≠ Sx → h'.get? b = some o → (h'.update Sx (Obj.mapSeq (·.push (.ref s.heap.objs.size)))).get? b = some o := fun b o hb q => (Heap.get?_update_other _ _ (Ne.symm hb)).trans q
    have hzl : s.heap.objs.size ≠ z := by
      rcases hZ.z with q | ⟨_, _, _, _, _, _, _, q⟩
      · exact lt q
      · exact lt q
    have hTOl : s.heap.objs.size ≠ TO := by obtain ⟨_, _, q⟩ := hZ.to; exact lt q
    have h1l : s.heap.objs.size ≠ i1 := by obtain ⟨_, q, _⟩ := hZ.i1; exact lt q
    have h2l : s.heap.objs.size ≠ i2 := by obtain ⟨_, q, _⟩ := hZ.i2; exact lt q
    refine wpAny_bind ?_
    refine wpAny_updateSeq hSx' rfl (wpAny_pure ⟨plainId_quiet F.plain_extend_loop _, ih (i + 1) _ (acc.push (.ref s.heap.objs.size)) _ (by lia) hlt ?_ (Heap.get?_update_self _ hSx' rfl) (by rw [Array.size_push, has]) ?_ fun s'' acc'' c'' hl h1 h2 h3 => ?_⟩) (by rw [has]; unfold sizeLine; lia) (by show (acc.push _).size ≤ sizeLine + 1; rw [Array.size_push, has]; unfold sizeLine; lia)
    · obtain ⟨z1, z2, ⟨a, b, z3⟩, z4, z5, z6, z7⟩ := hZ'
      refine ⟨?_, hoth _ _ (Ne.symm hSTI) z2, ⟨a, b, hoth _ _ (Ne.symm hSTO) z3⟩, z4.at fun o e => hoth _ o (Ne.symm hS1) e, z5.at fun o e => hoth _ o (Ne.symm hS2) e, z6.at fun o e => hoth _ o (Ne.symm hSl1) e, z7.at fun o e => hoth _ o (Ne.symm hSl2) e⟩
      rcases z1 with q | ⟨T, o, b, q1, q2, q3, q4, q5⟩
      · exact .inl (hoth _ _ (Ne.symm hSz) q)
      · by_cases hTS : T = Sx
        · subst hTS
          exact .inr ⟨_, _, b, Heap.get?_update_self _ hSx' rfl, q2, q3, q4, hoth _ _ (Ne.symm hSz) q5⟩
        · exact .inr ⟨T, o, b, hoth _ _ hTS q1, q2, q3, q4, hoth _ _ (Ne.symm hSz) q5⟩
    · intro j v hj
      rw [Array.getElem?_push] at hj
      split at hj
      · rename_i e
        cases hj
        rw [has] at e
        subst e
        exact ⟨_, _, _, rfl, Array.getElem?_eq_getElem hlt, Array.getElem?_eq_getElem (show j < ys.size by lia), hoth _ _ (lt hSx) hT, hzl, hTOl, h1l, h2l, lt hSx⟩
      · obtain ⟨T, x, y, h1, h2, h3, h4, t1, t2, t3, t4, t5⟩ := hacc j v hj
        exact ⟨T, x, y, h1, h2, h3, hoth _ _ t5 (hk' _ _ t1 t2 t3 t4 h4), t1, t2, t3, t4, t5⟩
    · exact hR s'' acc'' c'' ⟨fun c o c1 c2 c3 c4 c5 q => hl.heap c o c1 c2 c3 c4 c5 (hoth _ _ c5 (hk' _ _ c1 c2 c3 c4 q)), hl.os, hl.gens⟩ h1 h2 h3

theorem call_list_zip {z TI TO i1 i2 l1 l2 : Addr} {xs ys : Array Value} {Q : Value → Shared → Prop} (hh : A.handled = none) (D : ZipApart z TI TO i1 i2 l1 l2) (hn : xs.size ≤ 1000) (hxy : xs.size = ys.size) (Z : ZSt z TI TO i1 i2 l1 l2 xs ys 0 s.heap) (hz : IsZip s.heap z TI TO .none)
    (hQ : ∀ s' acc c, Zx z TO i1 i2 s.heap.objs.size s s' → s'.heap.get? s.heap.objs.size = some { cls := .type "list", dict := none, data := .seq acc c, slots := #[] } → acc.size = xs.size → ZAcc z TO i1 i2 s.heap.objs.size xs ys acc s'.heap → Q (.ref s.heap.objs.size) s') :
    wpAny (model prog w) A (call (.type "list") [.ref z]) Q F0 s := by
  have lt : ∀ {c o}, s.heap.get? c = some o → s.heap.objs.size ≠ c := fun e => Nat.ne_of_gt (Heap.lt_size e)
  have hSz : s.heap.objs.size ≠ z := lt hz
  have hSne : s.heap.objs.size ≠ z ∧ s.heap.objs.size ≠ TO ∧ s.heap.objs.size ≠ i1 ∧ s.heap.objs.size ≠ i2 ∧ s.heap.objs.size ≠ TI ∧ s.heap.objs.size ≠ l1 ∧ s.heap.objs.size ≠ l2 := by
    refine ⟨hSz, ?_, ?_, ?_, lt Z.ti, ?_, ?_⟩
    · obtain ⟨_, _, q⟩ := Z.to; exact lt q
    · obtain ⟨_, q, _⟩ := Z.i1; exact lt q
    · obtain ⟨_, q, _⟩ := Z.i2; exact lt q
    · obtain ⟨_, q, _⟩ := Z.l1; exact lt q
    · obtain ⟨_, q, _⟩ := Z.l2; exact lt q
  refine callType_codes (Q₁ := fun obj s₁ => obj = .ref s.heap.objs.size ∧ s₁ = { s with heap := s.heap.push { cls := .type "list", data := .seq #[] } }) F.called_list (F.typeCall_list_1 _) F.entry_list_init
    (code_list_new _ ⟨rfl, rfl⟩) fun obj s₁ h₁ => ?_
  obtain ⟨rfl, rfl⟩ := h₁
  have hS : (s.heap.push { cls := .type "list", data := .seq #[] }).get? s.heap.objs.size = some { cls := .type "list", data := .seq #[] } := Heap.get?_push_size _ rfl
  refine ⟨⟨_, hS, rfl⟩, F.args_list_init_2 _ _, ?_⟩
  generalize hH : s.heap.push { cls := .type "list", data := .seq #[] } = H at hS ⊢
  have hkH : ∀ b o, s.heap.get? b = some o → H.get? b = some o := fun b o q => by rw [← hH]; exact Heap.get?_push_of_some _ q
  generalize hSx : s.heap.objs.size = Sx at *
  show wpAny _ _ (do let old ← Builtin.List.listItems (.ref Sx); Builtin.List.listUpdate (.ref Sx) (fun _ => #[]); letGo old.toList.reverse; Builtin.List.listExtendWith (.ref Sx) (.ref z) .none) _ _ _
  refine wpAny_bind ?_
  unfold Builtin.List.listItems
  refine wpAny_bind (wpAny_seqItems hS rfl (wpAny_pure ?_))
  show wpAny _ _ (updateSeq Sx (fun _ => #[]) >>= fun _ => letGo (#[] : Array Value).toList.reverse >>= fun _ => Builtin.List.listExtendWith (.ref Sx) (.ref z) .none) _ _ _
  refine wpAny_bind (wpAny_updateSeq hS rfl ?_)
  have hS₂ := Heap.get?_update_self (Obj.mapSeq (fun _ => (#[] : Array Value))) hS rfl
  have oth : ∀ b o, s.heap.get? b = some o → (H.update Sx (Obj.mapSeq (fun _ => (#[] : Array Value)))).get? b = some o := fun b o q => (Heap.get?_update_other _ _ (lt q)).trans (hkH b o q)
  generalize H.update Sx (Obj.mapSeq (fun _ => (#[] : Array Value))) = H2 at *
  refine wpAny_bind (wpAny_letGo ?_)
  unfold Builtin.List.listExtendWith
  have hT1 : ∀ h' : Heap, (∀ b o, s.heap.get? b = some o → h'.get? b = some o) → ({ s with heap := h' } : Shared).TypeIs (.ref z) "zip" := fun h' hk => ⟨_, hk _ _ hz, rfl⟩
  refine wpAny_bind (wpAny_typeOf (hT1 _ oth) ?_)
  have h1 : Builtin.List.listSameRef (.ref Sx) (.ref z) = false := by simp [Builtin.List.listSameRef, hSz]
  have h2 : (Value.type "zip" == Value.type "list") = false := by decide
  have h3 : (Value.type "zip" == Value.type "tuple") = false := by decide
  simp only [h1, h2, h3, Bool.or_false, Bool.false_eq_true, if_false]
  refine wpAny_bind (wpAny_pyIter_zip (oth _ _ hz) ?_)
  refine wpAny_bind (wpAny_holding ?_)
  unfold Builtin.List.listLengthHint
  refine wpAny_bind (wpAny_specialOf (hT1 _ oth) zip_no_len ?_)
  show wpAny _ _ (specialOf (Value.ref z) (Str.ofString "__length_hint__") >>= _) _ _ _
  refine wpAny_bind (wpAny_specialOf (hT1 _ oth) zip_no_hint ?_)
  refine wpAny_pure ?_
  show wpAny _ _ (rule "list.extend.makes-room" >>= fun _ => Builtin.List.listTouch (.ref Sx) >>= fun _ =>
    again (.builtin "list.extend.loop" ⟨[.ref Sx, .ref z, .none], []⟩)) _ _ _
  refine wpAny_bind (wpAny_rule ?_)
  refine wpAny_bind ?_
  show wpAny _ _ (updateSeq Sx (·.push .none) >>= fun _ => updateSeq Sx (·.pop)) _ _ _
  refine wpAny_bind (wpAny_updateSeq hS₂ rfl ?_)
  have hS₃ := Heap.get?_update_self (Obj.mapSeq (·.push Value.none)) hS₂ rfl
  refine wpAny_updateSeq (hz := by seq_fits) hS₃ rfl ?_
  have hS₄ := Heap.get?_update_self (Obj.mapSeq (·.pop)) hS₃ rfl
  have oth4 : ∀ b o, s.heap.get? b = some o → ((H2.update Sx (Obj.mapSeq (·.push Value.none))).update Sx (Obj.mapSeq (·.pop))).get? b = some o := fun b o q =>
    (Heap.get?_update_other _ _ (lt q)).trans ((Heap.get?_update_other _ _ (lt q)).trans (oth b o q))
  obtain ⟨z1, z2, ⟨a, b, z3⟩, z4, z5, z6, z7⟩ := Z
  refine wpAny_pure ⟨plainId_quiet F.plain_extend_loop _, extend_zip (A := A.in1) hh D hn hxy hSne _ 0 _ _ _ rfl (Nat.zero_le _) ⟨.inl (oth4 _ _ hz), oth4 _ _ z2, ⟨a, b, oth4 _ _ z3⟩, z4.at fun o e => oth4 _ o e, z5.at fun o e => oth4 _ o e, z6.at fun o e => oth4 _ o e, z7.at fun o e => oth4 _ o e⟩ hS₄ rfl (fun j v hj => by simp at hj) fun s' acc' c' hl hS' hsz hacc => ?_⟩
  exact ⟨rfl, hQ s' acc' c' ⟨fun c o c1 c2 c3 c4 c5 q => hl.heap c o c1 c2 c3 c4 c5 (oth4 c o q), hl.os, hl.gens⟩ hS' hsz hacc⟩
end
section
variable {C : Cx} {k : Nat} {sc : Scope} {nm : List Str} {Γ : List Slot}
theorem Ev.listZip {fpos pos fpos2 pos2 : Pos} {x y : Expr} {ns : List Int} {us : List (List Nat)} (B : Bl C) (hx0 : sc.names.lookup ("list" : Str) = some .globalImplicit) (hx : sc.names.lookup ("zip" : Str) = some .globalImplicit) (h1 : Ev C k sc nm Γ x (L ns)) (h2 : Ev C k sc nm Γ y (LS us)) (hl : ns.length = us.length) (hn : ns.length ≤ 500)
    (hp : ∀ e, (backTo pos2 (starEach [x, y] e)).any (·.1) = false := by intro _; rfl) (he : ∀ e, starEach [x, y] e = (false, eval x e) :: starEach [y] e := by intro _; rfl) (he2 : ∀ e, starEach [y] e = (false, eval y e) :: starEach [] e := by intro _; rfl) :
    Ev C k sc nm Γ (.Call (.Name "list" fpos) [.Call (.Name "zip" fpos2) [x, y] [] pos2] [] pos) (.list ((ns.zip us).map fun p => .tuple [.int p.1, S p.2])) := by
  refine ⟨?_⟩; intro A e N Sg s ao E ok
  have hk : e.scope.kind = .function := by rw [E.scope]; exact E.kind
  show wpAny _ A (do callWith pos (← eval (.Name "list" fpos) e) [] (backTo pos (starEach [.Call (.Name "zip" fpos2) [x, y] [] pos2] e)) (backToKw pos (keywordEach [] e))) _ _ s
  refine wpAny_bind (Calls.Name_function_global hk (by unfold Env.kindOf; rw [E.scope]; exact hx0) ?_ (by decide))
  refine Calls.loadGlobal_builtin (v := .type "list") (by rw [E.glob]; exact B.W.g.keeps ok.base) (B.no _ (by decide +kernel)) (by rw [E.blt]; exact B.W.b.keeps ok.base) ((B.W.bts _ (by decide)).trans (by decide +kernel)) ?_
  refine PyProof.Rows.callWith_type (by rfl) (evalArgs_any (by rfl) (wpAny_items_cons ?_ (by rfl)))
  show wpAny _ A (do callWith pos2 (← eval (.Name "zip" fpos2) e) [] (backTo pos2 (starEach [x, y] e)) (backToKw pos2 (keywordEach [] e))) _ _ s
  refine wpAny_bind (Calls.Name_function_global hk (by unfold Env.kindOf; rw [E.scope]; exact hx) ?_ (by decide))
  refine Calls.loadGlobal_builtin (v := .type "zip") (by rw [E.glob]; exact B.W.g.keeps ok.base) (B.no _ (by decide +kernel)) (by rw [E.blt]; exact B.W.b.keeps ok.base) ((B.W.bts _ (by decide)).trans (by decide +kernel)) ?_
  refine PyProof.Rows.callWith_type (hp e) (args_ (.cons h1 (.cons h2 .nil he2) he) ao E ok (hp e) fun vs s₂ r₂ k₂ o₂ => ?_)
  obtain ⟨v, w, rfl, r1, r2⟩ := r₂.cons_inv
  obtain ⟨v', w', rfl, q2, r3⟩ := r2.cons_inv
  obtain rfl := r3.nil_inv
  obtain ⟨l1, xs, rfl, _, hp1, rs1⟩ := r1.list_inv
  obtain ⟨l2, ys, rfl, _, hp2, rs2⟩ := q2.list_inv
  have e1 := rs1.length
  have e2 := rs2.length
  rw [List.length_map] at e1 e2
  refine call_zip_2 (PlainList.isl hp1) (PlainList.isl hp2) fun h' hz hTI hTO hi1 hi2 hsz hk' => wpAny_items_nil ?_
  have hl1s : l1 < s₂.heap.objs.size := by obtain ⟨n, q⟩ := hp1; exact Heap.lt_size q
  have hl2s : l2 < s₂.heap.objs.size := by obtain ⟨n, q⟩ := hp2; exact Heap.lt_size q
  have D : ZipApart (s₂.heap.objs.size + 4) (s₂.heap.objs.size + 2) (s₂.heap.objs.size + 3) s₂.heap.objs.size (s₂.heap.objs.size + 1) l1 l2 := by
    generalize s₂.heap.objs.size = m at hl1s hl2s
    exact ⟨(show @Ne Nat (m + 2) (m + 4) by lia), (show @Ne Nat (m + 3) (m + 4) by lia), (show @Ne Nat (m) (m + 4) by lia), (show @Ne Nat (m + 1) (m + 4) by lia), (show @Ne Nat (m + 2) (m + 3) by lia), (show @Ne Nat (m + 2) (m) by lia), (show @Ne Nat (m + 2) (m + 1) by lia), (show @Ne Nat (m + 3) (m) by lia), (show @Ne Nat (m + 3) (m + 1) by lia), (show @Ne Nat (m) (m + 1) by lia), Nat.ne_of_lt (Nat.lt_add_right 4 hl1s), Nat.ne_of_lt (Nat.lt_add_right 3 hl1s), Nat.ne_of_lt hl1s, Nat.ne_of_lt (Nat.lt_add_right 1 hl1s), Nat.ne_of_lt (Nat.lt_add_right 4 hl2s), Nat.ne_of_lt (Nat.lt_add_right 3 hl2s), Nat.ne_of_lt hl2s, Nat.ne_of_lt (Nat.lt_add_right 1 hl2s)⟩
  have k3 : Kp s₂ { s₂ with heap := h' } := .of (t := s₂.toks) hk'
  refine call_list_zip (xs := xs.toArray) (ys := ys.toArray) ao.hd D (by simp; lia) (by simp; lia) ⟨.inl hz, hTI, ⟨_, _, hTO⟩, hi1, hi2, (PlainList.isl hp1).at fun o q => hk' _ o q, (PlainList.isl hp2).at fun o q => hk' _ o q⟩ hz fun s₄ acc c hzx hS hac hacc => ?_
  have hnew : ∀ b ob, s₂.heap.get? b = some ob → s₄.heap.get? b = some ob := fun b ob q => by
    have hlt := Heap.lt_size q
    refine hzx.heap b ob ?_ ?_ ?_ ?_ ?_ (hk' b ob q)
    · exact Nat.ne_of_lt (Nat.lt_add_right 4 hlt)
    · exact Nat.ne_of_lt (Nat.lt_add_right 3 hlt)
    · exact Nat.ne_of_lt hlt
    · exact Nat.ne_of_lt (Nat.lt_add_right 1 hlt)
    · intro h
      have : h'.objs.size = s₂.heap.objs.size + 5 := hsz
      have h5 : b = h'.objs.size := h
      rw [this] at h5
      exact Nat.ne_of_lt (Nat.lt_add_right 5 hlt) h5
  have k4 : Kp s₂ s₄ := ⟨hnew, hzx.os, fun i y q => by rw [hzx.gens]; exact q, fun q => by rw [hzx.gens]; exact q⟩
  refine ⟨.list (vs := acc.toList) ((o₂.kp k3).fresh _ (get_new _)) ⟨c, by simpa using hS⟩ ?_, k₂.trans k4⟩
  -- the tuples
  have key : ∀ (l : List Value) (m : Nat), (∀ j v, l[j]? = some v → acc[m + j]? = some v) → m + l.length = acc.size → RepAllN (fun a => N a ∧ Sg a = none) s₄.heap (((ns.zip us).drop m).map fun p => .tuple [.int p.1, S p.2]) l := by
    intro l
    induction l with
    | nil =>
      intro m _ hm
      rw [List.drop_of_length_le (by simp at hm hac ⊢; lia)]
      exact .nil
    | cons v l ih =>
      intro m hj hm
      simp only [List.length_cons] at hm
      have hsz' : acc.size = ns.length := by rw [hac]; simp [e1]
      have hm1 : m < (ns.zip us).length := by simp; lia
      rw [List.drop_eq_getElem_cons hm1, List.map_cons]
      refine .cons ?_ (ih (m + 1) (fun j v' hv => by have := hj (j + 1) v' (by simpa using hv); rwa [show m + 1 + j = m + (j + 1) by lia]) (by lia))
      obtain ⟨T, a, b, rfl, hx, hy, hP, _⟩ := hacc m v (hj 0 v rfl)
      have ha : (ns.map PyData.int)[m]? = some (.int (ns.zip us)[m].1) := by
        rw [List.getElem?_map, List.getElem_zip, List.getElem?_eq_getElem (by lia)]; rfl
      have hb : (us.map S)[m]? = some (S (ns.zip us)[m].2) := by
        rw [List.getElem?_map, List.getElem_zip, List.getElem?_eq_getElem (by lia)]; rfl
      obtain ⟨va, hva, ra⟩ := rs1.get ha
      obtain ⟨vb, hvb, rb⟩ := rs2.get hb
      have : va = a := by have q : xs[m]? = some a := by simpa using hx
                          rw [hva] at q; exact Option.some.inj q
      subst this
      have : vb = b := by have q : ys[m]? = some b := by simpa using hy
                          rw [hvb] at q; exact Option.some.inj q
      subst this
      exact .tuple (vs := [va, vb]) ⟨_, hP, rfl, _, rfl⟩ (.cons (ra.flat rfl) (.cons (rb.flat rfl) .nil))
  have := key acc.toList 0 (fun j v hj => by simpa using hj) (by simp)
  simpa using this
end
end

-- text W9
section


structure StS where
  st : Nat
  op : Option Nat
  rs : List (List Nat)
def stepT (x : List Nat) (s : StS) (p : Nat × List Nat) : StS :=
  if p.2 = [34] then
    match s.op with
    | none => { s with op := some p.1 }
    | some o => ⟨p.1 + 1, none, if s.st = o then s.rs else s.rs ++ [(x.drop s.st).take (o - s.st)]⟩
  else s
def stripSt (x : List Nat) (ps : List (Nat × List Nat)) : StS := ps.foldl (stepT x) ⟨0, none, []⟩
def stripF (x : List Nat) : List Nat :=
  if 34 ∈ x then (let s := stripSt x (escL 0 false x); (if s.st < x.length then s.rs ++ [x.drop s.st] else s.rs).flatten) else x
def optD : Option Nat → PyData
  | none => .none
  | some o => .int (o : Int)

theorem glued_nil (xs : List (List Nat)) : Txt.join (tx []) (xs.map tx) = tx xs.flatten := by
  have go : ∀ (ys : List (List Nat)) (a : Array Nat), (ys.map tx).foldl (fun acc p => acc ++ (tx []).cps ++ p.cps) a = a ++ ys.flatten.toArray := by
    intro ys
    induction ys with
    | nil => intro a; simp
    | cons y r ih => intro a; rw [List.map_cons, List.foldl_cons, ih]; simp
  cases xs with
  | nil => rfl
  | cons y r =>
    show Builtin.Str.glued _ _ = _
    unfold Builtin.Str.glued
    rw [List.map_cons, List.drop_one, List.tail_cons, List.headD_cons, go]
    simp
theorem join_ok (xs : List (List Nat)) (h : xs.flatten.length ≤ 1000000) : JoinOk (tx []) (xs.map tx) = true := by
  have go : ∀ (ys : List (List Nat)) (a : Nat), (ys.map tx).foldl (fun (acc : Nat) (p : Str) => acc + p.length + (tx []).length) a = a + ys.flatten.length := by
    intro ys
    induction ys with
    | nil => intro a; simp
    | cons y r ih => intro a; rw [List.map_cons, List.foldl_cons, ih, mk_length, mk_length]; simp; lia
  unfold JoinOk
  have : ((xs.map tx).toArray.foldl (fun (acc : Nat) (p : Str) => acc + p.length + (tx []).length) 0) = xs.flatten.length := by
    rw [List.foldl_toArray, go]; lia
  rw [this]
  unfold Builtin.Str.tooLong
  have hs : (1000000 : Nat) ≤ sizeLine := by decide
  simp only [Bool.not_eq_true', decide_eq_false_iff_not]
  lia

theorem mem_occ (x : List Nat) (c : Nat) : (occ x [c] 0 x.length 1).isEmpty = !decide (c ∈ x) := by
  have := StrLaws.found_one (tx x) c
  rw [mk_length] at this
  have h2 : (tx x).cps.toList = x := by simp
  rw [h2] at this
  change (!(occ x [c] 0 x.length 1).isEmpty) = decide (c ∈ x) at this
  rw [← this, Bool.not_not]

theorem stripSt_bound (x : List Nat) : ∀ (ps : List (Nat × List Nat)) (s : StS), s.rs.length ≤ (ps.foldl (stepT x) s).rs.length ∧ (ps.foldl (stepT x) s).rs.length ≤ s.rs.length + ps.length := by
  intro ps
  induction ps with
  | nil => intro s; simp
  | cons p r ih =>
    intro s
    rw [List.foldl_cons]
    have h1 := ih (stepT x s p)
    have h2 : s.rs.length ≤ (stepT x s p).rs.length ∧ (stepT x s p).rs.length ≤ s.rs.length + 1 := by
      unfold stepT
      split
      · split
        · simp
        · dsimp only
          split <;> simp
      · simp
    simp only [List.length_cons]
    lia

theorem escL_length : ∀ (r : List Nat) (i : Nat) (b : Bool), (escL i b r).length ≤ r.length + 1 := by
  intro r
  induction r with
  | nil => intro i b; cases b <;> simp [escL]
  | cons c r ih =>
    intro i b
    cases b with
    | true => simp only [escL, List.length_cons]; have := ih (i + 1) false; lia
    | false =>
      simp only [escL]
      split
      · have := ih (i + 1) true; simp only [List.length_cons]; lia
      · simp only [List.length_cons]; have := ih (i + 1) false; lia

theorem strip_walk {C : Cx} {n : Nat} (P : Pg C) {x : List Nat} (hx : x.length ≤ 400) (has : strIterType (tx x) = "str_ascii_iterator") (hfl : (stripF x).length ≤ 1000) : FnD C (n + 5) 5 [S x] (S (stripF x)) := by
  refine FnD.of (pn := ["addr"]) P ["addr", "start", "open_pos", "result", "pos", "ch"] ?_ ?_ rfl ⟨_, rfl⟩ (by decide) (by decide +kernel)
  · show Ex C (n + 4) _ _ [.val (S x), .un, .un, .un, .un, .un] _ _
    have hq : cp (Str.ofString "\"") = [34] := by decide +kernel
    by_cases hin : 34 ∈ x
    · have hF : stripF x = ((if (stripSt x (escL 0 false x)).st < x.length then (stripSt x (escL 0 false x)).rs ++ [x.drop (stripSt x (escL 0 false x)).st] else (stripSt x (escL 0 false x)).rs)).flatten := by
        unfold stripF; rw [if_pos hin]
      refine Ex.cons (E1.ite (b := false) (Tr.cg (Tr.cmp Ev.cstr2 (by walk_at "name") Op2.ninS) (by rw [hq, mem_occ]; simp [hin])) (by simp) (fun _ => Ex.nil')) ?_
      refine Ex.cons (Γ₁ := [.val (S x), .val (.int 0), .un, .un, .un, .un]) (E1.assign (by walk_at "go") (by walk_at "upd") (by decide +kernel)) ?_
      refine Ex.cons (Γ₁ := [.val (S x), .val (.int 0), .val .none, .un, .un, .un]) (E1.assign (by walk_at "go") (by walk_at "upd") (by decide +kernel)) ?_
      refine Ex.cons (Γ₁ := [.val (S x), .val (.int 0), .val .none, .own [], .un, .un]) (E1.assignOwn EvF.nil (by walk_at "upd") (by decide +kernel)) ?_
      have hel := escL_length x 0 false
      refine Ex.cons (Γ₁ := [.val (S x), .val (.int (stripSt x (escL 0 false x)).st), .val (optD (stripSt x (escL 0 false x)).op), .own ((stripSt x (escL 0 false x)).rs.map S), .un, .un])
        (E1.forV (fun m => [.val (S x), .val (.int (stripSt x ((escL 0 false x).take m)).st), .val (optD (stripSt x ((escL 0 false x).take m)).op), .own ((stripSt x ((escL 0 false x).take m)).rs.map S), .un, .un])
          (ItrV.gen P has (by decide +kernel) (by walk_at "name") (by lia)) (GLe.refl _) ?_ (by unfold escD; rw [List.length_map, List.take_length])) ?_
      · intro m d hd
        unfold escD at hd
        rw [List.getElem?_map] at hd
        obtain ⟨⟨p, c⟩, hpc, rfl⟩ := Option.map_eq_some_iff.mp hd
        have hnext : stripSt x ((escL 0 false x).take (m + 1)) = stepT x (stripSt x ((escL 0 false x).take m)) (p, c) := by
          unfold stripSt; rw [List.take_add_one, hpc, Option.toList_some, List.foldl_append]; rfl
        have hbd : (stripSt x ((escL 0 false x).take m)).rs.length ≤ 500 := by
          have := (stripSt_bound x ((escL 0 false x).take m) ⟨0, none, []⟩).2
          unfold stripSt
          rw [List.length_take] at this
          simp at this
          lia
        generalize stripSt x ((escL 0 false x).take m) = s at *
        obtain ⟨st, op, rs⟩ := s
        dsimp only at hbd ⊢
        refine ⟨_, Bnd.tup (BndL.cons (Γ₁ := [.val (S x), .val (.int st), .val (optD op), .own (rs.map S), .val (.int p), .un]) (Bnd.name (by walk_at "upd") (by decide +kernel)) (BndL.cons (Γ₁ := [.val (S x), .val (.int st), .val (optD op), .own (rs.map S), .val (.int p), .val (S c)]) (Bnd.name (by walk_at "upd") (by decide +kernel)) BndL.nil)), ?_⟩
        refine Ex.last (E1.ite (b := c == [34]) (Tr.cg (by walk_at "go") (by rw [hq])) (fun h => ?_) (fun h => ?_))
        · have hc : c = [34] := by simpa using h
          subst hc
          cases op with
          | none =>
            simp only [optD]
            refine Ex.last (E1.ite (b := true) (by walk_at "go") (fun _ => ?_) (by simp))
            refine Ex.last ((E1.assign (by walk_at "go") (Γ' := [.val (S x), .val (.int st), .val (.int p), .own (rs.map S), .val (.int p), .val (S [34])]) (by walk_at "upd") (by decide +kernel)).mono ?_)
            rintro o rfl
            refine .inl ⟨_, .inl rfl, ?_⟩
            rw [hnext]
            exact .cons .same (.cons .same (.cons .same (.cons .same (.cons .un (.cons .un .nil)))))
          | some o =>
            simp only [optD]
            refine Ex.last (E1.ite (b := false) (Tr.cmp (d₁ := .int o) (d₂ := .none) (by walk_at "name") Ev.cnone Op2.isIN) (by simp) (fun _ => ?_))
            refine Ex.cons (Γ₁ := [.val (S x), .val (.int st), .val (.int o), .own ((if st = o then rs else rs ++ [(x.drop st).take (o - st)]).map S), .val (.int p), .val (S [34])]) (E1.ite (b := (st : Int) != o) (Tr.cmp (d₁ := .int st) (d₂ := .int o) (by walk_at "name") (by walk_at "name") Op2.neI) (fun h => ?_) (fun h => ?_)) ?_
            · have hne : ¬ st = o := by simp at h; lia
              rw [if_neg hne]
              refine Ex.last ((E1.append (d := S ((x.drop st).take (o - st))) (by walk_at "slt") (by decide) (Ev.cg (Ev.midS (i := (st : Int)) (j := (o : Int)) (by walk_at "name") (by walk_at "name") (by walk_at "name") (by lia) (by lia) (by lia)) (by simp only [Int.toNat_natCast])) rfl (by simp; lia) (Γ' := [.val (S x), .val (.int st), .val (.int o), .own (rs.map S ++ [S ((x.drop st).take (o - st))]), .val (.int p), .val (S [34])]) (by walk_at "upd")).mono ?_)
              rintro o' rfl
              rw [List.map_append]; rfl
            · have he : st = o := by simp at h; lia
              rw [if_pos he]
              exact Ex.nil'
            · refine Ex.cons (Γ₁ := [.val (S x), .val (.int ((p : Int) + 1)), .val (.int o), .own ((if st = o then rs else rs ++ [(x.drop st).take (o - st)]).map S), .val (.int p), .val (S [34])]) (E1.assign (by walk_at "go") (by walk_at "upd") (by decide +kernel)) ?_
              refine Ex.last ((E1.assign (by walk_at "go") (Γ' := [.val (S x), .val (.int ((p : Int) + 1)), .val .none, .own ((if st = o then rs else rs ++ [(x.drop st).take (o - st)]).map S), .val (.int p), .val (S [34])]) (by walk_at "upd") (by decide +kernel)).mono ?_)
              rintro o' rfl
              refine .inl ⟨_, .inl rfl, ?_⟩
              rw [hnext]
              exact .cons .same (.cons .same (.cons .same (.cons .same (.cons .un (.cons .un .nil)))))
        · have hc : c ≠ [34] := by simpa using h
          refine Ex.nil (.inl ⟨_, .inl rfl, ?_⟩)
          rw [hnext]
          unfold stepT
          rw [if_neg hc]
          exact .cons .same (.cons .same (.cons .same (.cons .same (.cons .un (.cons .un .nil)))))
      · have hbd : (stripSt x (escL 0 false x)).rs.length ≤ 500 := by
          have := (stripSt_bound x (escL 0 false x) ⟨0, none, []⟩).2
          unfold stripSt
          simp at this
          lia
        generalize stripSt x (escL 0 false x) = s at *
        obtain ⟨st, op, rs⟩ := s
        dsimp only at hbd hF ⊢
        refine Ex.cons (Γ₁ := [.val (S x), .val (.int st), .val (optD op), .own ((if st < x.length then rs ++ [x.drop st] else rs).map S), .un, .un]) (E1.ite (b := decide ((st : Int) < x.length)) (by walk_at "go" <;> lia) (fun h => ?_) (fun h => ?_)) ?_
        · have hlt : st < x.length := by simp at h; lia
          rw [if_pos hlt]
          refine Ex.last ((E1.append (d := S (x.drop st)) (by walk_at "slt") (by decide) (Ev.cg (Ev.fromS (i := (st : Int)) (by walk_at "name") (by walk_at "name") (by lia) (by lia)) (by rw [Int.toNat_natCast])) rfl (by simp; lia) (Γ' := [.val (S x), .val (.int st), .val (optD op), .own (rs.map S ++ [S (x.drop st)]), .un, .un]) (by walk_at "upd")).mono ?_)
          rintro o' rfl
          rw [List.map_append]; rfl
        · have hlt : ¬ st < x.length := by simp at h; lia
          rw [if_neg hlt]
          exact Ex.nil'
        · refine ExS.freeze (by walk_at "slt") (by walk_at "upd") ?_
          refine Ex.last (E1.ret (Ev.m_join (sep := []) (xs := if st < x.length then rs ++ [x.drop st] else rs) (r := stripF x) (Ev.cg Ev.cstr2 (by rw [show cp (Str.ofString "") = [] by decide +kernel])) (by walk_at "name") (by rw [glued_nil, hF]) (join_ok _ (by rw [← hF]; lia))) rfl)
    · have hF : stripF x = x := by unfold stripF; rw [if_neg hin]
      refine Ex.cons' (Φ₁ := fun o => o = .ret (S (stripF x))) (E1.ite (b := true) (Tr.cg (Tr.cmp Ev.cstr2 (by walk_at "name") Op2.ninS) (by rw [hq, mem_occ]; simp [hin])) (fun _ => Ex.last (E1.ret (by walk_at "go") (by rw [hF]))) (by simp)) (by intro _ h; cases h) (fun o h _ => h)
  · intro pm cd doc vs hv
    match vs, hv with
    | [v1], _ => rfl
end

-- text W10
section



def toI (ns : List Nat) : List Int := ns.map Int.ofNat
def cutN (pn : List Nat) (w : Nat → Nat) : List Nat := pn.filter fun k => w k != 0
def liveN (w : Nat → Nat) : List Nat := (List.range 4).filter fun k => w k != 0
def waysN (w : Nat → Nat) : List Nat := (List.range 4).map w
def unitsN (ks : List Nat) (w : Nat → Nat) : List (List Nat) := ks.map fun k => unitL k (w k)
def textN (pn : List Nat) (w : Nat → Nat) : List Nat := (unitsN pn w).flatten ++ [34, 92]

def gS (f : Int → List Nat) : PyData → Option PyData
  | .int r => some (S (f r))
  | _ => none
theorem fm_S (f : Int → List Nat) (ns : List Int) : (ns.map PyData.int).filterMap (gS f) = (ns.map f).map S := by
  induction ns with
  | nil => rfl
  | cons a l ih => simp [gS, ih]

theorem way_at {C : Cx} {k : Nat} {sc : Scope} {nm : List Str} {Γ : List Slot} {o a : Expr} {pos : Pos} {w : Nat → Nat} {r : Nat} (hr : r < 4) (h₀ : Ev C k sc nm Γ o (L (toI (waysN w)))) (h₁ : Ev C k sc nm Γ a (.int r))
    (hs : ∀ o i, subscripted a false o i = operate [o, i] (getItem o i) := by intro _ _; rfl) : Ev C k sc nm Γ (.Subscript o a pos) (.int (w r)) := by
  have hl : (toI (waysN w)).length = 4 := by simp [toI, waysN]
  refine (Ev.item h₀ h₁ (Itm.listL (by rw [hl, sidx_nat hr]; rfl) (by lia)) hs).cg ?_
  rw [hl, sidx_nat hr]
  simp [toI, waysN, hr]

/-- the units of some passes -/
theorem units_comp {C : Cx} {n : Nat} (P : Pg C) {sc scope : Scope} {nm : List Str} {Γ : List Slot} {iter : Expr} {p1 p2 p3 p4 p5 p6 p7 pos : Pos} {ks : List Nat} {w : Nat → Nat} {j : Nat} (hit : Itr C (n + 1) sc nm Γ iter ((toI ks).map .int)) (hw : ∀ k, w k < 3) (hk : ∀ k ∈ ks, k < 4) (hl : ks.length ≤ 100)
    (hways : Slt nm Γ "ways" (.val (L (toI (waysN w)))) j) (h1 : (relS scope sc).names.lookup ("ways" : Str) = some .cell) (h2 : (relS scope sc).names.lookup ("_law_unit" : Str) = some .globalImplicit) (hsc : scopeOk scope sc "k" = true)
    (hs : ∀ e v, foldedSetIterable iter e v = pure v := by intro _ _; rfl) :
    EvF C (n + 1) sc nm Γ (.ListComp (.Call (.Name "_law_unit" p1) [.Name "k" p2, .Subscript (.Name "ways" p3) (.Name "k" p4) p5] [] p6) [⟨.Name "k" p7, iter, [], 0⟩] scope pos) ((unitsN ks w).map S) := by
  have hF : (unitsN ks w).map S = ((toI ks).map PyData.int).filterMap (gS fun r => unitL r.toNat (w r.toNat)) := by
    rw [fm_S]
    simp only [unitsN, toI, List.map_map]
    rfl
  rw [hF]
  refine EvF.comp (ns := ["ways"]) (Γc := [.val (L (toI (waysN w)))]) (gS fun r => unitL r.toNat (w r.toNat)) hit (.cons hways h1 .nil) (fun i d hd => ?_) (by simp [toI]; lia) hsc (by decide) hs
  obtain ⟨r, hr, rfl⟩ := mem_map_int hd
  have hm := List.mem_of_getElem? hr
  unfold toI at hm
  obtain ⟨r', hr', hrr⟩ := List.mem_map.mp hm
  have hrr' : r = (r' : Int) := hrr.symm
  subst hrr'
  have hr4 := hk r' hr'
  refine ⟨Tst.nil, fun y hy => ?_⟩
  cases hy
  exact ⟨Ev.cg (d := S (unitL r' (w r'))) (Ev.call P 14 (by decide) (by decide +kernel) h2 (.cons (by walk_at "name") (.cons (way_at hr4 (by walk_at "name") (by walk_at "name")) .nil)) (law_unit P hr4 (hw r')) (by decide)) (by simp only [Int.toNat_natCast]), rfl⟩

/-- the passes that are left -/
theorem cut_comp {C : Cx} {n : Nat} {sc scope : Scope} {p1 p2 p3 p4 p5 p6 : Pos} {c1 : Nat} {ks : List Nat} {w : Nat → Nat} (hk : ∀ k ∈ ks, k < 4)
    (i : Nat) (d : PyData) (hd : ((toI ks).map PyData.int)[i]? = some d) :
    Tst C n (relS scope sc) [("k" : Str), ("ways" : Str)] [.val d, .val (L (toI (waysN w)))] [.Compare (.Subscript (.Name "ways" p1) (.Name "k" p2) p3) [.NotEq] [.Constant (.int 0) c1 p4] p5] (gF (fun r => w r.toNat != 0) d).isSome ∧
      ∀ y, gF (fun r => w r.toNat != 0) d = some y → Ev C n (relS scope sc) [("k" : Str), ("ways" : Str)] [.val d, .val (L (toI (waysN w)))] (.Name "k" p6) y ∧ isFlat y = true := by
  obtain ⟨r, hr, rfl⟩ := mem_map_int hd
  have hm := List.mem_of_getElem? hr
  unfold toI at hm
  obtain ⟨r', hr', hrr⟩ := List.mem_map.mp hm
  have hrr' : r = (r' : Int) := hrr.symm
  subst hrr'
  have hr4 := hk r' hr'
  have e : gF (fun r => w r.toNat != 0) (.int (r' : Int)) = if (w r' != 0) = true then some (.int (r' : Int)) else none := rfl
  rw [e]
  refine ⟨?_, fun y hy => ?_⟩
  · refine Tst.one (Tr.cg (Tr.cmp (way_at hr4 (by walk_at "name") (by walk_at "name")) Ev.cint Op2.neI) ?_)
    by_cases h : w r' = 0
    · simp [h]
    · have : (w r' != 0) = true := by simpa using h
      rw [if_pos this]
      simp; lia
  · by_cases h : (w r' != 0) = true
    · rw [if_pos h] at hy
      cases hy
      exact ⟨by walk_at "name", rfl⟩
    · rw [if_neg h] at hy; cases hy

theorem cut_eq (ks : List Nat) (w : Nat → Nat) : ((toI ks).map PyData.int).filterMap (gF fun r => w r.toNat != 0) = (toI (cutN ks w)).map PyData.int := by
  rw [fm_F]
  congr 1
  unfold toI cutN
  rw [List.filter_map]
  rfl
end

-- text W11
section


abbrev lawΓ (script passes ways k cut live units text left n ends due longer later want got never masks crossed i j head tail mask sign plain quiet total t word odd far behind flip other : Slot) : List Slot :=
  script :: passes :: ways :: k :: cut :: live :: units :: text :: left :: n :: ends :: due :: longer :: later :: want :: got :: never :: masks :: crossed :: i :: j :: head :: tail :: mask :: sign :: plain :: quiet :: total :: t :: word :: odd :: far :: behind :: flip :: other :: []
abbrev lawNs : List Str := Str.ofString "script" :: Str.ofString "passes" :: Str.ofString "ways" :: Str.ofString "k" :: Str.ofString "cut" :: Str.ofString "live" :: Str.ofString "units" :: Str.ofString "text" :: Str.ofString "left" :: Str.ofString "n" :: Str.ofString "ends" :: Str.ofString "due" :: Str.ofString "longer" :: Str.ofString "later" :: Str.ofString "want" :: Str.ofString "got" :: Str.ofString "never" :: Str.ofString "masks" :: Str.ofString "crossed" :: Str.ofString "i" :: Str.ofString "j" :: Str.ofString "head" :: Str.ofString "tail" :: Str.ofString "mask" :: Str.ofString "sign" :: Str.ofString "plain" :: Str.ofString "quiet" :: Str.ofString "total" :: Str.ofString "t" :: Str.ofString "word" :: Str.ofString "odd" :: Str.ofString "far" :: Str.ofString "behind" :: Str.ofString "flip" :: Str.ofString "other" :: []

theorem swaps_cell {sc s : Scope} {elt : Expr} {g : List Comprehension} {p px : Pos} {x : Str} {line : Nat} {e : Env} (he : e.scope = sc) (h : (sc.names.lookup x == some .local) = false) : swapsWith (.ListComp elt g s p) (some (.Name x px)) line e = pure false := by
  show (pure (e.blockKind == .function && e.kindOf x == some .local && px.line == p.line && !(s.names.any fun (n, k) => n == x && (k == .local || k == .cell))) : Sem Bool) = pure false
  have : (e.kindOf x == some .local) = false := by unfold Env.kindOf; rw [he]; exact h
  rw [this]
  simp only [Bool.and_false, Bool.false_and]
theorem swaps_local {sc s : Scope} {elt : Expr} {g : List Comprehension} {p px : Pos} {x : Str} {line : Nat} {e : Env} (he : e.scope = sc) (hk : sc.kind = .function) (h : (sc.names.lookup x == some .local) = true) (hl : (px.line == p.line) = true)
    (hs : (s.names.any fun (n, k) => n == x && (k == .local || k == .cell)) = false) : swapsWith (.ListComp elt g s p) (some (.Name x px)) line e = pure true := by
  show (pure (e.blockKind == .function && e.kindOf x == some .local && px.line == p.line && !(s.names.any fun (n, k) => n == x && (k == .local || k == .cell))) : Sem Bool) = pure true
  have h1 : (e.kindOf x == some .local) = true := by unfold Env.kindOf; rw [he]; exact h
  have h2 : (e.blockKind == .function) = true := by unfold Env.blockKind; rw [he, hk]; rfl
  rw [h1, h2, hl, hs]
  rfl

theorem law_A {C : Cx} {n : Nat} (P : Pg C) {ns : List Int} {pn : List Nat} {w : Nat → Nat} {Φ : Out → Prop} (hns : ns.length ≤ 1000) (hcurve : curveF (scriptX ns) 4 = (toI pn, toI (waysN w))) (hpn : ∀ k ∈ pn, k < 4) (hpl : pn.length ≤ 20) (hw : ∀ k, w k < 3)
    (hstrip : stripF (textN pn w) = textN (cutN pn w) w) (htl : (textN pn w).length ≤ 400) (hll : (textN (cutN pn w) w).length ≤ 400) (has : strIterType (tx (textN pn w)) = "str_ascii_iterator")
    (h : Ex C (n + 5) (fnS (topS 17)) lawNs (lawΓ (.val (L ns)) (.val (L (toI pn))) (.val (L (toI (waysN w)))) .un (.val (L (toI (cutN pn w)))) (.val (L (toI (liveN w)))) (.val (LS (unitsN (cutN pn w) w))) (.val (S (textN pn w))) (.val (S (textN (cutN pn w) w))) .un .un .un .un .un .un .un .un .un .un .un .un .un .un .un .un .un .un .un .un .un .un .un .un .un .un)
      ((fnB (topS 17)).drop 7) Φ) :
    Ex C (n + 5) (fnS (topS 17)) lawNs (lawΓ (.val (L ns)) .un .un .un .un .un .un .un .un .un .un .un .un .un .un .un .un .un .un .un .un .un .un .un .un .un .un .un .un .un .un .un .un .un .un) (fnB (topS 17)) Φ := by
  have hcp0 : cp (Str.ofString "") = [] := by decide +kernel
  have hcpe : cp (Str.ofString "\"\\") = [34, 92] := by decide +kernel
  have hcl : (cutN pn w).length ≤ 20 := Nat.le_trans (List.length_filter_le _ _) hpl
  have hc4 : ∀ k ∈ cutN pn w, k < 4 := fun k hk => hpn k (List.mem_filter.mp hk).1
  refine Ex.cons (E1.assignT (d := .tuple [L (toI pn), L (toI (waysN w))]) (Ev.cg (Ev.call P 13 (by decide) (by decide +kernel) (by decide +kernel) (EvL.cons (by walk_at "name") EvL.nil) (law_curve P hns) (by decide)) (by rw [hcurve]))
    (Bnd.tup (BndL.cons (Bnd.name (by walk_at "upd") (by decide +kernel)) (BndL.cons (Bnd.name (by walk_at "upd") (by decide +kernel)) BndL.nil)))) ?_
  refine Ex.cons (E1.assign (d := L (toI (cutN pn w))) (Ev.cg (Ev.ofF (EvF.comp (ds := (toI pn).map .int) (ns := [("ways" : Str)]) (Γc := [.val (L (toI (waysN w)))]) (gF fun r => w r.toNat != 0) (Itr.list (by walk_at "name")) (.cons (by walk_at "slt") (by decide +kernel) .nil)
    (cut_comp hpn) (by simp [toI]; lia) (by decide +kernel) (by decide))) (by rw [cut_eq])) (by walk_at "upd") (by decide +kernel) (fun e he => swaps_cell he (by decide +kernel))) ?_
  have hr4 : ∀ k ∈ List.range 4, k < 4 := fun k hk => List.mem_range.mp hk
  refine Ex.cons (E1.assignComp (ds := R 4) (ns := [("ways" : Str)]) (Γc := [.val (L (toI (waysN w)))]) (gF fun r => w r.toNat != 0) (Itr.range (n := 4) P.B.W (by decide +kernel) (P.B.at (by decide +kernel)) Ev.cint rfl (by decide)) (.cons (by walk_at "slt") (by decide +kernel) .nil)
    (by rw [R_map]; exact cut_comp hr4) (by simp) (by rw [R_map]; show Upd _ _ _ (.val (.list (((toI (List.range 4)).map PyData.int).filterMap (gF fun r => w r.toNat != 0)))) _ _; rw [cut_eq]; show Upd _ _ _ (.val (L (toI (liveN w)))) _ _; walk_at "upd") (by decide +kernel) (by decide +kernel) (by decide) (fun e he => swaps_local he rfl (by decide +kernel) rfl (by decide +kernel))) ?_
  refine Ex.cons (E1.assign (d := LS (unitsN (cutN pn w) w)) (Ev.ofF (units_comp (n := n + 4) P (Itr.list (by walk_at "name")) hw hc4 (by lia) (by walk_at "slt") (by decide +kernel) (by decide +kernel) (by decide +kernel))) (by walk_at "upd") (by decide +kernel) (fun e he => swaps_cell he (by decide +kernel))) ?_
  refine Ex.cons (E1.assign (d := S (textN pn w)) (Ev.bin (Ev.m_join (sep := []) (xs := unitsN pn w) (r := (unitsN pn w).flatten) (Ev.cg Ev.cstr2 (by rw [hcp0])) (Ev.ofF (units_comp (n := n + 4) P (Itr.list (by walk_at "name")) hw hpn (by lia) (by walk_at "slt") (by decide +kernel) (by decide +kernel) (by decide +kernel))) (glued_nil _) (join_ok _ (by unfold textN at htl; simp at htl; simp; lia)))
    (Ev.cg (d' := S [34, 92]) Ev.cstr2 (by rw [hcpe])) (Op2.addS (by unfold textN at htl; simp at htl; simp; lia))) (by walk_at "upd") (by decide +kernel)) ?_
  refine Ex.cons (E1.assign (d := S (textN (cutN pn w) w)) (Ev.cg (Ev.call P 5 (by decide) (by decide +kernel) (by decide +kernel) (EvL.cons (by walk_at "name") EvL.nil) (strip_walk P htl has (by rw [hstrip]; lia)) (by decide)) (by rw [hstrip])) (by walk_at "upd") (by decide +kernel)) ?_
  refine Ex.cons (E1.ite (b := false) (Tr.cg (Tr.cmp (by walk_at "name") (Ev.bin (Ev.m_join (sep := []) (xs := unitsN (cutN pn w) w) (r := (unitsN (cutN pn w) w).flatten) (Ev.cg Ev.cstr2 (by rw [hcp0])) (by walk_at "name") (glued_nil _) (join_ok _ (by unfold textN at hll; simp at hll; simp; lia)))
    (Ev.cg (d' := S [34, 92]) Ev.cstr2 (by rw [hcpe])) (Op2.addS (by unfold textN at hll; simp at hll; simp; lia))) Op2.neS) (by unfold textN; simp)) (by simp) (fun _ => Ex.nil')) ?_
  exact h
end

-- text W12
section


section
variable {C : Cx} {k : Nat} {sc : Scope} {nm : List Str} {Γ : List Slot}
theorem Ev.initS {value : Expr} {p1 p2 p pos : Pos} {c : Nat} {x : List Nat} (h : Ev C k sc nm Γ value (S x)) (hsz : x.length ≤ 1000000) : Ev C k sc nm Γ (.Subscript value (.Slice none (some (.UnaryOp .USub (.Constant (.int 1) c p1) p2)) none p) pos) (S (x.take (x.length - 1))) := by
  refine (Ev.sliceS h .no (.int (i := -((1 : Nat) : Int)) (Ev.neg Ev.cint)) hsz).cg ?_
  unfold psl
  simp only [Option.elim, clipAt_neg _ 1 (Nat.le_refl 1), List.drop_zero, Nat.sub_zero]
theorem Ev.lastS {value : Expr} {p1 p2 p pos : Pos} {c : Nat} {x : List Nat} (h : Ev C k sc nm Γ value (S x)) (hsz : x.length ≤ 1000000) : Ev C k sc nm Γ (.Subscript value (.Slice (some (.UnaryOp .USub (.Constant (.int 1) c p1) p2)) none none p) pos) (S (x.drop (x.length - 1))) := by
  refine (Ev.sliceS h (.int (i := -((1 : Nat) : Int)) (Ev.neg Ev.cint)) .no hsz).cg ?_
  unfold psl
  simp only [Option.elim, clipAt_neg _ 1 (Nat.le_refl 1)]
  rw [List.take_of_length_le (by simp)]
end

def endsF (us : List (List Nat)) : List Int := (arcs us.length).map fun r => ((us.take (r.toNat + 1)).flatten.length : Int) - 1
def dueD (us : List (List Nat)) (left : List Nat) : PyData := .list (((endsF us).zip us).map (fun p => .tuple [.int p.1, S p.2]) ++ [.tuple [.int ((left.length : Int) - 2), S [34]], .tuple [.int ((left.length : Int) - 1), S [92]]])

theorem esc_lay (ps : List (Nat × List Nat)) (h : ∀ p ∈ ps, PyData.strOk ⟨p.2.toArray⟩ = true) : (PyData.list (ps.map fun p => .tuple [.int p.1, S p.2])).canLay0 = true := by
  show PyData.canLayAll0 _ = true
  induction ps with
  | nil => rfl
  | cons p r ih =>
    show (PyData.canLay0 _ && PyData.canLayAll0 _) = true
    rw [ih fun q hq => h q (.tail _ hq), Bool.and_true]
    have := h p (.head _)
    simp only [PyData.canLay0, PyData.canLayAll0, Bool.and_true, Bool.true_and]
    exact this
theorem esc_depth (ps : List (Nat × List Nat)) : (PyData.list (ps.map fun p => .tuple [.int p.1, S p.2])).depth ≤ 64 := by
  have : PyData.depthAll (ps.map fun p => PyData.tuple [.int p.1, S p.2]) ≤ 3 := by
    induction ps with
    | nil => simp [PyData.depthAll]
    | cons p r ih =>
      simp only [List.map_cons, PyData.depthAll]
      have : (PyData.tuple [.int p.1, S p.2]).depth ≤ 3 := by simp [PyData.depth, PyData.depthAll]
      lia
  simp only [PyData.depth]
  lia

theorem law_B {C : Cx} {n : Nat} (P : Pg C) {a1 a2 a3 a5 a6 : Slot} {us : List (List Nat)} {text left : List Nat} {Φ : Out → Prop} (hus : us.length ≤ 20) (hul : us.flatten.length ≤ 400) (htl : text.length ≤ 400) (hll : left.length ≤ 400)
    (has : strIterType (tx left) = "str_ascii_iterator") (hdue : (PyData.list (escD left)) = dueD us left) (hso : ∀ p ∈ escL 0 false left, PyData.strOk ⟨p.2.toArray⟩ = true)
    (hm : ∀ m, FnD C (m + 1) 2 [S text, S left] (.bool (text == left)))
    (h : Ex C (n + 5) (fnS (topS 17)) lawNs (lawΓ a1 a2 a3 .un a5 a6 (.val (LS us)) (.val (S text)) (.val (S left)) .un (.val (L (endsF us))) (.val (dueD us left)) (.val (S (left ++ [45]))) (.val (S (45 :: left))) .un .un .un .un .un .un .un .un .un .un .un .un .un .un .un .un .un .un .un .un .un)
      ((fnB (topS 17)).drop 12) Φ) :
    Ex C (n + 5) (fnS (topS 17)) lawNs (lawΓ a1 a2 a3 .un a5 a6 (.val (LS us)) (.val (S text)) (.val (S left)) .un .un .un .un .un .un .un .un .un .un .un .un .un .un .un .un .un .un .un .un .un .un .un .un .un .un) ((fnB (topS 17)).drop 7) Φ := by
  have hcp0 : cp (Str.ofString "") = [] := by decide +kernel
  have hcpq : cp (Str.ofString "\"") = [34] := by decide +kernel
  have hcpb : cp (Str.ofString "\\") = [92] := by decide +kernel
  have hcpm : cp (Str.ofString "-") = [45] := by decide +kernel
  refine Ex.cons (E1.assignComp (ds := R us.length) (ns := [("units" : Str)]) (Γc := [.val (LS us)]) (gI fun r => ((us.take (r.toNat + 1)).flatten.length : Int) - 1) (Itr.range (n := us.length) (i := (us.length : Int)) P.B.W (by decide +kernel) (P.B.at (by decide +kernel)) (Ev.cg (Ev.f_lenL P.B (by decide +kernel) (by walk_at "name") (by simp; lia)) (by simp)) rfl (by lia)) (.cons (by walk_at "slt") (by decide +kernel) .nil)
    (fun i d hd => ?_) (by simp; lia) (by rw [R_map, fm_I]; show Upd _ _ _ (.val (L (endsF us))) _ _; walk_at "upd") (by decide +kernel) (by decide +kernel) (by decide) (fun e he => swaps_local he rfl (by decide +kernel) rfl (by decide +kernel))) ?_
  · rw [R_map] at hd
    obtain ⟨r, hr, rfl⟩ := mem_map_int hd
    have hm := List.mem_of_getElem? hr
    obtain ⟨r', hr', hrr⟩ := List.mem_map.mp hm
    have hrr' : r = (r' : Int) := hrr.symm
    subst hrr'
    have hlt := List.mem_range.mp hr'
    refine ⟨Tst.nil, fun y hy => ?_⟩
    cases hy
    have hfl : (us.take (r' + 1)).flatten.length ≤ 400 := by
      have h1 : us.flatten = (us.take (r' + 1)).flatten ++ (us.drop (r' + 1)).flatten := by rw [← List.flatten_append, List.take_append_drop]
      have h2 := congrArg List.length h1
      rw [List.length_append] at h2
      lia
    refine ⟨Ev.cg (Ev.bin (Ev.f_lenS (xs := (us.take (r' + 1)).flatten) P.B (by decide +kernel) (Ev.m_join (sep := []) (xs := us.take (r' + 1)) (Ev.cg Ev.cstr2 (by rw [hcp0])) (Ev.cg (Ev.uptoLS (ns := us) (i := (r' : Int) + 1) (by walk_at "name") (Ev.bin (by walk_at "name") Ev.cint Op2.addI) (by lia) (by lia)) (by rw [show ((r' : Int) + 1).toNat = r' + 1 by lia])) (glued_nil _) (join_ok _ (by lia))) (by lia)) Ev.cint Op2.subI) (by simp only [Int.toNat_natCast]), rfl⟩
  have hel : (endsF us).length = us.length := by simp [endsF, arcs]
  refine Ex.cons (E1.assign (d := dueD us left) (Ev.bin (Ev.listZip P.B (by decide +kernel) (by decide +kernel) (by walk_at "name") (by walk_at "name") hel (by lia)) (Ev.cg (d' := .list [.tuple [.int ((left.length : Int) - 2), S [34]], .tuple [.int ((left.length : Int) - 1), S [92]]]) (by walk_at "go" <;> first | lia | simp) (by rw [hcpq, hcpb])) (Op2.addL (by simp; lia))) (by walk_at "upd") (by decide +kernel)) ?_
  have hlay : (PyData.list (escD left)).canLay0 = true := esc_lay _ hso
  refine Ex.cons (E1.ite (b := false) (Tr.cg (Tr.cmp (d₁ := .list (escD left)) (d₂ := dueD us left) (Ev.listGen P has (by decide +kernel) (by decide +kernel) (by walk_at "name") (by lia) (by lia)) (by walk_at "name") (Op2.neD hlay (hdue ▸ hlay) (esc_depth _))) (by rw [← hdue, SeqAt.eqv_refl _ hlay]; rfl)) (by simp) (fun _ => Ex.nil')) ?_
  refine Ex.cons (E1.ite (b := false) (Tr.cg (Tr.cmp (Ev.call P 2 (by decide) (by decide +kernel) (by decide +kernel) (EvL.cons (by walk_at "name") (EvL.cons (by walk_at "name") EvL.nil)) (hm (n + 4)) (by decide)) (by walk_at "go") Op2.isnB) (by simp)) (by simp) (fun _ => Ex.nil')) ?_
  refine Ex.cons (E1.assignSw (names := [Str.ofString "longer", Str.ofString "later"]) (ds := [S (left ++ [45]), S (45 :: left)]) (Ev.cg (by walk_at "go" <;> first | (rw [hcpm]; simp; lia) | simp) (by rw [hcpm]; rfl)) rfl
      (show Sto C _ _ _ [Str.ofString "later", Str.ofString "longer"] [S (45 :: left), S (left ++ [45])] _ from Sto.cons (by walk_at "upd") (by decide +kernel) (Sto.cons (by walk_at "upd") (by decide +kernel) Sto.nil)) ?_) ?_
  · intro e he
    unfold swappedStores
    simp only [Env.blockKind, Env.kindOf, he]
    rfl
  exact h
end

-- text W13
section


local macro_rules | `(tactic| walk_at "usr") => `(tactic| first
  | ((with_reducible apply Ev.initS); (focus (walk_at "name"))) | ((with_reducible apply Ev.lastS); (focus (walk_at "name"))))

def pairsT (left : List Nat) : List (List Nat × List Nat) := [(left, left), (left ++ [46, 46, 46], left ++ [45]), ([46, 46, 46] ++ left, 45 :: left), (left.take (left.length - 1) ++ [46, 46, 46] ++ left.drop (left.length - 1), left)]
def pairsN (left : List Nat) : List (List Nat × List Nat) := [(left ++ [46, 46, 46], 45 :: left), ([46, 46, 46] ++ left, left ++ [45]), (left ++ [46, 46, 46] ++ left.drop (left.length - 1), left), (left, left ++ [45]), (left, 45 :: left)]
def pairD (p : List Nat × List Nat) : PyData := .tuple [S p.1, S p.2]

theorem law_C {C : Cx} {n : Nat} (P : Pg C) {a1 a2 a3 a5 a6 a7 a8 b1 b2 : Slot} {left : List Nat} {Φ : Out → Prop} (hll : left.length ≤ 400)
    (hT : ∀ m, ∀ p ∈ pairsT left, FnD C (m + 1) 2 [S p.1, S p.2] (.bool true)) (hN : ∀ m, ∀ p ∈ pairsN left, FnD C (m + 1) 2 [S p.1, S p.2] (.bool false))
    (h : Ex C (n + 5) (fnS (topS 17)) lawNs (lawΓ a1 a2 a3 .un a5 a6 a7 a8 (.val (S left)) .un b1 b2 .un .un .un .un .un .un .un .un .un .un .un .un .un .un .un .un .un .un .un .un .un .un .un)
      ((fnB (topS 17)).drop 15) Φ) :
    Ex C (n + 5) (fnS (topS 17)) lawNs (lawΓ a1 a2 a3 .un a5 a6 a7 a8 (.val (S left)) .un b1 b2 (.val (S (left ++ [45]))) (.val (S (45 :: left))) .un .un .un .un .un .un .un .un .un .un .un .un .un .un .un .un .un .un .un .un .un) ((fnB (topS 17)).drop 12) Φ := by
  have hcpd : cp (Str.ofString "...") = [46, 46, 46] := by decide +kernel
  have hi : (left.take (left.length - 1)).length ≤ 400 := by simp; lia
  have hd : (left.drop (left.length - 1)).length ≤ 400 := by simp; lia
  refine Ex.cons (E1.for_ (fun _ => lawΓ a1 a2 a3 .un a5 a6 a7 a8 (.val (S left)) .un b1 b2 (.val (S (left ++ [45]))) (.val (S (45 :: left))) .un .un .un .un .un .un .un .un .un .un .un .un .un .un .un .un .un .un .un .un .un)
    (Itr.tuple (Ev.cg (d' := .tuple ((pairsT left).map pairD)) (by walk_at "go" <;> first | lia | (simp only [hcpd, List.length_append, List.length_cons, List.length_nil]; lia) | trace_state) (by rw [hcpd]; rfl))) (GLe.refl _) (fun i d hd => ?_) rfl) ?_
  · have hm := List.mem_of_getElem? hd
    obtain ⟨p, hp, rfl⟩ := List.mem_map.mp hm
    refine ⟨_, Bnd.tup (BndL.cons (Bnd.name (by walk_at "upd") (by decide +kernel)) (BndL.cons (Bnd.name (by walk_at "upd") (by decide +kernel)) BndL.nil)), ?_⟩
    refine Ex.last (E1.ite (b := false) (Tr.cg (Tr.cmp (Ev.call P 2 (by decide) (by decide +kernel) (by decide +kernel) (EvL.cons (by walk_at "name") (EvL.cons (by walk_at "name") EvL.nil)) (hT (n + 4) p hp) (by decide)) (by walk_at "go") Op2.isnB) (by simp)) (by simp) (fun _ => Ex.nil (Or.inl ⟨_, Or.inl rfl, ?_⟩)))
    repeat' first | exact GLe.nil | apply GLe.cons | exact SLe.same | exact SLe.un
  refine Ex.cons (E1.assign (d := .list ((pairsN left).map pairD)) (Ev.cg (by walk_at "go" <;> first | lia | (simp only [hcpd, List.length_append, List.length_cons, List.length_nil]; lia) | trace_state) (by rw [hcpd]; rfl)) (by walk_at "upd") (by decide +kernel)) ?_
  refine Ex.cons (E1.for_ (fun _ => lawΓ a1 a2 a3 .un a5 a6 a7 a8 (.val (S left)) .un b1 b2 .un .un .un .un .un .un .un .un .un .un .un .un .un .un .un .un .un .un .un .un .un .un .un)
    (Itr.list (by walk_at "name")) (by repeat' first | exact GLe.nil | apply GLe.cons | exact SLe.same | exact SLe.un) (fun i d hd => ?_) rfl) h
  · have hm := List.mem_of_getElem? hd
    obtain ⟨p, hp, rfl⟩ := List.mem_map.mp hm
    refine ⟨_, Bnd.tup (BndL.cons (Bnd.name (by walk_at "upd") (by decide +kernel)) (BndL.cons (Bnd.name (by walk_at "upd") (by decide +kernel)) BndL.nil)), ?_⟩
    refine Ex.last (E1.ite (b := false) (Tr.cg (Tr.cmp (Ev.call P 2 (by decide) (by decide +kernel) (by decide +kernel) (EvL.cons (by walk_at "name") (EvL.cons (by walk_at "name") EvL.nil)) (hN (n + 4) p hp) (by decide)) (by walk_at "go") Op2.isnB) (by simp)) (by simp) (fun _ => Ex.nil (Or.inl ⟨_, Or.inl rfl, ?_⟩)))
    repeat' first | exact GLe.nil | apply GLe.cons | exact SLe.same | exact SLe.un
end

-- text W14
section


abbrev lawM (s0 s1 s7 s10 s11 : Slot) (w : Nat → Nat) (cut live : List Nat) (left : List Nat) (k n masks crossed i j head tail mask sign : Slot) : List Slot :=
  lawΓ s0 s1 (.val (L (toI (waysN w)))) k (.val (L (toI cut))) (.val (L (toI live))) (.val (LS (unitsN cut w))) s7 (.val (S left)) n s10 s11 .un .un .un .un .un masks crossed i j head tail mask sign .un .un .un .un .un .un .un .un .un .un
def headF (us : List (List Nat)) (i : Nat) : List Nat := (us.take (i + 1)).flatten ++ [46, 46, 46]
def tailF (us : List (List Nat)) (left : List Nat) (j : Nat) : List Nat := [46, 46, 46] ++ left.drop (us.take j).flatten.length
def bitM (w : Nat → Nat) (one two : Nat → Nat → Bool) (k q : Nat) : Nat := if q = k then w k - 1 else if one k q = true ∧ two k q = false then 1 else 0
def maskP (w : Nat → Nat) (one two : Nat → Nat → Bool) (live : List Nat) (k m : Nat) : Nat := ((List.range m).map fun n => 2 ^ n * bitM w one two k (live.getD n 0)).sum
def midF (cut : List Int) (i j : Nat) : List Int := ((cut.drop (i + 1)).take (j - (i + 1))).filter fun y => ((cut.drop (i + 1)).take (j - (i + 1))).count y == 1
def crossB (w : Nat → Nat) (cut : List Int) (I J : Nat → Nat) (k : Nat) : Bool := w k == 2 || !(midF cut (I k) (J k)).isEmpty
theorem unitL_len (k q : Nat) : (unitL k q).length ≤ 100 := by
  unfold unitL
  split
  · simp
  · split <;> simp
theorem lay_L (ns : List Int) : (L ns).canLay0 = true := by
  show PyData.canLayAll0 (ns.map PyData.int) = true
  induction ns with
  | nil => rfl
  | cons a r ih => show (PyData.canLay0 _ && PyData.canLayAll0 _) = true; rw [ih, Bool.and_true]; rfl
theorem dep_L (ns : List Int) : (L ns).depth ≤ 64 := by
  have : PyData.depthAll (ns.map PyData.int) ≤ 1 := by
    induction ns with
    | nil => simp [PyData.depthAll]
    | cons a r ih => simp only [List.map_cons, PyData.depthAll]; have : (PyData.int a).depth ≤ 1 := by simp [PyData.depth]
                     lia
  show PyData.depth (.list _) ≤ 64
  simp only [PyData.depth]
  lia
theorem eqv_L (ns : List Int) : PyData.eqv (L ns) (.list []) = ns.isEmpty := by
  cases ns <;> rfl
theorem maskP_succ (w : Nat → Nat) (one two : Nat → Nat → Bool) (live : List Nat) (k m : Nat) : maskP w one two live k (m + 1) = maskP w one two live k m + 2 ^ m * bitM w one two k (live.getD m 0) := by
  simp [maskP, List.range_succ]
theorem toI_get {ns : List Nat} {m : Nat} (h : m < ns.length) {C : Cx} {k : Nat} {sc : Scope} {nm : List Str} {Γ : List Slot} {o a : Expr} {pos : Pos} (h₀ : Ev C k sc nm Γ o (L (toI ns))) (h₁ : Ev C k sc nm Γ a (.int m)) (hsz : ns.length ≤ 1000)
    (hs : ∀ o i, subscripted a false o i = operate [o, i] (getItem o i) := by intro _ _; rfl) : Ev C k sc nm Γ (.Subscript o a pos) (.int (ns.getD m 0)) := by
  have hl : (toI ns).length = ns.length := by simp [toI]
  refine (Ev.item h₀ h₁ (Itm.listL (by rw [hl, sidx_nat h]; rfl) (by lia)) hs).cg ?_
  rw [hl, sidx_nat h]
  simp [toI, h]

theorem law_D {C : Cx} {n : Nat} (P : Pg C) {s0 s1 s7 s10 s11 : Slot} {w : Nat → Nat} {cut live left : List Nat} {I J : Nat → Nat} {one two : Nat → Nat → Bool} {Φ : Out → Prop}
    (hw : ∀ k, w k < 3) (hcl : cut.length ≤ 20) (hl : live.length ≤ 4) (hl4 : ∀ k ∈ live, k < 4) (hl0 : ∀ k ∈ live, w k ≠ 0) (hll : left.length ≤ 400) (hul : (unitsN cut w).flatten.length ≤ 400)
    (hT : ∀ k ∈ live, Twice (toI cut) k (I k) (J k))
    (h1 : ∀ m, ∀ k ∈ live, ∀ q ∈ live, q ≠ k → FnD C (m + 1) 2 [S (headF (unitsN cut w) (I k) ++ unitL q (w q) ++ tailF (unitsN cut w) left (J k)), S left] (.bool (one k q)))
    (h2 : ∀ m, ∀ k ∈ live, ∀ q ∈ live, q ≠ k → FnD C (m + 1) 2 [S (headF (unitsN cut w) (I k) ++ unitL q (w q) ++ [46, 46, 46] ++ unitL q (w q) ++ tailF (unitsN cut w) left (J k)), S left] (.bool (two k q)))
    (h : Ex C (n + 5) (fnS (topS 17)) lawNs (lawM s0 s1 s7 s10 s11 w cut live left .un .un (.own ((live.map fun k => (maskP w one two live k live.length : Int)).map .int)) (.val (.int (live.countP (crossB w (toI cut) I J)))) .un .un .un .un .un .un)
      ((fnB (topS 17)).drop 17) Φ) :
    Ex C (n + 5) (fnS (topS 17)) lawNs (lawM s0 s1 s7 s10 s11 w cut live left .un .un .un .un .un .un .un .un .un .un) ((fnB (topS 17)).drop 15) Φ := by
  have hcpd : cp (Str.ofString "...") = [46, 46, 46] := by decide +kernel
  have hcp0 : cp (Str.ofString "") = [] := by decide +kernel
  refine Ex.cons (E1.nilVal (Γ₁ := lawM s0 s1 s7 s10 s11 w cut live left .un .un .un (.val (.int 0)) .un .un .un .un .un .un) (d := .int 0) Ev.cint rfl (by walk_at "upd") (by walk_at "upd") (by decide +kernel) (by decide +kernel) (fun e he => by unfold swappedStores; simp only [Env.blockKind, Env.kindOf, he]; rfl)) ?_
  refine Ex.cons (E1.for_ (fun m => lawM s0 s1 s7 s10 s11 w cut live left .un .un (.own (((live.take m).map fun k => (maskP w one two live k live.length : Int)).map .int)) (.val (.int ((live.take m).countP (crossB w (toI cut) I J)))) .un .un .un .un .un .un)
    (Itr.list (by walk_at "name")) (GLe.refl _) (fun m d hd => ?_) rfl) ?_
  · obtain ⟨r, hr, rfl⟩ := mem_map_int hd
    have hm := hr
    unfold toI at hm
    rw [List.getElem?_map] at hm
    obtain ⟨k, hk, hrr⟩ := Option.map_eq_some_iff.mp hm
    have hrr' : r = (k : Int) := hrr.symm
    subst hrr'
    have hkm : k ∈ live := List.mem_of_getElem? hk
    have T := hT k hkm
    have hk4 := hl4 k hkm
    refine ⟨_, Bnd.name (by walk_at "upd") (by decide +kernel), ?_⟩
    have hij := T.ij
    have hjn : J k < cut.length := by have := T.jn; simpa [toI] using this
    have htu : ∀ t, ((unitsN cut w).take t).flatten.length ≤ 400 := fun t => by
      have e1 : (unitsN cut w).flatten = ((unitsN cut w).take t).flatten ++ ((unitsN cut w).drop t).flatten := by rw [← List.flatten_append, List.take_append_drop]
      have e2 := congrArg List.length e1
      rw [List.length_append] at e2
      lia
    have hul4 : ∀ k q, (unitL k q).length ≤ 100 := unitL_len
    refine Ex.cons (E1.assignT (d := .tuple [.int (I k : Nat), .int (J k : Nat)]) (Ev.tuple (EvL.cons (T.idx (by walk_at "name") (by walk_at "name") (by simp [toI]; lia)) (EvL.cons (Ev.call P 15 (by decide) (by decide +kernel) (by decide +kernel) (EvL.cons (by walk_at "name") (EvL.cons (by walk_at "name") EvL.nil)) (T.second P (by simp [toI]; lia)) (by decide)) EvL.nil)) (by simp))
      (Bnd.tup (BndL.cons (Bnd.name (by walk_at "upd") (by decide +kernel)) (BndL.cons (Bnd.name (by walk_at "upd") (by decide +kernel)) BndL.nil))) (hw := fun e he => by unfold swappedStores; simp only [Env.blockKind, Env.kindOf, he]; rfl)) ?_
    refine Ex.cons (E1.assign (d := S (headF (unitsN cut w) (I k))) (Ev.bin (Ev.m_join (sep := []) (xs := (unitsN cut w).take (I k + 1)) (Ev.cg Ev.cstr2 (by rw [hcp0])) (Ev.cg (Ev.uptoLS (ns := unitsN cut w) (i := (I k : Int) + 1) (by walk_at "name") (Ev.bin (by walk_at "name") Ev.cint Op2.addI) (by lia) (by simp [unitsN]; lia)) (by rw [show ((I k : Int) + 1).toNat = I k + 1 by lia])) (glued_nil _) (join_ok _ (by have := htu (I k + 1); lia)))
      (Ev.cg (d' := S [46, 46, 46]) Ev.cstr2 (by rw [hcpd])) (Op2.addS (by have := htu (I k + 1); simp only [List.length_append, List.length_cons, List.length_nil]; lia))) (by walk_at "upd") (by decide +kernel)) ?_
    refine Ex.cons (E1.assign (d := S (tailF (unitsN cut w) left (J k))) (Ev.bin (Ev.cg (d' := S [46, 46, 46]) Ev.cstr2 (by rw [hcpd])) (Ev.cg (Ev.fromS (x := left) (by walk_at "name") (Ev.f_lenS (xs := ((unitsN cut w).take (J k)).flatten) P.B (by decide +kernel) (Ev.m_join (sep := []) (xs := (unitsN cut w).take (J k)) (Ev.cg Ev.cstr2 (by rw [hcp0])) (Ev.cg (Ev.uptoLS (ns := unitsN cut w) (i := (J k : Int)) (by walk_at "name") (by walk_at "name") (by lia) (by simp [unitsN]; lia)) (by rw [Int.toNat_natCast])) (glued_nil _) (join_ok _ (by have := htu (J k); lia))) (by have := htu (J k); lia)) (by lia) (by lia)) (by rw [Int.toNat_natCast])) (Op2.addS (by simp only [List.length_append, List.length_cons, List.length_nil, List.length_drop]; lia))) (by walk_at "upd") (by decide +kernel)) ?_
    refine Ex.cons (E1.assign (d := .int 0) Ev.cint (by walk_at "upd") (by decide +kernel)) ?_
    refine Ex.cons (E1.for_ (fun m' => lawM s0 s1 s7 s10 s11 w cut live left (.val (.int k)) .un (.own (((live.take m).map fun k => (maskP w one two live k live.length : Int)).map .int)) (.val (.int ((live.take m).countP (crossB w (toI cut) I J)))) (.val (.int (I k : Nat))) (.val (.int (J k : Nat))) (.val (S (headF (unitsN cut w) (I k)))) (.val (S (tailF (unitsN cut w) left (J k)))) (.val (.int (maskP w one two live k m' : Nat))) .un)
      (Itr.range (n := live.length) (i := (live.length : Int)) P.B.W (by decide +kernel) (P.B.at (by decide +kernel)) (Ev.cg (Ev.f_lenL P.B (by decide +kernel) (by walk_at "name") (by simp [toI]; lia)) (by simp [toI])) rfl (by lia)) (GLe.refl _) (fun m' d hd => ?_) rfl) ?_
    · obtain ⟨hm', rfl⟩ := R_get hd
      have hqm : live.getD m' 0 ∈ live := by
        rw [List.getD_eq_getElem?_getD, List.getElem?_eq_getElem hm']
        exact List.getElem_mem hm'
      have hq4 := hl4 _ hqm
      have hbit := maskP_succ w one two live k m'
      have H1 := fun m => h1 m k hkm _ hqm
      have H2 := fun m => h2 m k hkm _ hqm
      have hqw := hw (live.getD m' 0)
      have hkw := hw k
      have hul1 := hul4 (live.getD m' 0) (w (live.getD m' 0))
      generalize maskP w one two live k (m' + 1) = mk1 at *
      generalize maskP w one two live k m' = mk0 at *
      refine ⟨_, Bnd.name (by walk_at "upd") (by decide +kernel), ?_⟩
      refine Ex.cons (E1.assign (d := S (unitL (live.getD m' 0) (w (live.getD m' 0)))) (Ev.call P 14 (by decide) (by decide +kernel) (by decide +kernel) (EvL.cons (toI_get hm' (by walk_at "name") (by walk_at "name") (by lia)) (EvL.cons (way_at hq4 (by walk_at "name") (toI_get hm' (by walk_at "name") (by walk_at "name") (by lia))) EvL.nil)) (law_unit P hq4 hqw) (by decide)) (by walk_at "upd") (by decide +kernel)) ?_
      generalize hq : live.getD m' 0 = q at *
      have hfin : ∀ (Φ : Out → Prop) (o : Out), o = Out.next (lawM s0 s1 s7 s10 s11 w cut live left (.val (.int k)) (.val (.int m')) (.own (((live.take m).map fun k => (maskP w one two live k live.length : Int)).map .int)) (.val (.int ((live.take m).countP (crossB w (toI cut) I J)))) (.val (.int (I k : Nat))) (.val (.int (J k : Nat))) (.val (S (headF (unitsN cut w) (I k)))) (.val (S (tailF (unitsN cut w) left (J k)))) (.val (.int (mk1 : Nat))) (.val (S (unitL q (w q))))) →
          (∃ Γ', (o = .next Γ' ∨ o = .cont Γ') ∧ GLe Γ' (lawM s0 s1 s7 s10 s11 w cut live left (.val (.int k)) .un (.own (((live.take m).map fun k => (maskP w one two live k live.length : Int)).map .int)) (.val (.int ((live.take m).countP (crossB w (toI cut) I J)))) (.val (.int (I k : Nat))) (.val (.int (J k : Nat))) (.val (S (headF (unitsN cut w) (I k)))) (.val (S (tailF (unitsN cut w) left (J k)))) (.val (.int (mk1 : Nat))) .un)) ∨ (∃ r, o = .ret r ∧ Φ (.ret r)) := by
        rintro Φ o rfl
        refine .inl ⟨_, .inl rfl, ?_⟩
        repeat' first | exact GLe.nil | apply GLe.cons | exact SLe.same | exact SLe.un
      have hpow : ((2 : Int) ^ ((m' : Int)).toNat) = ((2 ^ m' : Nat) : Int) := by rw [Int.toNat_natCast]; push_cast; rfl
      have hp8 : 2 ^ m' ≤ 8 := Nat.pow_le_pow_right (by lia) (by lia : m' ≤ 3)
      refine Ex.last ((E1.ite (b := (q : Int) == k) (Tr.cmp (Ev.cg (toI_get hm' (by walk_at "name") (by walk_at "name") (by lia)) (by rw [hq])) (by walk_at "name") Op2.eqI) (fun hqk => ?_) (fun hqk => ?_)).mono (hfin _))
      · have hqk : q = k := by have := of_decide_eq_true hqk; lia
        subst hqk
        refine Ex.last (E1.aug (d := .int (mk1 : Nat)) (by walk_at "slt") (by decide +kernel) (d₁ := .int (2 ^ m' * (w q - 1) : Nat)) ?_ ?_ (by walk_at "upd") (by decide +kernel))
        · have h0 := hl0 q hkm
          have e1 : ((2 ^ m' * (w q - 1) : Nat) : Int) = (2 : Int) ^ ((m' : Int)).toNat * ((w q : Int) - 1) := by
            rw [hpow, show ((w q : Int) - 1) = ((w q - 1 : Nat) : Int) by lia]; exact Int.natCast_mul _ _
          rw [e1]
          refine Ev.bin (Ev.bin Ev.cint (by walk_at "name") (Op2.powI (by decide) (by lia) (by lia))) (Ev.bin (way_at hk4 (by walk_at "name") (by walk_at "name")) Ev.cint Op2.subI) (Op2.mulI ?_)
          rw [hpow]
          clear hbit
          generalize 2 ^ m' = z at hp8 ⊢
          constructor <;> lia
        · rw [hbit]
          unfold bitM
          rw [if_pos rfl]
          push_cast
          exact Op2.iaddI
      · have hqk : q ≠ k := by have := of_decide_eq_false hqk; lia
        unfold bitM at hbit
        rw [if_neg hqk] at hbit
        have lens : (headF (unitsN cut w) (I k)).length ≤ 403 ∧ (tailF (unitsN cut w) left (J k)).length ≤ 403 := by
          have := htu (I k + 1)
          constructor <;> simp only [headF, tailF, List.length_append, List.length_cons, List.length_nil, List.length_drop] <;> lia
        refine Ex.last (E1.ite (b := one k q) (Tr.cg (Tr.cmp (Ev.call P 2 (by decide) (by decide +kernel) (by decide +kernel) (EvL.cons (Ev.bin (Ev.bin (by walk_at "name") (by walk_at "name") (Op2.addS (by first | lia | (simp only [List.length_append]; lia)))) (by walk_at "name") (Op2.addS (by first | lia | (simp only [List.length_append]; lia)))) (EvL.cons (by walk_at "name") EvL.nil)) (H1 (n + 4) hqk) (by decide)) (by walk_at "go") Op2.isB) (by simp)) (fun ho => ?_) (fun ho => ?_))
        · refine Ex.last (E1.ite (b := !two k q) (Tr.cg (Tr.cmp (Ev.call P 2 (by decide) (by decide +kernel) (by decide +kernel) (EvL.cons (Ev.bin (Ev.bin (Ev.bin (Ev.bin (by walk_at "name") (by walk_at "name") (Op2.addS (by first | lia | (simp only [List.length_append]; lia)))) (Ev.cg (d' := S [46, 46, 46]) Ev.cstr2 (by rw [hcpd])) (Op2.addS (by simp only [List.length_append, List.length_cons, List.length_nil]; lia))) (by walk_at "name") (Op2.addS (by simp only [List.length_append, List.length_cons, List.length_nil]; lia))) (by walk_at "name") (Op2.addS (by simp only [List.length_append, List.length_cons, List.length_nil]; lia))) (EvL.cons (by walk_at "name") EvL.nil)) (H2 (n + 4) hqk) (by decide)) (by walk_at "go") Op2.isB) (by simp)) (fun ht => ?_) (fun ht => ?_))
          · have ht : two k q = false := by simpa using ht
            rw [if_pos ⟨ho, ht⟩] at hbit
            refine Ex.last (E1.aug (d := .int (mk1 : Nat)) (by walk_at "slt") (by decide +kernel) (d₁ := .int (2 ^ m' : Nat)) ?_ ?_ (by walk_at "upd") (by decide +kernel))
            · rw [← hpow]
              exact Ev.bin Ev.cint (by walk_at "name") (Op2.powI (by decide) (by lia) (by lia))
            · rw [hbit, Nat.mul_one]
              push_cast
              exact Op2.iaddI
          · have ht : two k q = true := by simpa using ht
            rw [if_neg (by simp [ht])] at hbit
            rw [hbit, Nat.mul_zero, Nat.add_zero]
            exact Ex.nil'
        · rw [if_neg (by simp [ho])] at hbit
          rw [hbit, Nat.mul_zero, Nat.add_zero]
          exact Ex.nil'
    have hnext : live.take (m + 1) = live.take m ++ [k] := by rw [List.take_add_one, hk, Option.toList_some]
    refine Ex.cons (E1.append (by walk_at "slt") (by decide +kernel) (by walk_at "name") rfl (by simp; lia) (by walk_at "upd")) ?_
    have hfin : ∀ (Φ : Out → Prop) (o : Out), o = Out.next (lawM s0 s1 s7 s10 s11 w cut live left (.val (.int k)) .un (.own ((((live.take m).map fun k => (maskP w one two live k live.length : Int)).map .int) ++ [.int (maskP w one two live k live.length : Nat)])) (.val (.int ((live.take (m + 1)).countP (crossB w (toI cut) I J)))) (.val (.int (I k : Nat))) (.val (.int (J k : Nat))) (.val (S (headF (unitsN cut w) (I k)))) (.val (S (tailF (unitsN cut w) left (J k)))) (.val (.int (maskP w one two live k live.length : Nat))) .un) →
        (∃ Γ', (o = .next Γ' ∨ o = .cont Γ') ∧ GLe Γ' (lawM s0 s1 s7 s10 s11 w cut live left .un .un (.own (((live.take (m + 1)).map fun k => (maskP w one two live k live.length : Int)).map .int)) (.val (.int ((live.take (m + 1)).countP (crossB w (toI cut) I J)))) .un .un .un .un .un .un)) ∨ (∃ r, o = .ret r ∧ Φ (.ret r)) := by
      rintro Φ o rfl
      refine .inl ⟨_, .inl rfl, ?_⟩
      have : (((live.take (m + 1)).map fun k => (maskP w one two live k live.length : Int)).map PyData.int) = ((((live.take m).map fun k => (maskP w one two live k live.length : Int)).map PyData.int) ++ [PyData.int (maskP w one two live k live.length : Nat)]) := by
        rw [hnext]; simp
      rw [this]
      repeat' first | exact GLe.nil | apply GLe.cons | exact SLe.same | exact SLe.un
    have hR : (R live.length).length = live.length := by simp
    rw [hR]
    refine Ex.last ((E1.ite (b := crossB w (toI cut) I J k) (Tr.or (AllT.or_cons (Tr.cg (Tr.cmp (way_at hk4 (by walk_at "name") (by walk_at "name")) Ev.cint Op2.eqI) (?_ : _ = (w k == 2))) (fun _ => ?_))) (fun hb => ?_) (fun hb => ?_)).mono (hfin _))
    · rw [Bool.eq_iff_iff]; simp; lia
    · rw [← Bool.or_false (!(midF (toI cut) (I k) (J k)).isEmpty)]
      refine AllT.or_cons (Tr.cg (Tr.cmp (d₁ := L (midF (toI cut) (I k) (J k))) (d₂ := .list []) (Ev.cg (Ev.ofF (EvF.comp (ds := (((toI cut).drop (I k + 1)).take (J k - (I k + 1))).map PyData.int) (ns := [("cut" : Str), ("i" : Str), ("j" : Str)]) (Γc := [.val (L (toI cut)), .val (.int (I k : Nat)), .val (.int (J k : Nat))]) (gF fun y => (((toI cut).drop (I k + 1)).take (J k - (I k + 1))).count y == 1)
        (Itr.list (Ev.cg (Ev.midL (ns := toI cut) (by walk_at "name") (Ev.bin (by walk_at "name") Ev.cint Op2.addI) (by walk_at "name") (by lia) (by lia) (by simp [toI]; lia)) (by rw [show ((I k : Int) + 1).toNat = I k + 1 by lia, Int.toNat_natCast])))
        (.cons (by walk_at "slt") (by decide +kernel) (.cons (by walk_at "slt") (by decide +kernel) (.cons (by walk_at "slt") (by decide +kernel) .nil)))
        (fun i d hd => ?_) (by simp [toI]; lia) (by decide +kernel) (by decide))) (by rw [fm_F]; rfl)) (Ev.list EvL.nil (by simp)) (Op2.neD ?_ rfl ?_)) ?_) (fun _ => AllT.or_nil)
      · obtain ⟨r, hr, rfl⟩ := mem_map_int hd
        generalize hgp : ((toI cut).drop (I k + 1)).take (J k - (I k + 1)) = gp
        have e : gF (fun y => gp.count y == 1) (.int r) = if (gp.count r == 1) = true then some (.int r) else none := rfl
        rw [e]
        refine ⟨?_, fun y hy => ?_⟩
        · refine Tst.one (Tr.cg (Tr.cmp (Ev.m_count (ns := gp) (Ev.cg (Ev.midL (ns := toI cut) (by walk_at "name") (Ev.bin (by walk_at "name") Ev.cint Op2.addI) (by walk_at "name") (by lia) (by lia) (by simp [toI]; lia)) (by rw [show ((I k : Int) + 1).toNat = I k + 1 by lia, Int.toNat_natCast, hgp])) (by walk_at "name")) Ev.cint Op2.eqI) ?_)
          by_cases h : gp.count r = 1
          · simp [h]
          · have : (gp.count r == 1) = false := by simpa using h
            rw [this]; simp; lia
        · by_cases h : (gp.count r == 1) = true
          · rw [if_pos h] at hy
            cases hy
            exact ⟨by walk_at "name", rfl⟩
          · rw [if_neg h] at hy; cases hy
      · exact lay_L _
      · exact dep_L _
      · rw [eqv_L]
    · have : (live.take (m + 1)).countP (crossB w (toI cut) I J) = (live.take m).countP (crossB w (toI cut) I J) + 1 := by
        rw [hnext, List.countP_append]; simp [List.countP_cons, hb]
      rw [this]
      refine Ex.last (E1.aug (d := .int (((live.take m).countP (crossB w (toI cut) I J) + 1 : Nat) : Int)) (by walk_at "slt") (by decide +kernel) Ev.cint ?_ (by walk_at "upd") (by decide +kernel))
      push_cast
      exact Op2.iaddI
    · have : (live.take (m + 1)).countP (crossB w (toI cut) I J) = (live.take m).countP (crossB w (toI cut) I J) := by
        rw [hnext, List.countP_append]; simp [List.countP_cons, hb]
      rw [this]
      exact Ex.nil'
  · rw [List.take_of_length_le (by simp [toI])]
    exact h
end

-- text W15
section


section
variable {C : Cx} {k : Nat} {sc : Scope} {nm : List Str} {Γ : List Slot}
theorem Tr.typeInt {fpos npos pos cpos : Pos} {x : Expr} {i : Int} (B : Bl C) (hx : sc.names.lookup ("type" : Str) = some .globalImplicit) (hx2 : sc.names.lookup ("int" : Str) = some .globalImplicit) (h : Ev C k sc nm Γ x (.int i))
    (he : ∀ e, starEach [x] e = (false, eval x e) :: starEach [] e := by intro _; rfl) (hp : ∀ e, (backTo pos (starEach [x] e)).any (·.1) = false := by intro _; rfl)
    (hm : behindInMarks .IsNot (.Name "int" npos) = false := by with_unfolding_all rfl) :
    Tr C k sc nm Γ (.Compare (.Call (.Name "type" fpos) [x] [] pos) [.IsNot] [.Name "int" npos] cpos) false := by
  refine ⟨?_⟩; intro A e N Sg s a E ok
  have hk : e.scope.kind = .function := by rw [E.scope]; exact E.kind
  refine wpAny_isTrue_Compare1 ?_ hm
  show wpAny _ A (do callWith pos (← eval (.Name "type" fpos) e) [] (backTo pos (starEach [x] e)) (backToKw pos (keywordEach [] e))) _ _ s
  refine wpAny_bind (Calls.Name_function_global hk (by unfold Env.kindOf; rw [E.scope]; exact hx) ?_ (plainName.dbg (by decide +kernel)))
  refine Calls.loadGlobal_builtin (by rw [E.glob]; exact B.W.g.keeps ok.base) (B.at (by decide +kernel)) (by rw [E.blt]; exact B.W.b.keeps ok.base) ((B.W.bts "type" (by decide +kernel)).trans (show bootBuiltins "type" = some (.type "type") by decide +kernel)) ?_
  refine PyProof.Rows.callWith_type (hp e) (args_ (EvL.cons h EvL.nil he) a E ok (hp e) fun vs s₂ r₂ k₂ o₂ => ?_)
  obtain ⟨v, w, rfl, h1, h2⟩ := r₂.cons_inv
  obtain rfl := h2.nil_inv
  obtain ⟨t, rfl⟩ := h1.int_inv
  refine call_type_of (Tx := "int") (by trivial) (by decide +kernel) ?_
  refine Calls.Name_function_global hk (by unfold Env.kindOf; rw [E.scope]; exact hx2) ?_ (plainName.dbg (by decide +kernel))
  refine Calls.loadGlobal_builtin (by rw [E.glob]; exact B.W.g.keeps o₂.base) (B.at (by decide +kernel)) (by rw [E.blt]; exact B.W.b.keeps o₂.base) ((B.W.bts "int" (by decide +kernel)).trans (show bootBuiltins "int" = some (.type "int") by decide +kernel)) ?_
  refine wpAny_isNot_self (by rfl) ?_
  exact wpAny_truthy_bool ⟨rfl, k₂⟩
end
end

-- text W16
section


abbrev lawT (s0 s1 s7 s10 s11 : Slot) (w : Nat → Nat) (cut live left : List Nat) (msk : List Nat) (cr : Nat) (n plain quiet total t word odd far : Slot) : List Slot :=
  lawΓ s0 s1 (.val (L (toI (waysN w)))) .un (.val (L (toI cut))) (.val (L (toI live))) (.val (LS (unitsN cut w))) s7 (.val (S left)) n s10 s11 .un .un .un .un .un (.val (L (toI msk))) (.val (.int (cr : Nat))) .un .un .un .un .un .un plain quiet total t word odd far .un .un .un
def plainF (l : Nat) : List Nat := [97, 98, 99, 100].take l
def parT : List Nat := [48, 49, 49, 48, 49, 48, 48, 49, 49, 48, 48, 49, 48, 49, 49, 48]
def oddB (m t : Nat) : Bool := parT.getD (m &&& t) 0 == 49
def wordP (msk : List Nat) (t m : Nat) : List Nat := (List.range m).map fun n => if oddB (msk.getD n 0) t then 65 + n else 97 + n
theorem wordP_succ (msk : List Nat) (t m : Nat) : wordP msk t (m + 1) = wordP msk t m ++ [if oddB (msk.getD m 0) t then 65 + m else 97 + m] := by simp [wordP, List.range_succ]
theorem band16 : ∀ m < 16, ∀ t < 16, Builtin.bitAnd (m : Nat) (t : Nat) = ((m &&& t : Nat) : Int) ∧ m &&& t < 16 := by decide +kernel
theorem plain_at : ∀ l ≤ 4, ∀ n < l, (plainF l).getD n 0 = 97 + n := by decide
theorem up_at : ∀ n < 4, Txt.upper (tx [97 + n]) = tx [65 + n] := by decide +kernel

theorem law_E {C : Cx} {n : Nat} (P : Pg C) {s0 s1 s7 s10 s11 : Slot} {w : Nat → Nat} {cut live left msk : List Nat} {cr : Nat} {far : Nat → Nat} {Φ : Out → Prop}
    (hl : live.length ≤ 4) (hm : msk.length = live.length) (hm16 : ∀ m ∈ msk, m < 16) (hf : ∀ t, far t ≤ 1000)
    (hfar : ∀ m, ∀ t < 2 ^ live.length, FnD C (m + 2) 11 [S (wordP msk t live.length), S (plainF live.length), .int (live.length : Nat)] (.int (far t : Nat)))
    (h : Ex C (n + 5) (fnS (topS 17)) lawNs (lawT s0 s1 s7 s10 s11 w cut live left msk cr .un (.val (S (plainF live.length))) (.own (((List.range (2 ^ live.length)).filter (fun t => far t == 0)).map fun t => .int (t : Nat))) (.val (.int (((List.range (2 ^ live.length)).map far).sum : Nat))) .un (.val (S (wordP msk (2 ^ live.length - 1) live.length))) .un (.val (.int (far (2 ^ live.length - 1) : Nat))))
      ((fnB (topS 17)).drop 20) Φ) :
    Ex C (n + 5) (fnS (topS 17)) lawNs (lawM s0 s1 s7 s10 s11 w cut live left .un .un (.own ((toI msk).map .int)) (.val (.int (cr : Nat))) .un .un .un .un .un .un) ((fnB (topS 17)).drop 17) Φ := by
  have hcpa : cp (Str.ofString "abcd") = [97, 98, 99, 100] := by decide +kernel
  have hcp0 : cp (Str.ofString "") = [] := by decide +kernel
  have hcpt : cp (Str.ofString "0110100110010110") = parT := by decide +kernel
  have hcp1 : cp (Str.ofString "1") = [49] := by decide +kernel
  refine ExS.freeze (Γ' := lawT s0 s1 s7 s10 s11 w cut live left msk cr .un .un .un .un .un .un .un .un) (by walk_at "slt") (by walk_at "upd") ?_
  refine Ex.cons (E1.assign (d := S (plainF live.length)) (Ev.cg (Ev.uptoS (i := (live.length : Int)) (x := [97, 98, 99, 100]) (Ev.cg Ev.cstr2 (by rw [hcpa])) (Ev.cg (Ev.f_lenL P.B (by decide +kernel) (by walk_at "name") (by simp [toI]; lia)) (by simp [toI])) (by lia) (by simp)) (by rw [Int.toNat_natCast]; rfl)) (by walk_at "upd") (by decide +kernel)) ?_
  refine Ex.cons (E1.nilVal (Γ₁ := lawT s0 s1 s7 s10 s11 w cut live left msk cr .un (.val (S (plainF live.length))) .un (.val (.int 0)) .un .un .un .un) (d := .int 0) Ev.cint rfl (by walk_at "upd") (by walk_at "upd") (by decide +kernel) (by decide +kernel) (fun e he => by unfold swappedStores; simp only [Env.blockKind, Env.kindOf, he]; rfl)) ?_
  have hpowl : ((2 : Int) ^ ((live.length : Int)).toNat) = ((2 ^ live.length : Nat) : Int) := by rw [Int.toNat_natCast]; push_cast; rfl
  have h2l : 2 ^ live.length ≤ 16 := Nat.pow_le_pow_right (by lia) (by lia : live.length ≤ 4)
  have h2p : 0 < 2 ^ live.length := Nat.two_pow_pos _
  refine Ex.cons (E1.for_ (fun i => lawT s0 s1 s7 s10 s11 w cut live left msk cr .un (.val (S (plainF live.length))) (.own (((List.range i).filter (fun t => far t == 0)).map fun t => .int (t : Nat))) (.val (.int (((List.range i).map far).sum : Nat))) .un (if i = 0 then .un else .val (S (wordP msk (i - 1) live.length))) .un (if i = 0 then .un else .val (.int (far (i - 1) : Nat))))
    (Itr.range (n := 2 ^ live.length) (i := ((2 ^ live.length : Nat) : Int)) P.B.W (by decide +kernel) (P.B.at (by decide +kernel)) (by
      rw [← hpowl]
      exact Ev.bin Ev.cint (Ev.cg (Ev.f_lenL P.B (by decide +kernel) (by walk_at "name") (by simp [toI]; lia)) (by simp [toI])) (Op2.powI (by decide) (by lia) (by lia))) rfl (by lia)) (GLe.refl _) (fun t d hd => ?_) rfl) ?_
  · obtain ⟨ht, rfl⟩ := R_get hd
    generalize hsw : (if t = 0 then Slot.un else .val (S (wordP msk (t - 1) live.length))) = sw
    generalize hsf : (if t = 0 then Slot.un else .val (.int (far (t - 1) : Nat))) = sf
    refine ⟨_, Bnd.name (by walk_at "upd") (by decide +kernel), ?_⟩
    refine Ex.cons (E1.assign (d := S []) (Ev.cg Ev.cstr2 (by rw [hcp0])) (by walk_at "upd") (by decide +kernel)) ?_
    refine Ex.cons (E1.for_ (fun m => lawT s0 s1 s7 s10 s11 w cut live left msk cr .un (.val (S (plainF live.length))) (.own (((List.range t).filter (fun t => far t == 0)).map fun t => .int (t : Nat))) (.val (.int (((List.range t).map far).sum : Nat))) (.val (.int (t : Nat))) (.val (S (wordP msk t m))) .un sf)
      (Itr.range (n := live.length) (i := (live.length : Int)) P.B.W (by decide +kernel) (P.B.at (by decide +kernel)) (Ev.cg (Ev.f_lenL P.B (by decide +kernel) (by walk_at "name") (by simp [toI]; lia)) (by simp [toI])) rfl (by lia)) (GLe.refl _) (fun m d hd => ?_) rfl) ?_
    · obtain ⟨hml, rfl⟩ := R_get hd
      refine ⟨_, Bnd.name (by walk_at "upd") (by decide +kernel), ?_⟩
      have hmm : msk.getD m 0 ∈ msk := by
        have : m < msk.length := by lia
        rw [List.getD_eq_getElem?_getD, List.getElem?_eq_getElem this]
        exact List.getElem_mem this
      obtain ⟨hb1, hb2⟩ := band16 _ (hm16 _ hmm) t (by lia)
      have hpl := plain_at live.length hl m hml
      have hpn : (plainF live.length).length = live.length := by unfold plainF; simp; lia
      rw [wordP_succ]
      refine Ex.cons (E1.assign (d := .bool (oddB (msk.getD m 0) t)) (Ev.cg (Ev.cmp (Ev.item (Ev.cg (d' := S parT) Ev.cstr2 (by rw [hcpt])) (Ev.cg (d' := .int ((msk.getD m 0 &&& t : Nat) : Int)) (Ev.bin (toI_get (ns := msk) (show m < msk.length by lia) (by walk_at "name") (by walk_at "name") (by lia)) (by walk_at "name") Op2.andI) (by rw [hb1])) (Itm.str2 (by rw [sidx_nat (show msk.getD m 0 &&& t < parT.length from hb2)]; rfl) (by decide))) (Ev.cg (d' := S [49]) Ev.cstr2 (by rw [hcp1])) Op2.eqS) (by
        rw [sidx_nat (show msk.getD m 0 &&& t < parT.length from hb2)]
        unfold oddB
        simp)) (by walk_at "upd") (by decide +kernel)) ?_
      have hwl : (wordP msk t m).length ≤ 4 := by simp [wordP]; lia
      refine Ex.last ((E1.aug (d := S (wordP msk t m ++ [if oddB (msk.getD m 0) t then 65 + m else 97 + m])) (by walk_at "slt") (by decide +kernel) (Ev.ifexp (d := S [if oddB (msk.getD m 0) t then 65 + m else 97 + m]) (b := oddB (msk.getD m 0) t) (Tr.val (by walk_at "name") Tru.b) (fun hb => ?_) (fun hb => ?_)) (Op2.iaddS (by simp; lia)) (by walk_at "upd") (by decide +kernel)).mono ?_)
      · rw [if_pos hb]
        refine Ev.m_upper (x := [97 + m]) (Ev.cg (Ev.item (by walk_at "name") (by walk_at "name") (Itm.str2 (by rw [sidx_nat (by lia)]; rfl) (by lia))) (by rw [sidx_nat (by lia)]; simp only [Option.getD_some]; rw [hpl])) (up_at m (by lia)) (by simp)
      · rw [if_neg (by rw [hb]; decide)]
        exact Ev.cg (Ev.item (by walk_at "name") (by walk_at "name") (Itm.str2 (by rw [sidx_nat (by lia)]; rfl) (by lia))) (by rw [sidx_nat (by lia)]; simp only [Option.getD_some]; rw [hpl])
      · rintro o rfl
        refine .inl ⟨_, .inl rfl, ?_⟩
        repeat' first | exact GLe.nil | apply GLe.cons | exact SLe.same | exact SLe.un
    have hR : (R live.length).length = live.length := by simp
    rw [hR]
    refine Ex.cons (E1.assign (d := .int (far t : Nat)) (Ev.call P 11 (by decide) (by decide +kernel) (by decide +kernel) (EvL.cons (by walk_at "name") (EvL.cons (by walk_at "name") (EvL.cons (Ev.cg (Ev.f_lenL P.B (by decide +kernel) (by walk_at "name") (by simp [toI]; lia)) (by simp [toI])) EvL.nil))) (hfar (n + 3) t ht) (by decide)) (by walk_at "upd") (by decide +kernel)) ?_
    refine Ex.cons (E1.ite (b := false) (Tr.typeInt (i := (far t : Nat)) P.B (by decide +kernel) (by decide +kernel) (by walk_at "name")) (by simp) (fun _ => Ex.nil')) ?_
    refine Ex.cons (E1.aug (d := .int (((List.range (t + 1)).map far).sum : Nat)) (by walk_at "slt") (by decide +kernel) (d₁ := .int (far t : Nat)) (by walk_at "name") (by
      rw [List.range_succ]; simp only [List.map_append, List.sum_append, List.map_cons, List.map_nil, List.sum_cons, List.sum_nil, Nat.add_zero]; push_cast; exact Op2.iaddI) (by walk_at "upd") (by decide +kernel)) ?_
    have hfin : ∀ (Φ : Out → Prop) (o : Out), o = Out.next (lawT s0 s1 s7 s10 s11 w cut live left msk cr .un (.val (S (plainF live.length))) (.own (((List.range (t + 1)).filter (fun t => far t == 0)).map fun t => .int (t : Nat))) (.val (.int (((List.range (t + 1)).map far).sum : Nat))) (.val (.int (t : Nat))) (.val (S (wordP msk t live.length))) .un (.val (.int (far t : Nat)))) →
        (∃ Γ', (o = .next Γ' ∨ o = .cont Γ') ∧ GLe Γ' (lawT s0 s1 s7 s10 s11 w cut live left msk cr .un (.val (S (plainF live.length))) (.own (((List.range (t + 1)).filter (fun t => far t == 0)).map fun t => .int (t : Nat))) (.val (.int (((List.range (t + 1)).map far).sum : Nat))) .un (if t + 1 = 0 then .un else .val (S (wordP msk (t + 1 - 1) live.length))) .un (if t + 1 = 0 then .un else .val (.int (far (t + 1 - 1) : Nat))))) ∨ (∃ r, o = .ret r ∧ Φ (.ret r)) := by
      rintro Φ o rfl
      refine .inl ⟨_, .inl rfl, ?_⟩
      rw [if_neg (by lia), if_neg (by lia), Nat.add_sub_cancel]
      repeat' first | exact GLe.nil | apply GLe.cons | exact SLe.same | exact SLe.un
    refine Ex.last ((E1.ite (b := far t == 0) (Tr.cg (Tr.cmp (by walk_at "name") Ev.cint Op2.eqI) (by rw [Bool.eq_iff_iff]; simp)) (fun hb => ?_) (fun hb => ?_)).mono (hfin _))
    · have : (((List.range (t + 1)).filter (fun t => far t == 0)).map fun t => PyData.int (t : Nat)) = (((List.range t).filter (fun t => far t == 0)).map fun t => PyData.int (t : Nat)) ++ [.int (t : Nat)] := by
        rw [List.range_succ, List.filter_append]; simp [hb]
      rw [this]
      exact Ex.last (E1.append (by walk_at "slt") (by decide +kernel) (by walk_at "name") rfl (by have := List.length_filter_le (fun t => far t == 0) (List.range t); simp at this ⊢; lia) (by walk_at "upd"))
    · have : ((List.range (t + 1)).filter (fun t => far t == 0)) = ((List.range t).filter (fun t => far t == 0)) := by
        rw [List.range_succ, List.filter_append]; simp [hb]
      rw [this]
      exact Ex.nil'
  · have hR : (R (2 ^ live.length)).length = 2 ^ live.length := by simp
    rw [hR, if_neg (by lia), if_neg (by lia)]
    exact h
end

-- text W17
section


section
variable {C : Cx} {k : Nat} {sc : Scope} {nm : List Str} {Γ : List Slot}
theorem Ev.and2 {x y : Expr} {pos : Pos} {d : PyData} (h : Ev C k sc nm Γ x (.bool true)) (h2 : Ev C k sc nm Γ y d) : Ev C k sc nm Γ (.BoolOp .And [x, y] pos) d := by
  refine ⟨?_⟩; intro A e N Sg s a E o
  refine wpAny_And2 (ev_then h a E o fun v s₁ r₁ k₁ o₁ => ?_)
  obtain rfl := r₁.bool_inv
  refine wpAny_truthy_bool ?_
  rw [if_pos rfl]
  exact wp_keep (h2.run A e N Sg s₁ a E o₁) fun v s' hv => ⟨hv.1, k₁.trans hv.2⟩
end

abbrev lawF (s0 s1 s7 s10 s11 : Slot) (w : Nat → Nat) (cut live left : List Nat) (msk : List Nat) (cr : Nat) (plain word : List Nat) (far : Nat) (quiet : List Int) (total : Nat) (behind flip other : Slot) : List Slot :=
  lawΓ s0 s1 (.val (L (toI (waysN w)))) .un (.val (L (toI cut))) (.val (L (toI live))) (.val (LS (unitsN cut w))) s7 (.val (S left)) .un s10 s11 .un .un .un .un .un (.val (L (toI msk))) (.val (.int (cr : Nat))) .un .un .un .un .un .un (.val (S plain)) (.val (L quiet)) (.val (.int (total : Nat))) .un (.val (S word)) .un (.val (.int (far : Nat))) behind flip other

theorem law_F {C : Cx} {n : Nat} (P : Pg C) {s0 s1 s7 s10 s11 : Slot} {w : Nat → Nat} {cut live left msk : List Nat} {cr : Nat} {word : List Nat} {far : Nat} {quiet : List Int} {total : Nat}
    (hl : live.length ≤ 4) (hq : ∀ m, FnD C (m + 3) 16 [L (toI cut), L (toI live), L (toI (waysN w))] (L quiet)) (ht : (total : Int) = ((2 : Int) ^ ((live.length : Int)).toNat).fdiv 2 * cr)
    (h1 : ∀ m, FnD C (m + 2) 11 [S (plainF live.length), S ([100, 99, 98, 97].drop (4 - live.length)), .int 8] (.int (((live.length : Int)).fdiv 2 * 4)))
    (h2 : ∀ m, FnD C (m + 2) 11 [S (plainF live.length), S ([100, 99, 98, 97].drop (4 - live.length)), .int 1] (.int (min 2 (((live.length : Int)).fdiv 2 * 4))))
    (h3 : ∀ m, FnD C (m + 2) 11 [S ((plainF live.length).drop 1 ++ (plainF live.length).take 1), S (plainF live.length), .int 8] (.int (min 4 (((live.length : Int)).fdiv 2 * 4))))
    (h4 : ∀ m, FnD C (m + 5) 5 [S (plainF live.length)] (S (plainF live.length)))
    (h5 : ∀ m, FnD C (m + 2) 11 [S (plainF live.length), S ([46] ++ plainF live.length ++ [46]), .int 2] (.int (if plainF live.length = [] then 4 else 3)))
    (h6 : ∀ m, FnD C (m + 2) 11 [S (plainF live.length), S ([46] ++ plainF live.length ++ [46]), .int 4] (.int 4))
    (h7 : ∀ m, FnD C (m + 2) 11 [S ([46] ++ plainF live.length ++ [46]), S word, .int ((far : Int) + 3)] (.int ((far : Int) + 4))) :
    Ex C (n + 5) (fnS (topS 17)) lawNs (lawF s0 s1 s7 s10 s11 w cut live left msk cr (plainF live.length) word far quiet total .un .un .un) ((fnB (topS 17)).drop 20) (fun o => o = .ret (.bool true)) := by
  have hcpd : cp (Str.ofString "dcba") = [100, 99, 98, 97] := by decide +kernel
  have hcp0 : cp (Str.ofString "") = [] := by decide +kernel
  have hcp1 : cp (Str.ofString ".") = [46] := by decide +kernel
  have hpl : (plainF live.length).length ≤ 4 := by unfold plainF; simp; lia
  have h2l : ((2 : Int) ^ ((live.length : Int)).toNat).natAbs ≤ 16 := by
    rw [Int.toNat_natCast]
    have : ∀ l ≤ 4, ((2 : Int) ^ l).natAbs ≤ 16 := by decide
    exact this _ hl
  have hdiv : -(2 ^ 64) < ((2 : Int) ^ ((live.length : Int)).toNat).fdiv 2 ∧ ((2 : Int) ^ ((live.length : Int)).toNat).fdiv 2 < 2 ^ 64 := by
    rw [Int.toNat_natCast]
    have : ∀ l ≤ 4, -(2 ^ 64) < ((2 : Int) ^ l).fdiv 2 ∧ ((2 : Int) ^ l).fdiv 2 < 2 ^ 64 := by decide
    exact this _ hl
  have hfl : -(2 ^ 64) < ((live.length : Int)).fdiv 2 ∧ ((live.length : Int)).fdiv 2 < 2 ^ 64 := by
    have : ∀ l ≤ 4, -(2 ^ 64) < ((l : Nat) : Int).fdiv 2 ∧ ((l : Nat) : Int).fdiv 2 < 2 ^ 64 := by decide
    exact this _ hl
  refine Ex.cons (E1.ite (b := false) (Tr.or (AllT.or_cons (b := false) (Tr.cg (Tr.cmp (by walk_at "name") (Ev.call P 16 (by decide) (by decide +kernel) (by decide +kernel) (EvL.cons (by walk_at "name") (EvL.cons (by walk_at "name") (EvL.cons (by walk_at "name") EvL.nil))) (hq (n + 2)) (by decide)) (Op2.neD (lay_L _) (lay_L _) (dep_L _))) (by rw [SeqAt.eqv_refl _ (lay_L _)]; rfl)) (fun _ => AllT.or_cons (b := false) (c := false) (Tr.cg (Tr.cmp (d₂ := .int (total : Nat)) (by walk_at "name") (by
      rw [ht]
      exact Ev.bin (Ev.bin (Ev.bin Ev.cint (Ev.cg (Ev.f_lenL P.B (by decide +kernel) (by walk_at "name") (by simp [toI]; lia)) (by simp [toI])) (Op2.powI (by decide) (by lia) (by lia))) Ev.cint (Op2.divI (by decide) (by decide))) (by walk_at "name") (Op2.mulI hdiv)) Op2.neI) (by simp)) (fun _ => AllT.or_nil)))) (by simp) (fun _ => Ex.nil')) ?_
  refine Ex.cons (E1.assignSw (names := [Str.ofString "behind", Str.ofString "flip"]) (ds := [S ([100, 99, 98, 97].drop (4 - live.length)), .int (((live.length : Int)).fdiv 2 * 4)]) (Ev.tuple (EvL.cons (Ev.cg (Ev.fromS (i := 4 - (live.length : Int)) (x := [100, 99, 98, 97]) (Ev.cg Ev.cstr2 (by rw [hcpd])) (Ev.bin Ev.cint (Ev.cg (Ev.f_lenL P.B (by decide +kernel) (by walk_at "name") (by simp [toI]; lia)) (by simp [toI])) Op2.subI) (by lia) (by simp)) (by rw [show (4 - (live.length : Int)).toNat = 4 - live.length by lia])) (EvL.cons (Ev.bin (Ev.bin (Ev.cg (d' := .int (live.length : Nat)) (Ev.f_lenL P.B (by decide +kernel) (by walk_at "name") (by simp [toI]; lia)) (by simp [toI])) Ev.cint (Op2.divI (by decide) (by decide))) Ev.cint (Op2.mulI hfl)) EvL.nil)) (by simp)) rfl
      (show Sto C _ _ _ [Str.ofString "flip", Str.ofString "behind"] [.int (((live.length : Int)).fdiv 2 * 4), S ([100, 99, 98, 97].drop (4 - live.length))] _ from Sto.cons (by walk_at "upd") (by decide +kernel) (Sto.cons (by walk_at "upd") (by decide +kernel) Sto.nil)) ?_) ?_
  · intro e he
    unfold swappedStores
    simp only [Env.blockKind, Env.kindOf, he]
    rfl
  refine Ex.cons (E1.ite (b := false) (Tr.or (AllT.or_cons (b := false) (Tr.cg (Tr.cmp (Ev.call P 11 (by decide) (by decide +kernel) (by decide +kernel) (EvL.cons (by walk_at "name") (EvL.cons (by walk_at "name") (EvL.cons Ev.cint EvL.nil))) (h1 (n + 3)) (by decide)) (by walk_at "name") Op2.neI) (by simp)) (fun _ => AllT.or_cons (b := false) (c := false) (Tr.cg (Tr.cmp (Ev.call P 11 (by decide) (by decide +kernel) (by decide +kernel) (EvL.cons (by walk_at "name") (EvL.cons (by walk_at "name") (EvL.cons Ev.cint EvL.nil))) (h2 (n + 3)) (by decide)) (Ev.f_min P.B (by decide +kernel) Ev.cint (by walk_at "name")) Op2.neI) (by simp)) (fun _ => AllT.or_nil)))) (by simp) (fun _ => Ex.nil')) ?_
  refine Ex.cons (E1.ite (b := false) (Tr.cg (Tr.cmp (Ev.call P 11 (by decide) (by decide +kernel) (by decide +kernel) (EvL.cons (Ev.bin (Ev.fromS (i := 1) (x := plainF live.length) (by walk_at "name") Ev.cint (by decide) (by lia)) (Ev.uptoS (i := 1) (x := plainF live.length) (by walk_at "name") Ev.cint (by decide) (by lia)) (Op2.addS (by simp; lia))) (EvL.cons (by walk_at "name") (EvL.cons Ev.cint EvL.nil))) (h3 (n + 3)) (by decide)) (Ev.f_min P.B (by decide +kernel) Ev.cint (by walk_at "name")) Op2.neI) (by simp)) (by simp) (fun _ => Ex.nil')) ?_
  refine Ex.cons (E1.assign (d := S ([46] ++ plainF live.length ++ [46])) (Ev.bin (Ev.bin (Ev.cg (d' := S [46]) Ev.cstr2 (by rw [hcp1])) (Ev.call P 5 (by decide) (by decide +kernel) (by decide +kernel) (EvL.cons (by walk_at "name") EvL.nil) (h4 n) (by decide)) (Op2.addS (by simp; lia))) (Ev.cg (d' := S [46]) Ev.cstr2 (by rw [hcp1])) (Op2.addS (by simp; lia))) (by walk_at "upd") (by decide +kernel)) ?_
  refine Ex.cons (E1.ite (b := false) (Tr.cg (Tr.cmp (d₂ := .int (if plainF live.length = [] then 4 else 3)) (Ev.call P 11 (by decide) (by decide +kernel) (by decide +kernel) (EvL.cons (by walk_at "name") (EvL.cons (by walk_at "name") (EvL.cons Ev.cint EvL.nil))) (h5 (n + 3)) (by decide)) (Ev.ifexp (b := plainF live.length == []) (Tr.cmp (by walk_at "name") (Ev.cg (d' := S []) Ev.cstr2 (by rw [hcp0])) Op2.eqS) (fun hb => by rw [if_pos (by simpa using hb)]; exact Ev.cint) (fun hb => by rw [if_neg (by simpa using hb)]; exact Ev.cint)) Op2.neI) (by simp)) (by simp) (fun _ => Ex.nil')) ?_
  refine Ex.last (E1.ret (d := .bool true) ?_ rfl)
  refine Ev.and2 (Ev.cg (Ev.cmp (Ev.call P 11 (by decide) (by decide +kernel) (by decide +kernel) (EvL.cons (by walk_at "name") (EvL.cons (by walk_at "name") (EvL.cons Ev.cint EvL.nil))) (h6 (n + 3)) (by decide)) Ev.cint Op2.eqI) rfl) (Ev.cg (Ev.cmp (Ev.call P 11 (by decide) (by decide +kernel) (by decide +kernel) (EvL.cons (by walk_at "name") (EvL.cons (by walk_at "name") (EvL.cons (Ev.bin (by walk_at "name") Ev.cint Op2.addI) EvL.nil))) (h7 (n + 3)) (by decide)) (Ev.bin (by walk_at "name") Ev.cint Op2.addI) Op2.eqI) (by simp))
end

-- text W18
section


def wordB (l b : Nat) : List Nat := (List.range l).map fun n => if b.testBit n then 65 + n else 97 + n
theorem lev_word : ∀ l < 5, ∀ b < 16, levF (wordB l b) (plainF l) (l : Nat) = (((List.range l).countP fun n => b.testBit n : Nat) : Int) := by decide +kernel
theorem lev_1 : ∀ l < 5, levF (plainF l) ([100, 99, 98, 97].drop (4 - l)) 8 = ((l : Nat) : Int).fdiv 2 * 4 := by decide +kernel
theorem lev_2 : ∀ l < 5, levF (plainF l) ([100, 99, 98, 97].drop (4 - l)) 1 = min 2 (((l : Nat) : Int).fdiv 2 * 4) := by decide +kernel
theorem lev_3 : ∀ l < 5, levF ((plainF l).drop 1 ++ (plainF l).take 1) (plainF l) 8 = min 4 (((l : Nat) : Int).fdiv 2 * 4) := by decide +kernel
theorem lev_5 : ∀ l < 5, levF (plainF l) ([46] ++ plainF l ++ [46]) 2 = if plainF l = [] then 4 else 3 := by decide +kernel
theorem lev_6 : ∀ l < 5, levF (plainF l) ([46] ++ plainF l ++ [46]) 4 = 4 := by decide +kernel
theorem lev_7 : ∀ l < 5, ∀ b < 16, levF ([46] ++ plainF l ++ [46]) (wordB l b) ((((List.range l).countP fun n => b.testBit n : Nat) : Int) + 3) = (((List.range l).countP fun n => b.testBit n : Nat) : Int) + 4 := by decide +kernel
theorem low_word : ∀ c < 103, c = 46 ∨ (65 ≤ c ∧ c < 69) ∨ (97 ≤ c ∧ c < 101) → Txt.lower (tx [c]) = tx [lw c] := by decide +kernel
theorem strip_plain : ∀ l < 5, stripF (plainF l) = plainF l := by decide +kernel
theorem LowOk.of {x : List Nat} (h : ∀ c ∈ x, c < 103 ∧ (c = 46 ∨ (65 ≤ c ∧ c < 69) ∨ (97 ≤ c ∧ c < 101))) : LowOk x := fun c hc => low_word c (h c hc).1 (h c hc).2
end

-- text W19
section


theorem bits4 (f : Nat → Bool) : ∃ bb < 16, ∀ n < 4, Nat.testBit bb n = f n := by
  have h : ∀ b0 b1 b2 b3 : Bool, ∃ bb < 16, Nat.testBit bb 0 = b0 ∧ Nat.testBit bb 1 = b1 ∧ Nat.testBit bb 2 = b2 ∧ Nat.testBit bb 3 = b3 := by decide
  obtain ⟨bb, hb, h0, h1, h2, h3⟩ := h (f 0) (f 1) (f 2) (f 3)
  refine ⟨bb, hb, fun n hn => ?_⟩
  match n, hn with
  | 0, _ => exact h0
  | 1, _ => exact h1
  | 2, _ => exact h2
  | 3, _ => exact h3
def farN (msk : List Nat) (l t : Nat) : Nat := (List.range l).countP fun n => oddB (msk.getD n 0) t
theorem word_bits {msk : List Nat} {t l : Nat} (hl : l < 5) : ∃ b < 16, wordP msk t l = wordB l b ∧ (List.range l).countP (fun n => Nat.testBit b n) = farN msk l t := by
  obtain ⟨b, hb, h⟩ := bits4 fun n => oddB (msk.getD n 0) t
  refine ⟨b, hb, ?_, ?_⟩
  · unfold wordP wordB
    refine List.map_congr_left fun n hn => ?_
    have := List.mem_range.mp hn
    rw [h n (by lia)]
  · unfold farN
    refine List.countP_congr fun n hn => ?_
    have := List.mem_range.mp hn
    rw [h n (by lia)]
theorem lev_far {msk : List Nat} {t l : Nat} (hl : l < 5) : levF (wordP msk t l) (plainF l) (l : Nat) = (farN msk l t : Nat) := by
  obtain ⟨b, hb, h1, h2⟩ := word_bits (msk := msk) (t := t) hl
  rw [h1, lev_word l hl b hb, h2]
theorem lev_last {msk : List Nat} {t l : Nat} (hl : l < 5) : levF ([46] ++ plainF l ++ [46]) (wordP msk t l) ((farN msk l t : Nat) + 3) = (farN msk l t : Nat) + 4 := by
  obtain ⟨b, hb, h1, h2⟩ := word_bits (msk := msk) (t := t) hl
  rw [h1, ← h2, lev_7 l hl b hb]
theorem half : ∀ l < 5, ∀ m < 2 ^ l, (List.range (2 ^ l)).countP (oddB m) = if m = 0 then 0 else 2 ^ l / 2 := by decide +kernel
theorem sum_add (g h : Nat → Nat) (xs : List Nat) : (xs.map fun n => g n + h n).sum = (xs.map g).sum + (xs.map h).sum := by
  induction xs with
  | nil => rfl
  | cons a r ih => simp only [List.map_cons, List.sum_cons, ih]; lia
theorem sum_ite (p : Nat → Bool) (xs : List Nat) : (xs.map fun n => if p n = true then 1 else 0).sum = xs.countP p := by
  induction xs with
  | nil => rfl
  | cons a r ih => simp only [List.map_cons, List.sum_cons, ih, List.countP_cons]; lia
theorem sum_zero (xs : List Nat) : (xs.map fun _ => 0).sum = 0 := by
  induction xs with
  | nil => rfl
  | cons a r ih => simp only [List.map_cons, List.sum_cons, ih]
theorem sum_swap (f : Nat → Nat → Bool) (a b : Nat) : ((List.range a).map fun t => (List.range b).countP fun n => f n t).sum = ((List.range b).map fun n => (List.range a).countP (f n)).sum := by
  induction a with
  | zero => exact (sum_zero _).symm
  | succ a ih =>
    have e : (fun n => (List.range (a + 1)).countP (f n)) = fun n => (List.range a).countP (f n) + if f n a = true then 1 else 0 := by
      funext n
      rw [List.range_succ, List.countP_append, List.countP_cons, List.countP_nil, Nat.zero_add]
    rw [e, sum_add (fun n => (List.range a).countP (f n)) (fun n => if f n a = true then 1 else 0), sum_ite (fun n => f n a), ← ih, List.range_succ, List.map_append, List.sum_append]
    simp
theorem total_eq {msk : List Nat} {l : Nat} (hl : l < 5) (hm : ∀ n < l, msk.getD n 0 < 2 ^ l) : ((List.range (2 ^ l)).map (farN msk l)).sum = 2 ^ l / 2 * (List.range l).countP (fun n => msk.getD n 0 != 0) := by
  have := sum_swap (fun n t => oddB (msk.getD n 0) t) (2 ^ l) l
  show ((List.range (2 ^ l)).map fun t => (List.range l).countP fun n => oddB (msk.getD n 0) t).sum = _
  rw [this]
  have : ∀ k ≤ l, ((List.range k).map fun n => (List.range (2 ^ l)).countP (oddB (msk.getD n 0))).sum = 2 ^ l / 2 * (List.range k).countP (fun n => msk.getD n 0 != 0) := by
    intro k
    induction k with
    | zero => simp
    | succ k ih =>
      intro hk
      rw [List.range_succ, List.map_append, List.sum_append, ih (by lia), List.countP_append, Nat.mul_add]
      congr 1
      simp only [List.map_cons, List.map_nil, List.sum_cons, List.sum_nil, Nat.add_zero]
      rw [half l hl _ (hm k (by lia))]
      by_cases h : msk.getD k 0 = 0
      · rw [if_pos h, List.countP_cons_of_neg (by rw [h]; decide)]; simp
      · rw [if_neg h]; simp only [List.countP_cons, List.countP_nil]; rw [if_pos (by simpa using h)]; lia
  exact this l (Nat.le_refl l)
end

-- text W20
section


theorem sum_maskP_lt (w : Nat → Nat) (one two : Nat → Nat → Bool) (live : List Nat) (k : Nat) (hw : ∀ k, w k < 3) (m : Nat) : maskP w one two live k m < 2 ^ m := by
  induction m with
  | zero => simp [maskP]
  | succ m ih =>
    rw [maskP_succ, Nat.pow_succ]
    have : bitM w one two k (live.getD m 0) ≤ 1 := by
      unfold bitM
      have := hw k
      split
      · lia
      · split <;> lia
    have := Nat.mul_le_mul_left (2 ^ m) this
    lia
theorem maskP_bit (w : Nat → Nat) (one two : Nat → Nat → Bool) (live : List Nat) (k : Nat) (hw : ∀ k, w k < 3) (m n : Nat) (hn : n < m) : (maskP w one two live k m).testBit n = (bitM w one two k (live.getD n 0) == 1) := by
  induction m with
  | zero => lia
  | succ m ih =>
    have hb : bitM w one two k (live.getD m 0) ≤ 1 := by
      unfold bitM
      have := hw k
      split
      · lia
      · split <;> lia
    have hlt := sum_maskP_lt w one two live k hw m
    rw [maskP_succ, Nat.add_comm, Nat.testBit_two_pow_mul_add _ hlt]
    by_cases h : n < m
    · rw [if_pos h]; exact ih h
    · have : n = m := by lia
      subst this
      rw [if_neg (by lia), Nat.sub_self]
      have : bitM w one two k (live.getD n 0) = 0 ∨ bitM w one two k (live.getD n 0) = 1 := by lia
      rcases this with h | h <;> rw [h] <;> decide
end

-- text W21
section


theorem oddB_eq : ∀ m < 16, ∀ t < 16, oddB m t = ((List.range 4).countP (fun n => m.testBit n && t.testBit n) % 2 == 1) := by decide +kernel
theorem sidx_range (l : Nat) : ∀ n < l, (List.range l)[n]? = some n := fun n hn => by simp [hn]
theorem R_len (n : Nat) : (R n).length = n := by simp
end

-- text W22
section


/-- the facts about values that the walk of law needs -/
structure LawOk (C : Cx) (ns : List Int) (pn : List Nat) (w : Nat → Nat) (I J : Nat → Nat) (one two : Nat → Nat → Bool) : Prop where
  hns : ns.length ≤ 1000
  hcurve : curveF (scriptX ns) 4 = (toI pn, toI (waysN w))
  hpn : ∀ k ∈ pn, k < 4
  hpl : pn.length ≤ 20
  hw : ∀ k, w k < 3
  hstrip : stripF (textN pn w) = textN (cutN pn w) w
  htl : (textN pn w).length ≤ 400
  hll : (textN (cutN pn w) w).length ≤ 390
  has : strIterType (tx (textN pn w)) = "str_ascii_iterator"
  has2 : strIterType (tx (textN (cutN pn w) w)) = "str_ascii_iterator"
  hdue : PyData.list (escD (textN (cutN pn w) w)) = dueD (unitsN (cutN pn w) w) (textN (cutN pn w) w)
  hso : ∀ p ∈ escL 0 false (textN (cutN pn w) w), PyData.strOk ⟨p.2.toArray⟩ = true
  hm : ∀ m, FnD C (m + 1) 2 [S (textN pn w), S (textN (cutN pn w) w)] (.bool (textN pn w == textN (cutN pn w) w))
  hT : ∀ m, ∀ p ∈ pairsT (textN (cutN pn w) w), FnD C (m + 1) 2 [S p.1, S p.2] (.bool true)
  hN : ∀ m, ∀ p ∈ pairsN (textN (cutN pn w) w), FnD C (m + 1) 2 [S p.1, S p.2] (.bool false)
  hTw : ∀ k ∈ liveN w, Twice (toI (cutN pn w)) k (I k) (J k)
  h1 : ∀ m, ∀ k ∈ liveN w, ∀ q ∈ liveN w, q ≠ k → FnD C (m + 1) 2 [S (headF (unitsN (cutN pn w) w) (I k) ++ unitL q (w q) ++ tailF (unitsN (cutN pn w) w) (textN (cutN pn w) w) (J k)), S (textN (cutN pn w) w)] (.bool (one k q))
  h2 : ∀ m, ∀ k ∈ liveN w, ∀ q ∈ liveN w, q ≠ k → FnD C (m + 1) 2 [S (headF (unitsN (cutN pn w) w) (I k) ++ unitL q (w q) ++ [46, 46, 46] ++ unitL q (w q) ++ tailF (unitsN (cutN pn w) w) (textN (cutN pn w) w) (J k)), S (textN (cutN pn w) w)] (.bool (two k q))
  hcross : ∀ k ∈ liveN w, (maskP w one two (liveN w) k (liveN w).length != 0) = crossB w (toI (cutN pn w)) I J k
  hq : ∀ m, FnD C (m + 3) 16 [L (toI (cutN pn w)), L (toI (liveN w)), L (toI (waysN w))] (L (((List.range (2 ^ (liveN w).length)).filter (fun t => farN ((liveN w).map fun k => maskP w one two (liveN w) k (liveN w).length) (liveN w).length t == 0)).map Int.ofNat))
end

-- text W23
section


theorem live_le (w : Nat → Nat) : (liveN w).length ≤ 4 := Nat.le_trans (List.length_filter_le _ _) (by simp)
theorem live4 {w : Nat → Nat} : ∀ k ∈ liveN w, k < 4 := fun k hk => List.mem_range.mp (List.mem_filter.mp hk).1
theorem live0 {w : Nat → Nat} : ∀ k ∈ liveN w, w k ≠ 0 := fun k hk => by simpa using (List.mem_filter.mp hk).2
theorem low_plain (l : Nat) : LowOk (plainF l) := LowOk.of fun c hc => by
  have := List.mem_of_mem_take hc
  simp at this
  lia
theorem low_wordP (msk : List Nat) (t l : Nat) (hl : l < 5) : LowOk (wordP msk t l) := LowOk.of fun c hc => by
  unfold wordP at hc
  obtain ⟨n, hn, rfl⟩ := List.mem_map.mp hc
  have := List.mem_range.mp hn
  split <;> lia
theorem law_run {C : Cx} {n : Nat} (P : Pg C) {ns : List Int} {pn : List Nat} {w : Nat → Nat} {I J : Nat → Nat} {one two : Nat → Nat → Bool} (H : LawOk C ns pn w I J one two) :
    Ex C (n + 5) (fnS (topS 17)) lawNs (lawΓ (.val (L ns)) .un .un .un .un .un .un .un .un .un .un .un .un .un .un .un .un .un .un .un .un .un .un .un .un .un .un .un .un .un .un .un .un .un .un) (fnB (topS 17)) (fun o => o = .ret (.bool true)) := by
  have hll := H.hll
  have hul : (unitsN (cutN pn w) w).flatten.length ≤ 400 := by unfold textN at hll; simp at hll; simp; lia
  have hcl : (cutN pn w).length ≤ 20 := Nat.le_trans (List.length_filter_le _ _) H.hpl
  refine law_A P H.hns H.hcurve H.hpn H.hpl H.hw H.hstrip H.htl (by lia) H.has ?_
  refine law_B P (by simpa [unitsN] using hcl) hul H.htl (by lia) H.has2 H.hdue H.hso H.hm ?_
  refine law_C P (by lia) H.hT H.hN ?_
  refine law_D P H.hw hcl (live_le w) live4 live0 (by lia) hul H.hTw H.h1 H.h2 ?_
  have hl := live_le w
  generalize hmsk : (liveN w).map (fun k => maskP w one two (liveN w) k (liveN w).length) = msk
  have hml : msk.length = (liveN w).length := by rw [← hmsk]; simp
  have hlt : ∀ m ∈ msk, m < 2 ^ (liveN w).length := fun m hm => by
    rw [← hmsk] at hm
    obtain ⟨k, _, rfl⟩ := List.mem_map.mp hm
    exact sum_maskP_lt w one two _ k H.hw _
  have h16 : 2 ^ (liveN w).length ≤ 16 := Nat.pow_le_pow_right (by lia) hl
  have e1 : ((liveN w).map fun k => (maskP w one two (liveN w) k (liveN w).length : Int)) = toI msk := by rw [← hmsk]; simp [toI]
  rw [e1]
  refine law_E (far := farN msk (liveN w).length) P hl hml (fun m hm => by have := hlt m hm; lia) (fun t => by
    have := List.countP_le_length (p := fun n => oddB (msk.getD n 0) t) (l := List.range (liveN w).length)
    unfold farN; simp at this ⊢; lia) (fun m t ht => ?_) ?_
  · rw [← lev_far (by lia)]
    exact levenshtein P (by simp [wordP]; lia) (by unfold plainF; simp; lia) (low_wordP _ _ _ (by lia)) (low_plain _)
  have hcnt : (List.range (liveN w).length).countP (fun n => msk.getD n 0 != 0) = (liveN w).countP (crossB w (toI (cutN pn w)) I J) := by
    have a1 : ∀ k ≤ msk.length, (List.range k).countP (fun n => msk.getD n 0 != 0) = (msk.take k).countP (fun m => m != 0) := by
      intro k
      induction k with
      | zero => simp
      | succ k ih =>
        intro hk
        have e : msk[k]? = some (msk.getD k 0) := by rw [List.getD_eq_getElem?_getD, List.getElem?_eq_getElem (by lia)]; rfl
        rw [List.range_succ, List.countP_append, ih (by lia), List.take_add_one, e, Option.toList_some, List.countP_append]
        simp only [List.countP_cons, List.countP_nil]
    rw [← hml, a1 _ (Nat.le_refl _), List.take_length, ← hmsk, List.countP_map]
    exact List.countP_congr fun k hk => by rw [Function.comp_apply, H.hcross k hk]
  have htot := total_eq (msk := msk) (l := (liveN w).length) (by lia) (fun n hn => by
    refine hlt _ ?_
    rw [List.getD_eq_getElem?_getD, List.getElem?_eq_getElem (by lia)]
    exact List.getElem_mem _)
  rw [hcnt] at htot
  have e2 : (((List.range (2 ^ (liveN w).length)).filter (fun t => farN msk (liveN w).length t == 0)).map fun t => PyData.int (t : Nat)) = (((List.range (2 ^ (liveN w).length)).filter (fun t => farN msk (liveN w).length t == 0)).map Int.ofNat).map PyData.int := by
    rw [List.map_map]; rfl
  rw [e2]
  have hmem : ∀ c ∈ plainF (liveN w).length, 97 ≤ c ∧ c < 101 := fun c hc => by
    have := List.mem_of_mem_take hc
    simp at this
    lia
  have hlb : LowOk ([100, 99, 98, 97].drop (4 - (liveN w).length)) := LowOk.of fun c hc => by
    have := List.mem_of_mem_drop hc
    simp at this
    lia
  have hlr : LowOk ((plainF (liveN w).length).drop 1 ++ (plainF (liveN w).length).take 1) := LowOk.of fun c hc => by
    rcases List.mem_append.mp hc with h | h
    · have := hmem _ (List.mem_of_mem_drop h); lia
    · have := hmem _ (List.mem_of_mem_take h); lia
  have hlo : LowOk ([46] ++ plainF (liveN w).length ++ [46]) := LowOk.of fun c hc => by
    simp only [List.mem_append, List.mem_singleton] at hc
    rcases hc with (h | h) | h
    · lia
    · have := hmem _ h; lia
    · lia
  have hasc : ∀ l < 5, strIterType (tx (plainF l)) = "str_ascii_iterator" := by decide +kernel
  refine ExS.freeze (x := Str.ofString "quiet") (by walk_at "slt") (by walk_at "upd") ?_
  refine law_F P hl (fun m => by have := H.hq m; rw [hmsk] at this; exact this) ?_ (fun m => ?_) (fun m => ?_) (fun m => ?_) (fun m => ?_) (fun m => ?_) (fun m => ?_) (fun m => ?_)
  · rw [htot]
    have hp : ∀ l < 5, ((2 ^ l / 2 : Nat) : Int) = ((2 : Int) ^ l).fdiv 2 := by decide +kernel
    rw [Int.natCast_mul, hp _ (by lia), Int.toNat_natCast]
  · rw [← lev_1 _ (by lia)]
    exact levenshtein P (by unfold plainF; simp; lia) (by simp; lia) (low_plain _) hlb
  · rw [← lev_2 _ (by lia)]
    exact levenshtein P (by unfold plainF; simp; lia) (by simp; lia) (low_plain _) hlb
  · rw [← lev_3 _ (by lia)]
    exact levenshtein P (by unfold plainF; simp; lia) (by unfold plainF; simp; lia) hlr (low_plain _)
  · have := strip_walk (n := m) P (x := plainF (liveN w).length) (by unfold plainF; simp; lia) (hasc _ (by lia)) (by rw [strip_plain _ (by lia)]; unfold plainF; simp; lia)
    rw [strip_plain _ (by lia)] at this
    exact this
  · rw [← lev_5 _ (by lia)]
    exact levenshtein P (by unfold plainF; simp; lia) (by unfold plainF; simp; lia) (low_plain _) hlo
  · have := levenshtein (n := m) P (a := plainF (liveN w).length) (b := [46] ++ plainF (liveN w).length ++ [46]) (mx := 4) (by unfold plainF; simp; lia) (by unfold plainF; simp; lia) (low_plain _) hlo
    rw [lev_6 _ (by lia)] at this
    exact this
  · rw [← lev_last (by lia)]
    exact levenshtein P (by unfold plainF; simp; lia) (by simp [wordP]; lia) hlo (low_wordP _ _ _ (by lia))
end

-- text W24
section


theorem law_fnd {C : Cx} {n : Nat} (P : Pg C) {ns : List Int} {pn : List Nat} {w : Nat → Nat} {I J : Nat → Nat} {one two : Nat → Nat → Bool} (H : LawOk C ns pn w I J one two) : FnD C (n + 6) 17 [L ns] (.bool true) := by
  refine FnD.of (pn := ["script"]) P lawNs ?_ ?_ rfl ⟨_, rfl⟩ (by decide) (by decide +kernel)
  · exact law_run P H
  · intro pm cd doc vs hv
    match vs, hv with
    | [v1], _ => rfl
end

-- text W25
section


theorem putF_toI (k : Nat) (pn : List Nat) (q : Nat) : ∃ pn', (putF (k : Int) (toI pn, q)).1 = toI pn' ∧ ∀ a, pn'.count a = pn.count a + if a = k then 1 else 0 := by
  refine ⟨pn.take (q % (pn.length + 1)) ++ [k] ++ pn.drop (q % (pn.length + 1)), ?_, fun a => ?_⟩
  · have hl : (toI pn).length = pn.length := by simp [toI]
    simp only [putF, hl]
    simp [toI, List.map_take, List.map_drop]
  · have := congrArg (List.count a) (List.take_append_drop (q % (pn.length + 1)) pn)
    rw [List.count_append] at this
    rw [List.count_append, List.count_append, ← this]
    by_cases h : a = k
    · subst h; rw [if_pos rfl, List.count_singleton_self]; lia
    · have : List.count a [k] = 0 := List.count_eq_zero.mpr (by simpa using h)
      rw [if_neg h, this]; lia
theorem curve_pn (xs : Nat → Nat) (n : Nat) : (∃ pn : List Nat, (curveF xs n).1 = toI pn ∧ ∀ a, pn.count a = if a < n then 2 else 0) ∧ (curveF xs n).2 = toI ((List.range n).map fun k => xs k % 3) := by
  induction n with
  | zero => exact ⟨⟨[], rfl, by simp⟩, rfl⟩
  | succ n ih =>
    obtain ⟨⟨pn, h1, h2⟩, h3⟩ := ih
    constructor
    · simp only [curveF, h1]
      obtain ⟨p1, e1, c1⟩ := putF_toI n pn (xs n / 3)
      have hp : putF (n : Int) (toI pn, xs n / 3) = (toI p1, (putF (n : Int) (toI pn, xs n / 3)).2) := by rw [← e1]
      rw [hp]
      obtain ⟨p2, e2, c2⟩ := putF_toI n p1 (putF (n : Int) (toI pn, xs n / 3)).2
      refine ⟨p2, e2, fun a => ?_⟩
      rw [c2, c1, h2]
      split <;> split <;> (try split) <;> lia
    · simp only [curveF, h3]
      simp [toI, List.range_succ]
end

-- text W26
section


/-- what the curve of a script is, as lists of numbers -/
theorem curve4 (xs : Nat → Nat) : ∃ (pn : List Nat) (w : Nat → Nat), curveF xs 4 = (toI pn, toI (waysN w)) ∧ (∀ a, pn.count a = if a < 4 then 2 else 0) ∧ (∀ k, w k < 3) := by
  obtain ⟨⟨pn, h1, h2⟩, h3⟩ := curve_pn xs 4
  exact ⟨pn, fun k => xs k % 3, by rw [← h1, show toI (waysN fun k => xs k % 3) = (curveF xs 4).2 from h3.symm], h2, fun k => Nat.mod_lt _ (by lia)⟩
theorem pn_lt {pn : List Nat} (h : ∀ a, pn.count a = if a < 4 then 2 else 0) : ∀ k ∈ pn, k < 4 := fun k hk => by
  have := List.count_pos_iff.mpr hk
  rw [h] at this
  split at this <;> lia
end

-- text W27
section


theorem count_len (pn : List Nat) (h : ∀ a, pn.count a = if a < 4 then 2 else 0) : pn.length = 8 := by
  have hlt := pn_lt h
  have key : ∀ l : List Nat, (∀ k ∈ l, k < 4) → l.length = l.count 0 + l.count 1 + l.count 2 + l.count 3 := by
    intro l
    induction l with
    | nil => intro _; rfl
    | cons a r ih =>
      intro hl
      have ha := hl a (.head _)
      have := ih fun k hk => hl k (.tail _ hk)
      simp only [List.count_cons, List.length_cons, this]
      match a, ha with
      | 0, _ => simp; lia
      | 1, _ => simp; lia
      | 2, _ => simp; lia
      | 3, _ => simp; lia
  rw [key pn hlt, h, h, h, h]
  rfl
end

-- text W28
section


theorem once_of {cut : List Int} {k : Int} (h : cut.count k = 1) : ∃ j : Nat, cut[j]? = some k ∧ ∀ t : Nat, t ≠ j → cut[t]? ≠ some k := by
  induction cut with
  | nil => simp at h
  | cons a r ih =>
    rw [List.count_cons] at h
    by_cases ha : a = k
    · subst ha
      simp only [beq_self_eq_true, if_true] at h
      have h0 : r.count a = 0 := by lia
      refine ⟨0, rfl, fun t ht hk => ?_⟩
      obtain ⟨t', rfl⟩ : ∃ t', t = t' + 1 := ⟨t - 1, by lia⟩
      rw [List.getElem?_cons_succ] at hk
      exact absurd (List.mem_of_getElem? hk) (List.count_eq_zero.mp h0)
    · rw [if_neg (by simpa using ha)] at h
      obtain ⟨j, h1, h2⟩ := ih (by lia)
      refine ⟨j + 1, by rw [List.getElem?_cons_succ]; exact h1, fun t ht hk => ?_⟩
      cases t with
      | zero => simp at hk; exact ha hk
      | succ t => rw [List.getElem?_cons_succ] at hk; exact h2 t (by lia) hk
theorem twice_of {cut : List Int} {k : Int} (h : cut.count k = 2) : ∃ i j, Twice cut k i j := by
  induction cut with
  | nil => simp at h
  | cons a r ih =>
    rw [List.count_cons] at h
    by_cases ha : a = k
    · subst ha
      simp only [beq_self_eq_true, if_true] at h
      obtain ⟨j, h1, h2⟩ := once_of (cut := r) (k := a) (by lia)
      refine ⟨0, j + 1, ⟨by lia, by have := (List.getElem?_eq_some_iff.mp h1).1; simp; lia, rfl, by rw [List.getElem?_cons_succ]; exact h1, fun t h0 hj hk => ?_⟩⟩
      obtain ⟨t', rfl⟩ : ∃ t', t = t' + 1 := ⟨t - 1, by lia⟩
      rw [List.getElem?_cons_succ] at hk
      exact h2 t' (by lia) hk
    · rw [if_neg (by simpa using ha)] at h
      obtain ⟨i, j, T⟩ := ih (by lia)
      refine ⟨i + 1, j + 1, ⟨by have := T.ij; lia, by have := T.jn; simp; lia, by rw [List.getElem?_cons_succ]; exact T.ei, by rw [List.getElem?_cons_succ]; exact T.ej, fun t h0 hj hk => ?_⟩⟩
      cases t with
      | zero => simp at hk; exact ha hk
      | succ t => rw [List.getElem?_cons_succ] at hk; exact T.no t (by lia) (by lia) hk
end

-- text W29
section


theorem count_toI (l : List Nat) (k : Nat) : (toI l).count (k : Int) = l.count k := by
  induction l with
  | nil => rfl
  | cons a r ih =>
    show List.count (k : Int) ((a : Int) :: toI r) = _
    rw [List.count_cons, List.count_cons, ih]
    congr 1
    by_cases h : a = k
    · subst h; simp
    · have : ¬ ((a : Int) = k) := by lia
      simp [h, this]
theorem cut_twice {pn : List Nat} {w : Nat → Nat} (h : ∀ a, pn.count a = if a < 4 then 2 else 0) : ∃ I J : Nat → Nat, ∀ k ∈ liveN w, Twice (toI (cutN pn w)) k (I k) (J k) := by
  have : ∀ k : Nat, ∃ i j, k ∈ liveN w → Twice (toI (cutN pn w)) k i j := fun k => by
    by_cases hk : k ∈ liveN w
    · have h1 : (toI (cutN pn w)).count (k : Int) = 2 := by
        rw [count_toI]
        unfold cutN
        rw [List.count_filter (by simpa using live0 k hk), h, if_pos (live4 k hk)]
      obtain ⟨i, j, T⟩ := twice_of h1
      exact ⟨i, j, fun _ => T⟩
    · exact ⟨0, 0, fun h => absurd h hk⟩
  exact ⟨fun k => (this k).choose, fun k => (this k).choose_spec.choose, fun k hk => (this k).choose_spec.choose_spec hk⟩
end

-- text W30
section


/-- the items of one unit at position i -/
def itemsU (i : Nat) (k w : Nat) : List (Nat × List Nat) :=
  if w = 0 then [(i, [34]), (i + 1, [119 + k]), (i + 3, [92, 34]), (i + 4, [34])] else if w = 1 then [(i, [97 + k])] else [(i + 1, [92, [34, 92, 40, 101].getD k 0])]
theorem escL_unit (i k w : Nat) (hk : k < 4) (r : List Nat) : escL i false (unitL k w ++ r) = itemsU i k w ++ escL (i + (unitL k w).length) false r := by
  unfold unitL itemsU
  split
  · simp [escL]; lia
  · split
    · simp [escL]; lia
    · simp [escL]
def itemsAll : Nat → List Nat → (Nat → Nat) → List (Nat × List Nat)
  | i, [], _ => [(i, [34]), (i + 1, [92])]
  | i, k :: r, w => itemsU i k (w k) ++ itemsAll (i + (unitL k (w k)).length) r w
theorem textN_cons (k : Nat) (r : List Nat) (w : Nat → Nat) : textN (k :: r) w = unitL k (w k) ++ textN r w := by
  simp [textN, unitsN]
theorem escL_text (pn : List Nat) (w : Nat → Nat) (hp : ∀ k ∈ pn, k < 4) (i : Nat) : escL i false (textN pn w) = itemsAll i pn w := by
  induction pn generalizing i with
  | nil => simp [textN, unitsN, escL, itemsAll]
  | cons k r ih =>
    rw [textN_cons, escL_unit _ _ _ (hp k (.head _)), ih (fun q hq => hp q (.tail _ hq))]
    rfl
end

-- text W31
section


/-- what is kept so far, up to place i -/
def outS (x : List Nat) (s : StS) (i : Nat) : List Nat := s.rs.flatten ++ (x.drop s.st).take (i - s.st)
theorem take_more (x : List Nat) {a i m : Nat} (h : a ≤ i) : (x.drop a).take (i + m - a) = (x.drop a).take (i - a) ++ (x.drop i).take m := by
  rw [show i + m - a = (i - a) + m by lia, List.take_add, List.drop_drop, show a + (i - a) = i by lia]
theorem step_unit (x : List Nat) (s : StS) (i k w : Nat) (hk : k < 4) (r pre : List Nat) (hx : x = pre ++ (unitL k w ++ r)) (hi : pre.length = i) (ho : s.op = none) (hs : s.st ≤ i) :
    ((itemsU i k w).foldl (stepT x) s).op = none ∧ ((itemsU i k w).foldl (stepT x) s).st ≤ i + (unitL k w).length ∧
    outS x ((itemsU i k w).foldl (stepT x) s) (i + (unitL k w).length) = outS x s i ++ (if w = 0 then [] else unitL k w) := by
  have hd : (x.drop i).take (unitL k w).length = unitL k w := by rw [hx, ← hi, List.drop_left, List.take_left]
  obtain ⟨st, op, rs⟩ := s
  simp only at ho hs
  subst ho
  by_cases h0 : w = 0
  · subst h0
    have h119 : ¬ (119 + k = 34) := by lia
    have e : (itemsU i k 0).foldl (stepT x) ⟨st, none, rs⟩ = ⟨i + 5, none, if st = i then rs else rs ++ [(x.drop st).take (i - st)]⟩ := by
      simp [itemsU, stepT, h119]
    rw [e]
    refine ⟨rfl, by simp [unitL], ?_⟩
    simp only [outS, unitL, if_true, List.append_nil]
    by_cases h : st = i
    · subst h; simp
    · simp [h]
  · have e : (itemsU i k w).foldl (stepT x) ⟨st, none, rs⟩ = ⟨st, none, rs⟩ := by
      have h97 : ¬ (97 + k = 34) := by lia
      unfold itemsU
      rw [if_neg h0]
      split <;> simp [stepT, h97]
    rw [e, if_neg h0]
    refine ⟨rfl, by simp only; lia, ?_⟩
    simp only [outS]
    rw [take_more x hs, hd, List.append_assoc]
end

-- text X1
section


/-! finding and splitting, on lists of signs -/
def matB (x y : List Nat) (t : Nat) : Bool := (x.drop t).take y.length == y
theorem subAt_tx (x y : List Nat) (t : Nat) : Builtin.Str.subAt (tx x) (tx y) t = matB x y t := by
  rw [StrLaws.subAt_eq]
  unfold matB
  rw [mk_length]
theorem findF_find (got y : List Nat) (i j : Nat) : findF got y i j = (List.range' i (min j got.length + 1 - i)).find? fun t => decide (t + y.length ≤ min j got.length) && matB got y t := by
  have hat : ∀ t, StrLaws.At (tx got) (tx y) (min j got.length) t ↔ (decide (t + y.length ≤ min j got.length) && matB got y t) = true := fun t => by
    unfold StrLaws.At
    rw [mk_length, subAt_tx, Bool.and_eq_true, decide_eq_true_eq]
  have hh : findF got y i j = (occ got y i (min j got.length) 1).head? := by unfold findF; cases occ got y i (min j got.length) 1 <;> rfl
  rw [hh]
  show (Builtin.Str.occurrences _ _ _ _ _).head? = _
  rw [StrLaws.occ_eq]
  rcases StrLaws.occ_first (tx got) (tx y) (min j got.length) 1 (Nat.le_refl 1) (List.range' i (min j got.length + 1 - i)) i (fun t ht => by have := List.mem_range'.mp ht; lia) with ⟨h0, hn⟩ | ⟨pre, a, post, e, h0, ha, hn⟩
  · rw [h0]
    refine (List.find?_eq_none.mpr fun t ht => ?_).symm
    rw [← hat]; exact hn t ht
  · generalize (forIn (List.range' i (min j got.length + 1 - i)) ((#[] : Array Nat), i) (StrLaws.occBody (tx got) (tx y) (min j got.length) 1)).run.fst = arr at h0
    rw [e, List.find?_append, List.find?_eq_none.mpr (fun t ht => by rw [← hat]; exact hn t ht), Option.none_or, List.head?_eq_getElem?]
    have hf : (a :: post).find? (fun t => decide (t + y.length ≤ min j got.length) && matB got y t) = some a := List.find?_cons_of_pos ((hat a).mp ha)
    rw [hf]
    simpa using h0
theorem findF_skip {got y : List Nat} {i i' j : Nat} (h1 : i ≤ i') (h2 : i' ≤ min j got.length + 1) (h : ∀ t, i ≤ t → t < i' → t + y.length ≤ min j got.length → matB got y t = false) : findF got y i j = findF got y i' j := by
  rw [findF_find, findF_find]
  have e : List.range' i (min j got.length + 1 - i) = List.range' i (i' - i) ++ List.range' i' (min j got.length + 1 - i') := by
    have := List.range'_append (s := i) (m := i' - i) (n := min j got.length + 1 - i') (step := 1)
    rw [show i + 1 * (i' - i) = i' by lia, show i' - i + (min j got.length + 1 - i') = min j got.length + 1 - i by lia] at this
    exact this.symm
  rw [e, List.find?_append, List.find?_eq_none.mpr, Option.none_or]
  intro t ht
  obtain ⟨k, hk, rfl⟩ := List.mem_range'.mp ht
  intro hc
  rw [Bool.and_eq_true, decide_eq_true_eq] at hc
  rw [h _ (by lia) (by lia) hc.1] at hc
  cases hc.2
theorem findF_here {got y : List Nat} {i j : Nat} (h1 : i + y.length ≤ min j got.length) (h : matB got y i = true) : findF got y i j = some i := by
  rw [findF_find, show min j got.length + 1 - i = (min j got.length - i) + 1 by lia, List.range'_succ, List.find?_cons_of_pos]
  rw [h, Bool.and_true, decide_eq_true_eq]; exact h1
theorem findF_end {got y : List Nat} {i j : Nat} (h1 : min j got.length < i + y.length) : findF got y i j = none := by
  rw [findF_find, List.find?_eq_none]
  intro t ht
  obtain ⟨k, hk, rfl⟩ := List.mem_range'.mp ht
  have : ¬ (i + 1 * k + y.length ≤ min j got.length) := by lia
  simp only [this, decide_false, Bool.false_and]
  decide
/-! splitting at dots -/
def inter : List (List Nat) → List Nat
  | [] => []
  | [p] => p
  | p :: q :: r => p ++ ([46, 46, 46] ++ inter (q :: r))
def cutsF : Nat → List (List Nat) → List Nat
  | _, [] => []
  | _, [_] => []
  | a, p :: q :: r => (a + p.length) :: cutsF (a + p.length + 3) (q :: r)
def stp (x y : List Nat) (hi lim : Nat) (st : Array Nat × Nat) (i : Nat) : Array Nat × Nat :=
  if ((st.1.size < lim ∧ st.2 ≤ i) ∧ i + y.length ≤ hi) ∧ matB x y i = true then (st.1.push i, i + y.length) else st
theorem occ_fold (x y : List Nat) (hi lim : Nat) : ∀ (l : List Nat) (st : Array Nat × Nat), (forIn l st (StrLaws.occBody (tx x) (tx y) hi lim)).run = l.foldl (stp x y hi lim) st
  | [], st => rfl
  | a :: l, st => by
    rw [List.forIn_cons, List.foldl_cons, ← occ_fold x y hi lim l]
    unfold StrLaws.occBody stp
    rw [mk_length, subAt_tx]
    split <;> rfl
theorem fold_skip {x y : List Nat} {hi lim : Nat} : ∀ (l : List Nat) (st : Array Nat × Nat), (∀ i ∈ l, i < st.2 ∨ ¬ (i + y.length ≤ hi ∧ matB x y i = true)) → l.foldl (stp x y hi lim) st = st
  | [], st, h => rfl
  | a :: l, st, h => by
    have e : stp x y hi lim st a = st := by
      unfold stp
      rw [if_neg]
      rintro ⟨⟨⟨_, h1⟩, h2⟩, h3⟩
      rcases h a (.head _) with h4 | h4
      · lia
      · exact h4 ⟨h2, h3⟩
    rw [List.foldl_cons, e]
    exact fold_skip l st fun i hi => h i (.tail _ hi)
theorem matB_head {x : List Nat} {c : Nat} {r : List Nat} {t : Nat} (h : matB x (c :: r) t = true) : x[t]? = some c := by
  unfold matB at h
  have h := eq_of_beq h
  have h1 : ((x.drop t).take (c :: r).length)[0]? = some c := by rw [h]; rfl
  rw [List.getElem?_take, if_pos (by simp), List.getElem?_drop] at h1
  exact h1
theorem cuts_fold (x : List Nat) (lim : Nat) : ∀ (ws : List (List Nat)) (A : List Nat) (f : Array Nat), ws ≠ [] → x = A ++ inter ws → (∀ p ∈ ws, 46 ∉ p) → f.size ≤ A.length → x.length < lim →
    ((List.range' A.length (x.length + 1 - A.length)).foldl (stp x [46, 46, 46] x.length lim) (f, A.length)).1.toList = f.toList ++ cutsF A.length ws
  | [], A, f, h, _, _, _, _ => absurd rfl h
  | [p], A, f, _, hx, hp, hf, hl => by
    rw [fold_skip, cutsF, List.append_nil]
    intro i hi
    right
    rintro ⟨_, h2⟩
    obtain ⟨k, hk, rfl⟩ := List.mem_range'.mp hi
    have h3 := matB_head h2
    rw [hx, List.getElem?_append_right (by lia)] at h3
    exact hp p (.head _) (List.mem_of_getElem? h3)
  | p :: q :: r, A, f, _, hx, hp, hf, hl => by
    have hlen : x.length = A.length + p.length + 3 + (inter (q :: r)).length := by rw [hx, inter]; simp; lia
    have e : List.range' A.length (x.length + 1 - A.length) = List.range' A.length p.length ++ ((A.length + p.length) :: (List.range' (A.length + p.length + 1) 2 ++ List.range' (A.length + p.length + 3) (x.length + 1 - (A.length + p.length + 3)))) := by
      have a1 := List.range'_append (s := A.length + p.length + 1) (m := 2) (n := x.length + 1 - (A.length + p.length + 3)) (step := 1)
      rw [show A.length + p.length + 1 + 1 * 2 = A.length + p.length + 3 by lia] at a1
      rw [a1, ← List.range'_succ]
      have a2 := List.range'_append (s := A.length) (m := p.length) (n := 2 + (x.length + 1 - (A.length + p.length + 3)) + 1) (step := 1)
      rw [show A.length + 1 * p.length = A.length + p.length by lia] at a2
      rw [a2]
      congr 1
      lia
    rw [e, List.foldl_append, fold_skip (l := List.range' A.length p.length), List.foldl_cons, List.foldl_append]
    · have hm : matB x [46, 46, 46] (A.length + p.length) = true := by
        unfold matB
        rw [hx, inter, ← List.append_assoc, ← List.length_append, List.drop_left]
        rfl
      have e1 : stp x [46, 46, 46] x.length lim (f, A.length) (A.length + p.length) = (f.push (A.length + p.length), A.length + p.length + 3) := by
        unfold stp
        rw [if_pos]
        · rfl
        · exact ⟨⟨⟨by show f.size < lim; lia, by show A.length ≤ _; lia⟩, by show A.length + p.length + 3 ≤ _; lia⟩, hm⟩
      rw [e1, fold_skip (l := List.range' (A.length + p.length + 1) 2)]
      · have ih := cuts_fold x lim (q :: r) (A ++ p ++ [46, 46, 46]) (f.push (A.length + p.length)) (by simp) (by rw [hx, inter]; simp) (fun y hy => hp y (.tail _ hy)) (by simp; lia) hl
        have hl2 : (A ++ p ++ [46, 46, 46]).length = A.length + p.length + 3 := by simp; lia
        rw [hl2] at ih
        rw [ih, cutsF]
        simp
      · intro i hi
        left
        obtain ⟨k, hk, rfl⟩ := List.mem_range'.mp hi
        show _ < A.length + p.length + 3
        lia
    · intro i hi
      right
      rintro ⟨_, h2⟩
      obtain ⟨k, hk, rfl⟩ := List.mem_range'.mp hi
      have h3 := matB_head h2
      rw [hx, List.getElem?_append_right (by lia), inter, List.getElem?_append_left (by lia)] at h3
      exact hp p (.head _) (List.mem_of_getElem? h3)
theorem strSub_tx (x : List Nat) (i j : Nat) : Builtin.Str.strSub (tx x) i j = tx ((x.drop i).take (j - i)) := by
  unfold Builtin.Str.strSub
  simp
theorem cuts_parts (x : List Nat) : ∀ (ws : List (List Nat)) (A : List Nat), ws ≠ [] → x = A ++ inter ws →
    ((A.length :: (cutsF A.length ws).map (· + 3)).zip (cutsF A.length ws ++ [x.length])).map (fun (i, j) => Builtin.Str.strSub (tx x) i j) = ws.map tx
  | [], A, h, _ => absurd rfl h
  | [p], A, _, hx => by
    simp only [cutsF, List.map_nil, List.nil_append, List.zip_cons_cons, List.zip_nil_right, List.map_cons]
    rw [strSub_tx, hx, inter, List.drop_left, List.length_append, Nat.add_sub_cancel_left, List.take_length]
  | p :: q :: r, A, _, hx => by
    have ih := cuts_parts x (q :: r) (A ++ p ++ [46, 46, 46]) (by simp) (by rw [hx, inter]; simp)
    have hl2 : (A ++ p ++ [46, 46, 46]).length = A.length + p.length + 3 := by simp; lia
    rw [hl2] at ih
    have hs : Builtin.Str.strSub (tx x) A.length (A.length + p.length) = tx p := by
      rw [strSub_tx, hx, inter, List.drop_left, Nat.add_sub_cancel_left, List.take_left]
    simp only [cutsF, List.map_cons, List.cons_append, List.zip_cons_cons]
    rw [hs]
    congr 1
theorem occ_all {ws : List (List Nat)} (h : ws ≠ []) (hp : ∀ p ∈ ws, 46 ∉ p) {lim : Nat} (hl : (inter ws).length < lim) : occ (inter ws) [46, 46, 46] 0 (inter ws).length lim = cutsF 0 ws := by
  show Builtin.Str.occurrences _ _ _ _ _ = _
  rw [StrLaws.occ_eq, occ_fold]
  have := cuts_fold (inter ws) lim ws [] #[] h rfl hp (Nat.zero_le _) hl
  simpa using this
theorem split_dots {ws : List (List Nat)} (h2 : 2 ≤ ws.length) (hp : ∀ p ∈ ws, 46 ∉ p) : Txt.split (tx (inter ws)) (tx [46, 46, 46]) = ws.map tx := by
  have h : ws ≠ [] := by rintro rfl; simp at h2
  have hl : 3 ≤ (inter ws).length := by
    match ws, h2 with
    | p :: q :: r, _ => rw [inter]; simp; lia
  have hc : cutsF 0 ws ≠ [] := by
    match ws, h2 with
    | p :: q :: r, _ => rw [cutsF]; simp
  unfold Txt.split
  have hk : Builtin.Str.strKind (tx [46, 46, 46]) = 1 := by decide +kernel
  have hk2 := PyProof.Rows.strKind_pos (tx (inter ws))
  rw [mk_length, mk_length, hk]
  have e0 : (decide ((inter ws).length < [46, 46, 46].length) || decide (Builtin.Str.strKind (tx (inter ws)) < 1)) = false := by
    rw [Bool.or_eq_false_iff, decide_eq_false_iff_not, decide_eq_false_iff_not]
    exact ⟨by show ¬ (_ < 3); lia, by lia⟩
  have e1 : Builtin.Str.occurrences (tx (inter ws)) (tx [46, 46, 46]) 0 (inter ws).length ((inter ws).length + 1) = cutsF 0 ws := occ_all h hp (by lia)
  rw [e0, if_neg (by decide), e1, if_neg (by simpa using hc)]
  unfold Builtin.Str.partsBetween
  have := cuts_parts (inter ws) ws [] h rfl
  rw [mk_length]
  exact this
theorem occ_one {ws : List (List Nat)} (h2 : 2 ≤ ws.length) (hp : ∀ p ∈ ws, 46 ∉ p) : (occ (inter ws) [46, 46, 46] 0 (inter ws).length 1).isEmpty = false := by
  have h : ws ≠ [] := by rintro rfl; simp at h2
  have e1 : occ (inter ws) [46, 46, 46] 0 (inter ws).length ((inter ws).length + 1) = cutsF 0 ws := occ_all h hp (by lia)
  have hc : cutsF 0 ws ≠ [] := by
    match ws, h2 with
    | p :: q :: r, _ => rw [cutsF]; simp
  obtain ⟨c, r, hcr⟩ : ∃ c r, cutsF 0 ws = c :: r := by
    cases hh : cutsF 0 ws with
    | nil => exact absurd hh hc
    | cons c r => exact ⟨c, r, rfl⟩
  have h3 := StrLaws.occ_spec (tx (inter ws)) (tx [46, 46, 46]) 0 (inter ws).length ((inter ws).length + 1) c (by show c ∈ occ _ _ _ _ _; rw [e1, hcr]; exact .head _)
  have h4 := (StrLaws.found_iff (tx (inter ws)) (tx [46, 46, 46])).mpr ⟨c, by rw [mk_length (inter ws)]; exact h3⟩
  rw [mk_length (inter ws)] at h4
  simpa using h4
theorem occ_no {x : List Nat} (h : 46 ∉ x) : (occ x [46, 46, 46] 0 x.length 1).isEmpty = true := by
  cases hh : (occ x [46, 46, 46] 0 x.length 1).isEmpty with
  | true => rfl
  | false =>
    have h4 := (StrLaws.found_iff (tx x) (tx [46, 46, 46])).mp (by rw [mk_length]; simpa using hh)
    obtain ⟨i, _, h2⟩ := h4
    rw [subAt_tx] at h2
    exact absurd (List.mem_of_getElem? (matB_head h2)) h
end

-- text X2
section


theorem unit_cases {k : Nat} (w : Nat) (hw : w = 1 ∨ w = 2) (hk : k < 4) : (w = 1 ∧ unitL k w = [97 + k]) ∨ (w = 2 ∧ unitL k w = [92, [34, 92, 40, 101].getD k 0]) := by
  rcases hw with rfl | rfl
  · left; exact ⟨rfl, rfl⟩
  · right; exact ⟨rfl, rfl⟩
theorem sgn_val {k : Nat} (hk : k < 4) : (k = 0 ∧ [34, 92, 40, 101].getD k 0 = 34) ∨ (k = 1 ∧ [34, 92, 40, 101].getD k 0 = 92) ∨ (k = 2 ∧ [34, 92, 40, 101].getD k 0 = 40) ∨ (k = 3 ∧ [34, 92, 40, 101].getD k 0 = 101) := by
  have : k = 0 ∨ k = 1 ∨ k = 2 ∨ k = 3 := by lia
  rcases this with rfl | rfl | rfl | rfl
  · left; exact ⟨rfl, rfl⟩
  · right; left; exact ⟨rfl, rfl⟩
  · right; right; left; exact ⟨rfl, rfl⟩
  · right; right; right; exact ⟨rfl, rfl⟩
theorem matB_get {x y : List Nat} {t : Nat} (h : matB x y t = true) (n : Nat) (hn : n < y.length) : x[t + n]? = y[n]? := by
  unfold matB at h
  have h := congrArg (fun l : List Nat => l[n]?) (eq_of_beq h)
  rw [List.getElem?_take, if_pos hn, List.getElem?_drop] at h
  exact h
def flatU (ms : List Nat) (w : Nat → Nat) : List Nat := (unitsN ms w).flatten
theorem flatU_cons (m : Nat) (r : List Nat) (w : Nat → Nat) : flatU (m :: r) w = unitL m (w m) ++ flatU r w := rfl
section
variable {w : Nat → Nat} {A Z : List Nat} {q : Nat}
theorem find_here {r : List Nat} : findF (A ++ (flatU (q :: r) w ++ Z)) (unitL q (w q)) A.length (A.length + (flatU (q :: r) w).length) = some A.length := by
  refine findF_here ?_ ?_
  · rw [flatU_cons]; simp only [List.length_append]; lia
  · unfold matB
    rw [List.drop_left, flatU_cons, List.append_assoc, List.take_left]
    exact beq_self_eq_true _
theorem find_none (hq : q < 4) (hwq : w q = 1 ∨ w q = 2) {en : Nat} (hen : en = A.length) {got : List Nat} : findF got (unitL q (w q)) A.length en = none := by
  refine findF_end ?_
  rcases unit_cases (w q) hwq hq with ⟨_, e⟩ | ⟨_, e⟩ <;> rw [e] <;> simp <;> lia
theorem find_skip {m : Nat} {r : List Nat} (hq : q < 4) (hwq : w q = 1 ∨ w q = 2) (hm : m < 4) (hwm : w m = 1 ∨ w m = 2) (hr : ∀ x ∈ r, x < 4 ∧ (w x = 1 ∨ w x = 2)) (hne : m ≠ q) :
    findF (A ++ (flatU (m :: r) w ++ Z)) (unitL q (w q)) A.length (A.length + (flatU (m :: r) w).length) = findF (A ++ (flatU (m :: r) w ++ Z)) (unitL q (w q)) (A.length + (unitL m (w m)).length) (A.length + (flatU (m :: r) w).length) := by
  have hmin : min (A.length + (flatU (m :: r) w).length) (A ++ (flatU (m :: r) w ++ Z)).length = A.length + (flatU (m :: r) w).length := by
    simp only [List.length_append]; lia
  refine findF_skip (by lia) (by rw [hmin, flatU_cons, List.length_append]; lia) fun t h1 h2 h3 => ?_
  rw [hmin] at h3
  cases hb : matB (A ++ (flatU (m :: r) w ++ Z)) (unitL q (w q)) t with
  | false => rfl
  | true =>
    exfalso
    have g := matB_get hb
    have gg : ∀ n, n < (flatU (m :: r) w).length → (A ++ (flatU (m :: r) w ++ Z))[A.length + n]? = (flatU (m :: r) w)[n]? := fun n hn => by
      rw [List.getElem?_append_right (by lia), Nat.add_sub_cancel_left, List.getElem?_append_left hn]
    have hfl : (flatU (m :: r) w).length = (unitL m (w m)).length + (flatU r w).length := by rw [flatU_cons, List.length_append]
    rcases unit_cases (w m) hwm hm with ⟨_, em⟩ | ⟨_, em⟩ <;> rcases unit_cases (w q) hwq hq with ⟨_, eq⟩ | ⟨_, eq⟩
    · rw [em] at h2 hfl; rw [eq] at g
      simp only [List.length_cons, List.length_nil] at h2 hfl g
      have := g 0 (by lia)
      rw [show t + 0 = A.length + 0 by lia, gg 0 (by lia), flatU_cons, em] at this
      simp at this
      exact hne this
    · rw [em] at h2 hfl; rw [eq] at g
      simp only [List.length_cons, List.length_nil] at h2 hfl g
      have := g 0 (by lia)
      rw [show t + 0 = A.length + 0 by lia, gg 0 (by lia), flatU_cons, em] at this
      simp at this
      lia
    · rw [em] at h2 hfl; rw [eq] at g
      simp only [List.length_cons, List.length_nil] at h2 hfl g
      have g0 := g 0 (by lia)
      by_cases ht : t = A.length
      · rw [show t + 0 = A.length + 0 by lia, gg 0 (by lia), flatU_cons, em] at g0
        simp at g0
        lia
      · rw [show t + 0 = A.length + 1 by lia, gg 1 (by lia), flatU_cons, em] at g0
        have g0' : [34, 92, 40, 101].getD m 0 = 97 + q := by simpa using g0
        rcases sgn_val hm with ⟨_, e⟩ | ⟨_, e⟩ | ⟨_, e⟩ | ⟨_, e⟩ <;> rw [e] at g0' <;> lia
    · rw [em] at h2 hfl; rw [eq] at g h3
      simp only [List.length_cons, List.length_nil] at h2 h3 hfl g
      have g0 := g 0 (by lia)
      have g1 := g 1 (by lia)
      by_cases ht : t = A.length
      · rw [show t + 1 = A.length + 1 by lia, gg 1 (by lia), flatU_cons, em] at g1
        have g1' : [34, 92, 40, 101].getD m 0 = [34, 92, 40, 101].getD q 0 := by simpa using g1
        rcases sgn_val hm with ⟨_, e⟩ | ⟨_, e⟩ | ⟨_, e⟩ | ⟨_, e⟩ <;> rcases sgn_val hq with ⟨_, e'⟩ | ⟨_, e'⟩ | ⟨_, e'⟩ | ⟨_, e'⟩ <;> rw [e, e'] at g1' <;> lia
      · rw [show t + 0 = A.length + 1 by lia, gg 1 (by lia), flatU_cons, em] at g0
        have g0' : [34, 92, 40, 101].getD m 0 = 92 := by simpa using g0
        rw [show t + 1 = A.length + 2 by lia, gg 2 (by lia), flatU_cons, em] at g1
        have g1' : (flatU r w)[0]? = some ([34, 92, 40, 101].getD q 0) := by simpa using g1
        cases r with
        | nil => cases g1'
        | cons m' r' =>
          obtain ⟨hm', hwm'⟩ := hr m' (.head _)
          rw [flatU_cons] at g1'
          rcases unit_cases (w m') hwm' hm' with ⟨_, em'⟩ | ⟨_, em'⟩
          · rw [em'] at g1'
            have g2 : 97 + m' = [34, 92, 40, 101].getD q 0 := by simpa using g1'
            rcases sgn_val hq with ⟨_, e'⟩ | ⟨_, e'⟩ | ⟨_, e'⟩ | ⟨_, e'⟩ <;> rw [e'] at g2 <;> lia
          · rw [em'] at g1'
            have g2 : 92 = [34, 92, 40, 101].getD q 0 := by simpa using g1'
            rcases sgn_val hm with ⟨_, e⟩ | ⟨_, e⟩ | ⟨_, e⟩ | ⟨_, e⟩ <;> rcases sgn_val hq with ⟨_, e'⟩ | ⟨_, e'⟩ | ⟨_, e'⟩ | ⟨_, e'⟩ <;> rw [e] at g0' <;> rw [e'] at g2 <;> lia
end
theorem ell_one {w : Nat → Nat} {q : Nat} (hq : q < 4) (hwq : w q = 1 ∨ w q = 2) : ∀ (ms A Z : List Nat), (∀ x ∈ ms, x < 4 ∧ (w x = 1 ∨ w x = 2)) →
    ellLoop (A ++ (flatU ms w ++ Z)) (A.length + (flatU ms w).length) [unitL q (w q)] A.length = decide (1 ≤ ms.count q)
  | [], A, Z, h => by
    rw [ellLoop, find_none hq hwq (by simp [flatU, unitsN])]; rfl
  | m :: r, A, Z, h => by
    by_cases e : m = q
    · subst e
      rw [ellLoop, find_here]
      simp [ellLoop]
    · obtain ⟨hm, hwm⟩ := h m (.head _)
      have ih := ell_one hq hwq r (A ++ unitL m (w m)) Z fun x hx => h x (.tail _ hx)
      rw [ellLoop] at ih ⊢
      rw [find_skip hq hwq hm hwm (fun x hx => h x (.tail _ hx)) e, List.count_cons_of_ne e]
      rw [List.length_append, List.append_assoc] at ih
      rw [flatU_cons, List.append_assoc, List.length_append, ← Nat.add_assoc]
      exact ih
theorem ell_two {w : Nat → Nat} {q : Nat} (hq : q < 4) (hwq : w q = 1 ∨ w q = 2) : ∀ (ms A Z : List Nat), (∀ x ∈ ms, x < 4 ∧ (w x = 1 ∨ w x = 2)) →
    ellLoop (A ++ (flatU ms w ++ Z)) (A.length + (flatU ms w).length) [unitL q (w q), unitL q (w q)] A.length = decide (2 ≤ ms.count q)
  | [], A, Z, h => by
    rw [ellLoop, find_none hq hwq (by simp [flatU, unitsN])]; rfl
  | m :: r, A, Z, h => by
    by_cases e : m = q
    · subst e
      have i1 := ell_one hq hwq r (A ++ unitL m (w m)) Z fun x hx => h x (.tail _ hx)
      rw [List.length_append, List.append_assoc] at i1
      rw [ellLoop, find_here, List.count_cons_self]
      simp only
      rw [flatU_cons, List.append_assoc, List.length_append, ← Nat.add_assoc, i1]
      rw [decide_eq_decide]; lia
    · obtain ⟨hm, hwm⟩ := h m (.head _)
      have ih := ell_two hq hwq r (A ++ unitL m (w m)) Z fun x hx => h x (.tail _ hx)
      rw [ellLoop] at ih ⊢
      rw [find_skip hq hwq hm hwm (fun x hx => h x (.tail _ hx)) e, List.count_cons_of_ne e]
      rw [List.length_append, List.append_assoc] at ih
      rw [flatU_cons, List.append_assoc, List.length_append, ← Nat.add_assoc]
      exact ih
theorem starts_app (w r : List Nat) : Txt.startswith (tx (w ++ r)) (tx w) = true := by
  unfold Txt.startswith
  rw [mk_length, mk_length, subAt_tx, Bool.and_eq_true, decide_eq_true_eq]
  refine ⟨by simp, ?_⟩
  unfold matB
  rw [List.drop_zero, List.take_left]
  exact beq_self_eq_true _
theorem ends_app (r w : List Nat) : Txt.endswith (tx (r ++ w)) (tx w) = true := by
  unfold Txt.endswith
  rw [mk_length, mk_length, subAt_tx, Bool.and_eq_true, decide_eq_true_eq]
  refine ⟨by simp, ?_⟩
  unfold matB
  rw [List.length_append, Nat.add_sub_cancel, List.drop_left, List.take_length]
  exact beq_self_eq_true _
/-- a part between dots, ahead of it the head and behind it the tail -/
theorem ell_mid {pre mid post : List Nat} {ws : List (List Nat)} (h1 : pre ≠ []) (h2 : post ≠ []) (hw : ws ≠ []) : ellF (pre :: (ws ++ [post])) (pre ++ (mid ++ post)) = ellLoop (pre ++ (mid ++ post)) (pre.length + mid.length) ws pre.length := by
  have hp : pre.isEmpty = false := by cases pre with | nil => exact absurd rfl h1 | cons a r => rfl
  have hl : (ws ++ [post]).getLast?.getD [] = post := by rw [List.getLast?_append]; rfl
  have hlen : (pre ++ (mid ++ post)).length - post.length = pre.length + mid.length := by simp only [List.length_append]; lia
  unfold ellF
  rw [List.headD_cons, hp, if_neg (by decide), starts_app, if_pos rfl, List.tail_cons]
  unfold ellTail
  rw [hl, if_neg h2, ← List.append_assoc pre mid post, ends_app, if_pos rfl, List.append_assoc, hlen, if_neg (by lia), List.dropLast_concat]
end

-- text X3
section


theorem unit_chars {k w : Nat} (hk : k < 4) : ∀ c ∈ unitL k w, c ≠ 45 ∧ c ≠ 46 ∧ c < 128 := by
  intro c hc
  unfold unitL at hc
  split at hc
  · simp only [List.mem_cons, List.not_mem_nil, or_false] at hc
    lia
  · split at hc
    · simp only [List.mem_cons, List.not_mem_nil, or_false] at hc
      lia
    · simp only [List.mem_cons, List.not_mem_nil, or_false] at hc
      rcases hc with h | h
      · lia
      · rcases sgn_val hk with ⟨_, e⟩ | ⟨_, e⟩ | ⟨_, e⟩ | ⟨_, e⟩ <;> rw [e] at h <;> lia
theorem flatU_chars {ks : List Nat} {w : Nat → Nat} (h : ∀ k ∈ ks, k < 4) : ∀ c ∈ flatU ks w, c ≠ 45 ∧ c ≠ 46 ∧ c < 128 := by
  intro c hc
  unfold flatU unitsN at hc
  obtain ⟨u, hu, hc⟩ := List.mem_flatten.mp hc
  obtain ⟨k, hk, rfl⟩ := List.mem_map.mp hu
  exact unit_chars (h k hk) c hc
theorem textN_eq (ks : List Nat) (w : Nat → Nat) : textN ks w = flatU ks w ++ [34, 92] := rfl
theorem text_chars {ks : List Nat} {w : Nat → Nat} (h : ∀ k ∈ ks, k < 4) : ∀ c ∈ textN ks w, c ≠ 45 ∧ c ≠ 46 ∧ c < 128 := by
  intro c hc
  rw [textN_eq] at hc
  rcases List.mem_append.mp hc with hc | hc
  · exact flatU_chars h c hc
  · simp only [List.mem_cons, List.not_mem_nil, or_false] at hc
    lia
theorem ascii_of {x : List Nat} (h : ∀ c ∈ x, c < 128) : strIterType (tx x) = "str_ascii_iterator" := by
  unfold strIterType
  rw [if_pos]
  simpa using h
theorem inter_len : ∀ (ws : List (List Nat)), (∀ p ∈ ws, p.length ≤ (inter ws).length) ∧ ws.length ≤ (inter ws).length + 1
  | [] => ⟨fun _ h => absurd h List.not_mem_nil, by simp⟩
  | [p] => ⟨fun q hq => by cases List.mem_singleton.mp hq; exact Nat.le_refl _, by simp⟩
  | p :: q :: r => by
    obtain ⟨h1, h2⟩ := inter_len (q :: r)
    have e : (inter (p :: q :: r)).length = p.length + 3 + (inter (q :: r)).length := by rw [inter]; simp; lia
    rw [e]
    refine ⟨fun y hy => ?_, ?_⟩
    · rcases List.mem_cons.mp hy with rfl | hy
      · lia
      · have := h1 y hy; lia
    · rw [List.length_cons]; lia
theorem ell_want {C : Cx} {n : Nat} (P : Pg C) {want got : List Nat} {b : Bool} (ws : List (List Nat)) (h2 : 2 ≤ ws.length) (hp : ∀ p ∈ ws, 46 ∉ p) (he : want = inter ws) (hl : want.length ≤ 900) (hg : got.length ≤ 900) (hb : ellF ws got = b) :
    FnD C (n + 1) 2 [S want, S got] (.bool b) := by
  subst he
  obtain ⟨i1, i2⟩ := inter_len ws
  rw [← hb]
  exact ellipsis_dots P (occ_one h2 hp) (split_dots h2 hp) h2 (by lia) (by lia) (by lia) fun w hw => by have := i1 w hw; lia
theorem ell_plain {C : Cx} {n : Nat} (P : Pg C) {want got : List Nat} (h : 46 ∉ want) : FnD C (n + 1) 2 [S want, S got] (.bool (want == got)) := ellipsis_plain P (occ_no h)
theorem starts_ne {x y : List Nat} (h : y.headD 0 ≠ x.headD 0) (hy : y ≠ []) : Txt.startswith (tx x) (tx y) = false := by
  cases hh : Txt.startswith (tx x) (tx y) with
  | false => rfl
  | true =>
    exfalso
    unfold Txt.startswith at hh
    rw [subAt_tx, Bool.and_eq_true] at hh
    cases y with
    | nil => exact hy rfl
    | cons a r =>
      have := matB_head hh.2
      cases x with
      | nil => cases this
      | cons b s => exact h (by simpa using this.symm)
theorem ends_ne {x y : List Nat} (h : y.getLastD 0 ≠ x.getLastD 0) (hy : y ≠ []) : Txt.endswith (tx x) (tx y) = false := by
  cases hh : Txt.endswith (tx x) (tx y) with
  | false => rfl
  | true =>
    exfalso
    have hlen := ends_len hh
    unfold Txt.endswith at hh
    rw [subAt_tx, Bool.and_eq_true, mk_length, mk_length] at hh
    have hyl : 0 < y.length := List.length_pos_iff.mpr hy
    have := matB_get hh.2 (y.length - 1) (by lia)
    rw [show x.length - y.length + (y.length - 1) = x.length - 1 by lia] at this
    refine h ?_
    rw [List.getLastD_eq_getLast?, List.getLastD_eq_getLast?, List.getLast?_eq_getElem?, List.getLast?_eq_getElem?, this]
section
variable {C : Cx} {left : List Nat} (P : Pg C) (hd : ∀ c ∈ left, c ≠ 45 ∧ c ≠ 46 ∧ c < 128) (hl : left.length ≤ 390) (h2 : 2 ≤ left.length)
include P hd hl h2
theorem pairs_true : ∀ m, ∀ p ∈ pairsT left, FnD C (m + 1) 2 [S p.1, S p.2] (.bool true) := by
  have h46 : 46 ∉ left := fun h => (hd 46 h).2.1 rfl
  have hne : left ≠ [] := by rintro rfl; simp at h2
  have hie : left.isEmpty = false := by cases left with | nil => exact absurd rfl hne | cons a r => rfl
  intro m p hp
  unfold pairsT at hp
  simp only [List.mem_cons, List.not_mem_nil, or_false] at hp
  have hnil : ∀ (got : List Nat) (i j : Nat), i ≤ j → j ≤ got.length → findF got [] i j = some i := fun got i j h1 h2 => findF_here (by simp; lia) (by unfold matB; simp)
  rcases hp with rfl | rfl | rfl | rfl
  · have := ell_plain (n := m) P (want := left) (got := left) h46
    rwa [beq_self_eq_true] at this
  · refine ell_want P [left, []] (by simp) (fun p hp => ?_) (by simp [inter]) (by simp; lia) (by simp; lia) ?_
    · simp only [List.mem_cons, List.not_mem_nil, or_false] at hp
      rcases hp with rfl | rfl
      · exact h46
      · exact List.not_mem_nil
    · unfold ellF ellTail
      rw [List.headD_cons, hie, if_neg (by decide), starts_app, if_pos rfl, List.tail_cons]
      show (if ([] : List Nat) = [] then (if (left ++ [45]).length < left.length then false else ellLoop (left ++ [45]) (left ++ [45]).length [[]] left.length) else _) = true
      rw [if_pos rfl, if_neg (by simp), ellLoop, hnil _ _ _ (by simp) (Nat.le_refl _)]
      rfl
  · refine ell_want P [[], left] (by simp) (fun p hp => ?_) (by simp [inter]) (by simp; lia) (by simp; lia) ?_
    · simp only [List.mem_cons, List.not_mem_nil, or_false] at hp
      rcases hp with rfl | rfl
      · exact List.not_mem_nil
      · exact h46
    · unfold ellF ellTail
      rw [List.headD_cons, if_pos (by rfl)]
      show (if left = [] then _ else if Txt.endswith (tx (45 :: left)) (tx left) = true then (if (45 :: left).length - left.length < 0 then false else ellLoop (45 :: left) ((45 :: left).length - left.length) [[]] 0) else false) = true
      rw [if_neg hne, show Txt.endswith (tx (45 :: left)) (tx left) = true from ends_app [45] left, if_pos rfl, if_neg (by lia), ellLoop, hnil _ _ _ (by lia) (by simp)]
      rfl
  · have he : left.take (left.length - 1) ++ left.drop (left.length - 1) = left := List.take_append_drop _ _
    refine ell_want P [left.take (left.length - 1), left.drop (left.length - 1)] (by simp) (fun p hp => ?_) (by simp [inter]) (by simp; lia) (by simp; lia) ?_
    · simp only [List.mem_cons, List.not_mem_nil, or_false] at hp
      rcases hp with rfl | rfl
      · exact fun h => h46 (List.mem_of_mem_take h)
      · exact fun h => h46 (List.mem_of_mem_drop h)
    · have hi : (left.take (left.length - 1)).isEmpty = false := by
        have : (left.take (left.length - 1)).length = left.length - 1 := by simp
        cases hh : left.take (left.length - 1) with
        | nil => rw [hh] at this; simp at this; lia
        | cons a r => rfl
      have hdn : left.drop (left.length - 1) ≠ [] := by
        intro h
        have := congrArg List.length h
        simp at this; lia
      have s1 : Txt.startswith (tx left) (tx (left.take (left.length - 1))) = true := by
        have := starts_app (left.take (left.length - 1)) (left.drop (left.length - 1))
        rwa [he] at this
      have s2 : Txt.endswith (tx left) (tx (left.drop (left.length - 1))) = true := by
        have := ends_app (left.take (left.length - 1)) (left.drop (left.length - 1))
        rwa [he] at this
      unfold ellF ellTail
      rw [List.headD_cons, hi, if_neg (by decide)]
      show (if Txt.startswith (tx left) (tx (left.take (left.length - 1))) = true then (if left.drop (left.length - 1) = [] then _ else if Txt.endswith (tx left) (tx (left.drop (left.length - 1))) = true then (if left.length - (left.drop (left.length - 1)).length < (left.take (left.length - 1)).length then false else ellLoop left _ [] _) else false) else false) = true
      rw [s1, if_pos rfl, if_neg hdn, s2, if_pos rfl, if_neg (by simp; lia)]
      rfl
theorem pairs_false : (hz : left.getLastD 0 ≠ 45) → (hh : left.headD 0 ≠ 45) → ∀ m, ∀ p ∈ pairsN left, FnD C (m + 1) 2 [S p.1, S p.2] (.bool false) := by
  intro hz hh
  have h46 : 46 ∉ left := fun h => (hd 46 h).2.1 rfl
  have hne : left ≠ [] := by rintro rfl; simp at h2
  have hie : left.isEmpty = false := by cases left with | nil => exact absurd rfl hne | cons a r => rfl
  intro m p hp
  unfold pairsN at hp
  simp only [List.mem_cons, List.not_mem_nil, or_false] at hp
  rcases hp with rfl | rfl | rfl | rfl | rfl
  · refine ell_want P [left, []] (by simp) (fun p hp => ?_) (by simp [inter]) (by simp; lia) (by simp; lia) ?_
    · simp only [List.mem_cons, List.not_mem_nil, or_false] at hp
      rcases hp with rfl | rfl
      · exact h46
      · exact List.not_mem_nil
    · unfold ellF
      rw [List.headD_cons, hie, if_neg (by decide), starts_ne hh hne]
      rfl
  · refine ell_want P [[], left] (by simp) (fun p hp => ?_) (by simp [inter]) (by simp; lia) (by simp; lia) ?_
    · simp only [List.mem_cons, List.not_mem_nil, or_false] at hp
      rcases hp with rfl | rfl
      · exact List.not_mem_nil
      · exact h46
    · unfold ellF ellTail
      rw [List.headD_cons, if_pos (by rfl)]
      show (if left = [] then _ else if Txt.endswith (tx (left ++ [45])) (tx left) = true then _ else false) = false
      rw [if_neg hne, ends_ne (by simpa using hz) hne]
      rfl
  · have he : left.take (left.length - 1) ++ left.drop (left.length - 1) = left := List.take_append_drop _ _
    refine ell_want P [left, left.drop (left.length - 1)] (by simp) (fun p hp => ?_) (by simp [inter]) (by simp; lia) (by simp; lia) ?_
    · simp only [List.mem_cons, List.not_mem_nil, or_false] at hp
      rcases hp with rfl | rfl
      · exact h46
      · exact fun h => h46 (List.mem_of_mem_drop h)
    · have hdn : left.drop (left.length - 1) ≠ [] := by
        intro h
        have := congrArg List.length h
        simp at this; lia
      have s1 : Txt.startswith (tx left) (tx left) = true := by
        have := starts_app left []
        rwa [List.append_nil] at this
      have s2 : Txt.endswith (tx left) (tx (left.drop (left.length - 1))) = true := by
        have := ends_app (left.take (left.length - 1)) (left.drop (left.length - 1))
        rwa [he] at this
      unfold ellF ellTail
      rw [List.headD_cons, hie, if_neg (by decide)]
      show (if Txt.startswith (tx left) (tx left) = true then (if left.drop (left.length - 1) = [] then _ else if Txt.endswith (tx left) (tx (left.drop (left.length - 1))) = true then (if left.length - (left.drop (left.length - 1)).length < left.length then false else ellLoop left _ [] _) else false) else false) = false
      rw [s1, if_pos rfl, if_neg hdn, s2, if_pos rfl, if_pos (by simp; lia)]
  · have := ell_plain (n := m) P (want := left) (got := left ++ [45]) h46
    have e : (left == left ++ [45]) = false := by
      rw [beq_eq_false_iff_ne]
      intro h
      have := congrArg List.length h
      simp at this
    rwa [e] at this
  · have := ell_plain (n := m) P (want := left) (got := 45 :: left) h46
    have e : (left == 45 :: left) = false := by
      rw [beq_eq_false_iff_ne]
      intro h
      have := congrArg List.length h
      simp at this
    rwa [e] at this
end
end

-- text Q1
section


/-! rings, as functions of places -/
theorem ringStep_get {ring : List Int} {p q : Int} {s : Nat} (hs : s < ring.length) :
    (ringStep ring p q).getD s 0 = if ring.getD s 0 = ring.getD (pyI ring.length p) 0 then ring.getD (pyI ring.length q) 0 else ring.getD s 0 := by
  unfold ringStep
  rw [List.getD_eq_getElem?_getD (l := List.map _ _), List.getElem?_map, List.getElem?_eq_getElem hs, List.getD_eq_getElem?_getD (i := s), List.getElem?_eq_getElem hs]
  rfl
def JOk (N : Nat) (js : List (Int × Int)) : Prop := ∀ x ∈ js, pyI N x.1 < N ∧ pyI N x.2 < N
theorem ringK_cons (ring : List Int) (x : Int × Int) (js : List (Int × Int)) : ringK ring (x :: js) = ringK (ringStep ring x.1 x.2) js := rfl
theorem ringK_resp {N : Nat} {c : Nat → Bool} : ∀ (js : List (Int × Int)) (ring : List Int), ring.length = N → JOk N js → (∀ x ∈ js, c (pyI N x.1) = c (pyI N x.2)) →
    (∀ s < N, c (ring.getD s 0).toNat = c s) → ∀ s < N, c ((ringK ring js).getD s 0).toNat = c s
  | [], ring, hl, hj, hc, h => h
  | x :: js, ring, hl, hj, hc, h => by
    rw [ringK_cons]
    refine ringK_resp js _ ((ringStep_length ..).trans hl) (fun y hy => hj y (.tail _ hy)) (fun y hy => hc y (.tail _ hy)) fun s hs => ?_
    rw [ringStep_get (by lia), hl]
    split
    · rename_i he
      rw [h _ (hj x (.head _)).2, ← hc x (.head _), ← h _ (hj x (.head _)).1, ← he, h s hs]
    · exact h s hs
theorem ringK_mem {N : Nat} {M : Int → Prop} : ∀ (js : List (Int × Int)) (ring : List Int), ring.length = N → JOk N js → (∀ s < N, M (ring.getD s 0)) → ∀ s < N, M ((ringK ring js).getD s 0)
  | [], ring, hl, hj, h => h
  | x :: js, ring, hl, hj, h => by
    rw [ringK_cons]
    refine ringK_mem js _ ((ringStep_length ..).trans hl) (fun y hy => hj y (.tail _ hy)) fun s hs => ?_
    rw [ringStep_get (by lia), hl]
    split
    · exact h _ (hj x (.head _)).2
    · exact h s hs
theorem ringK_eq {N : Nat} : ∀ (js : List (Int × Int)) (ring : List Int), ring.length = N → ∀ s < N, ∀ t < N, ring.getD s 0 = ring.getD t 0 → (ringK ring js).getD s 0 = (ringK ring js).getD t 0
  | [], ring, hl, s, hs, t, ht, h => h
  | x :: js, ring, hl, s, hs, t, ht, h => by
    rw [ringK_cons]
    refine ringK_eq js _ ((ringStep_length ..).trans hl) s hs t ht ?_
    rw [ringStep_get (by lia), ringStep_get (by lia), h]
theorem ringK_join {N : Nat} : ∀ (js : List (Int × Int)) (ring : List Int), ring.length = N → JOk N js → ∀ x ∈ js, (ringK ring js).getD (pyI N x.1) 0 = (ringK ring js).getD (pyI N x.2) 0
  | [], ring, hl, hj, x, hx => by cases hx
  | y :: js, ring, hl, hj, x, hx => by
    rw [ringK_cons]
    have hj' : JOk N js := fun z hz => hj z (.tail _ hz)
    rcases List.mem_cons.mp hx with rfl | hx
    · obtain ⟨h1, h2⟩ := hj x (.head _)
      refine ringK_eq js _ ((ringStep_length ..).trans hl) _ h1 _ h2 ?_
      rw [ringStep_get (by lia), ringStep_get (by lia), hl, if_pos rfl]
      split <;> rfl
    · exact ringK_join js _ ((ringStep_length ..).trans hl) hj' x hx
def allJ (ways : Int → Int) (I J : Int → Nat) (live : List Int) : List (Int × Int) := live.flatMap fun k => joinsF (ways k) (I k) (J k)
theorem ringsN_eq (ways : Int → Int) (I J : Int → Nat) : ∀ (live ring : List Int), ringsN ways I J live ring = ringK ring (allJ ways I J live)
  | [], ring => rfl
  | k :: r, ring => by
    have h : ringsN ways I J (k :: r) ring = ringsN ways I J r (ringK ring (joinsF (ways k) (I k) (J k))) := rfl
    rw [h, ringsN_eq]
    unfold ringK allJ
    rw [List.flatMap_cons, List.foldl_append]
theorem arcs_get {N s : Nat} (h : s < N) : (arcs N).getD s 0 = (s : Int) := by
  unfold arcs
  simp [List.getD_eq_getElem?_getD, h]
theorem arcs_mem {N : Nat} {r : Int} : r ∈ arcs N ↔ ∃ s < N, r = (s : Int) := by
  unfold arcs
  simp only [List.mem_map, List.mem_range]
  constructor
  · rintro ⟨s, h, rfl⟩; exact ⟨s, h, rfl⟩
  · rintro ⟨s, h, rfl⟩; exact ⟨s, h, rfl⟩
theorem arcs_length (N : Nat) : (arcs N).length = N := by simp [arcs]
/-- what comes ahead of a pass -/
def prevI (N i : Nat) : Nat := if i = 0 then N - 1 else i - 1
theorem pyI_nat {N i : Nat} (h : i < N) : pyI N (i : Int) = i := by unfold pyI; rw [sidx_nat h]; rfl
theorem pyI_prev {N i : Nat} (h : i < N) : pyI N ((i : Int) - 1) = prevI N i := by
  unfold prevI
  split
  · rename_i h0
    subst h0
    unfold pyI
    rw [sidx_neg (by lia) (by lia)]
    show (((0 : Nat) : Int) - 1 + N).toNat = N - 1
    lia
  · rw [show (i : Int) - 1 = ((i - 1 : Nat) : Int) by lia, pyI_nat (by lia)]
theorem prevI_lt {N i : Nat} (h : i < N) : prevI N i < N := by unfold prevI; split <;> lia
/-- a number by its bits -/
theorem ofBits (f : Nat → Bool) : ∀ n, ∃ x < 2 ^ n, ∀ i < n, Nat.testBit x i = f i
  | 0 => ⟨0, by simp, fun i hi => by lia⟩
  | n + 1 => by
    obtain ⟨x, hx, h⟩ := ofBits f n
    refine ⟨2 ^ n * (f n).toNat + x, ?_, fun i hi => ?_⟩
    · rw [Nat.pow_succ]
      cases f n <;> simp <;> lia
    · rw [Nat.testBit_two_pow_mul_add _ hx]
      by_cases h' : i < n
      · rw [if_pos h', h i h']
      · have : i = n := by lia
        subst this
        rw [if_neg h', Nat.sub_self]
        cases f i <;> rfl
theorem mod_succ (t n : Nat) : t % 2 ^ (n + 1) = t % 2 ^ n + if t.testBit n then 2 ^ n else 0 := by
  rw [Nat.pow_succ, Nat.mod_mul, Nat.testBit_eq_decide_div_mod_eq]
  have := Nat.mod_lt (t / 2 ^ n) (by decide : 2 > 0)
  by_cases h : t / 2 ^ n % 2 = 1
  · simp [h]
  · have h0 : t / 2 ^ n % 2 = 0 := by lia
    simp [h0]
theorem choiceN_eq {I : Int → Nat} {shade live : List Int} {t : Nat} : ∀ n, (∀ m < n, (shade.getD (pyI shade.length ((I (live.getD m 0) : Int) - 1)) 0 != shade.getD (I (live.getD m 0)) 0) = t.testBit m) → choiceN I shade live n = ((t % 2 ^ n : Nat) : Int)
  | 0, _ => by simp [choiceN, Nat.mod_one]
  | n + 1, h => by
    have := h n (by lia)
    rw [choiceN, choiceN_eq n (fun m hm => h m (by lia)), mod_succ, ← this]
    by_cases he : shade.getD (pyI shade.length ((I (live.getD n 0) : Int) - 1)) 0 = shade.getD (I (live.getD n 0)) 0
    · have h2 : (shade.getD (pyI shade.length ((I (live.getD n 0) : Int) - 1)) 0 != shade.getD (I (live.getD n 0)) 0) = false := by simpa using he
      rw [if_pos he, h2]; simp
    · have h2 : (shade.getD (pyI shade.length ((I (live.getD n 0) : Int) - 1)) 0 != shade.getD (I (live.getD n 0)) 0) = true := by simpa using he
      rw [if_neg he, h2]; norm_cast
/-- the shade of one label -/
theorem shadeV_eq (names : List Int) (lot : Nat) (r : Int) : shadeV names lot r = if names.idxOf r = 0 then 0 else if lot.testBit (names.idxOf r - 1) then 1 else 0 := by
  unfold shadeV
  generalize names.idxOf r = i
  have e : (2 * (lot : Int)).fdiv (2 ^ i) = ((2 * lot / 2 ^ i : Nat) : Int) := by
    rw [Int.fdiv_eq_ediv_of_nonneg _ (by exact Int.le_of_lt (Int.pow_pos (by decide)))]
    norm_cast
  rw [e]
  have e2 : ((2 * lot / 2 ^ i : Nat) : Int) % 2 = ((2 * lot / 2 ^ i % 2 : Nat) : Int) := by norm_cast
  rw [e2]
  split
  · rename_i h; subst h; simp
  · rename_i h
    obtain ⟨j, rfl⟩ : ∃ j, i = j + 1 := ⟨i - 1, by lia⟩
    rw [Nat.add_sub_cancel, Nat.testBit_eq_decide_div_mod_eq, Nat.pow_succ, Nat.mul_comm (2 ^ j), Nat.mul_div_mul_left _ _ (by decide)]
    have := Nat.mod_lt (lot / 2 ^ j) (by decide : 2 > 0)
    by_cases h : lot / 2 ^ j % 2 = 1
    · simp [h]
    · have h0 : lot / 2 ^ j % 2 = 0 := by lia
      simp [h0]
end

-- text Q2
section


/-! which choices are quiet: those whose colours respect the joins -/
theorem getD_mem {l : List Nat} {n : Nat} (h : n < l.length) : l.getD n 0 ∈ l := by
  rw [List.getD_eq_getElem?_getD, List.getElem?_eq_getElem h]; exact List.getElem_mem _
theorem map_range_getD {α : Type} (l : List Nat) (g : Nat → α) : l.map g = (List.range l.length).map fun n => g (l.getD n 0) := by
  refine List.ext_getElem (by simp) fun i h1 h2 => ?_
  have h : i < l.length := by simpa using h1
  simp [h]
theorem sum_pick {live : List Nat} (g : Nat → Nat) {a : Nat} (hn : live.Nodup) (ha : a ∈ live) : (live.map fun k => if a = k then g k else 0).sum = g a := by
  induction live with
  | nil => cases ha
  | cons b r ih =>
    rw [List.nodup_cons] at hn
    simp only [List.map_cons, List.sum_cons]
    rcases List.mem_cons.mp ha with rfl | ha'
    · have : (r.map fun k => if a = k then g k else 0) = r.map fun _ => 0 := List.map_congr_left fun k hk => if_neg (fun (h : a = k) => hn.1 (h ▸ hk))
      rw [this, sum_zero, if_pos rfl]; lia
    · rw [if_neg (fun (h : a = b) => hn.1 (h ▸ ha')), ih hn.2 ha']; lia
theorem countP_sum {live : List Nat} (hn : live.Nodup) (f : Nat → Bool) (xs : List Nat) (h : ∀ k ∈ xs, k ∈ live) : xs.countP f = (live.map fun k => if f k = true then xs.count k else 0).sum := by
  induction xs with
  | nil =>
    have : (live.map fun k => if f k = true then List.count k [] else 0) = live.map fun _ => 0 := List.map_congr_left fun k _ => by simp
    rw [this, sum_zero]; rfl
  | cons a r ih =>
    have e : (live.map fun k => if f k = true then List.count k (a :: r) else 0) = live.map fun k => (if f k = true then List.count k r else 0) + (if a = k then (if f k = true then 1 else 0) else 0) := List.map_congr_left fun k _ => by
      rw [List.count_cons]
      by_cases h1 : a = k
      · subst h1; simp; split <;> rfl
      · simp [h1]
    rw [e, sum_add (fun k => if f k = true then List.count k r else 0) (fun k => if a = k then (if f k = true then 1 else 0) else 0), sum_pick (fun k => if f k = true then 1 else 0) hn (h a (.head _)), ← ih fun k hk => h k (.tail _ hk), List.countP_cons]
theorem sum_mod {live : List Nat} {f g : Nat → Nat} (h : ∀ q ∈ live, f q % 2 = g q % 2) : (live.map f).sum % 2 = (live.map g).sum % 2 := by
  induction live with
  | nil => rfl
  | cons a r ih =>
    have h1 := h a (.head _)
    have h2 := ih fun q hq => h q (.tail _ hq)
    simp only [List.map_cons, List.sum_cons]
    lia
def btw (cut : List Nat) (i j : Nat) : List Nat := (cut.drop (i + 1)).take (j - (i + 1))
theorem toI_get? {l : List Nat} {i k : Nat} (h : (toI l)[i]? = some (k : Int)) : l[i]? = some k := by
  unfold toI at h
  rw [List.getElem?_map] at h
  obtain ⟨a, h1, h2⟩ := Option.map_eq_some_iff.mp h
  rw [h1]
  have : (a : Int) = k := h2
  rw [show a = k by lia]
theorem toI_length (l : List Nat) : (toI l).length = l.length := by simp [toI]
structure TwN (cut : List Nat) (k i j : Nat) : Prop where
  ij : i < j
  jn : j < cut.length
  ei : cut[i]? = some k
  ej : cut[j]? = some k
  no : ∀ t, t ≠ i → t ≠ j → cut[t]? ≠ some k
theorem Twice.nat {cut : List Nat} {k i j : Nat} (T : Twice (toI cut) k i j) : TwN cut k i j :=
  ⟨T.ij, by have := T.jn; rwa [toI_length] at this, toI_get? T.ei, toI_get? T.ej, fun t h1 h2 h => T.no t h1 h2 (by unfold toI; rw [List.getElem?_map, h]; rfl)⟩
theorem TwN.take_i {cut : List Nat} {k i j : Nat} (T : TwN cut k i j) : cut.take (i + 1) = cut.take i ++ [k] := by rw [List.take_add_one, T.ei]; rfl
theorem TwN.take_j {cut : List Nat} {k i j : Nat} (T : TwN cut k i j) : cut.take j = cut.take (i + 1) ++ btw cut i j := by
  have := T.ij
  unfold btw
  rw [← List.take_add, show i + 1 + (j - (i + 1)) = j by lia]
theorem TwN.take_j1 {cut : List Nat} {k i j : Nat} (T : TwN cut k i j) : cut.take (j + 1) = cut.take j ++ [k] := by rw [List.take_add_one, T.ej]; rfl
theorem TwN.btw_no {cut : List Nat} {k i j : Nat} (T : TwN cut k i j) : (btw cut i j).count k = 0 := by
  refine List.count_eq_zero.mpr fun h => ?_
  obtain ⟨n, hn⟩ := List.mem_iff_getElem?.mp h
  unfold btw at hn
  rw [List.getElem?_take] at hn
  split at hn
  · rw [List.getElem?_drop] at hn
    exact T.no _ (by lia) (by lia) hn
  · cases hn
theorem btw_sub (cut : List Nat) (i j : Nat) : (btw cut i j).Sublist cut := (List.take_sublist _ _).trans (List.drop_sublist _ _)
/-- the colour behind a pass -/
def colF (cut : List Nat) (f : Nat → Bool) (p : Nat) : Bool := (cut.take (p + 1)).countP f % 2 == 1
theorem colF_prev {cut : List Nat} {f : Nat → Bool} {i : Nat} (he : cut.countP f % 2 = 0) (hi : i < cut.length) : colF cut f (prevI cut.length i) = ((cut.take i).countP f % 2 == 1) := by
  unfold colF prevI
  split
  · rename_i h
    subst h
    rw [show cut.length - 1 + 1 = cut.length by lia, List.take_length, he]
    rfl
  · rw [show i - 1 + 1 = i by lia]
theorem par_eq (a b : Nat) : ((a % 2 == 1) = (b % 2 == 1)) ↔ (a + b) % 2 = 0 := by
  rcases Nat.mod_two_eq_zero_or_one a with h | h <;> rcases Nat.mod_two_eq_zero_or_one b with h' | h' <;> rw [h, h'] <;> simp <;> lia
def nB (b : Bool) : Nat := if b = true then 1 else 0
theorem resp_one {cut : List Nat} {f : Nat → Bool} {k i j : Nat} {v : Nat} (T : TwN cut k i j) (he : cut.countP f % 2 = 0) :
    (∀ x ∈ joinsF (v : Int) i j, colF cut f (pyI cut.length x.1) = colF cut f (pyI cut.length x.2)) ↔ (nB (v == 2 && f k) + (btw cut i j).countP f) % 2 = 0 := by
  have hij := T.ij
  have hj := T.jn
  have hk : [k].countP f = nB (f k) := by unfold nB; cases h : f k <;> simp [h]
  have a1 : colF cut f (prevI cut.length i) = ((cut.take i).countP f % 2 == 1) := colF_prev he (by lia)
  have a2 : colF cut f i = (((cut.take i).countP f + nB (f k)) % 2 == 1) := by unfold colF; rw [T.take_i, List.countP_append, hk]
  have a3 : colF cut f (prevI cut.length j) = (((cut.take i).countP f + nB (f k) + (btw cut i j).countP f) % 2 == 1) := by
    rw [colF_prev he hj, T.take_j, T.take_i, List.countP_append, List.countP_append, hk]
  have a4 : colF cut f j = (((cut.take i).countP f + nB (f k) + (btw cut i j).countP f + nB (f k)) % 2 == 1) := by
    unfold colF; rw [T.take_j1, T.take_j, T.take_i, List.countP_append, List.countP_append, List.countP_append, hk]
  generalize (cut.take i).countP f = A at *
  generalize (btw cut i j).countP f = B at *
  have hb : nB (f k) ≤ 1 := by unfold nB; split <;> lia
  unfold joinsF
  by_cases hv : v = 2
  · subst hv
    rw [if_pos (by rfl)]
    simp only [List.forall_mem_cons, List.not_mem_nil, false_implies, implies_true, and_true]
    rw [pyI_prev (i := i) (by lia), pyI_prev hj, pyI_nat (i := i) (by lia), pyI_nat hj, a1, a2, a3, a4, par_eq, par_eq]
    simp only [beq_self_eq_true, Bool.true_and]
    lia
  · have hv2 : (v == 2) = false := by simpa using hv
    rw [if_neg (by lia), hv2]
    simp only [List.forall_mem_cons, List.not_mem_nil, false_implies, implies_true, and_true]
    rw [pyI_prev (i := i) (by lia), pyI_prev hj, pyI_nat (i := i) (by lia), pyI_nat hj, a1, a2, a3, a4, par_eq, par_eq]
    have : nB (false && f k) = 0 := rfl
    rw [this]
    lia
/-- the row of a mask, as a count over the points -/
theorem row_par {cut live : List Nat} {f : Nat → Bool} {k i j v : Nat} {b : Nat → Bool} (hn : live.Nodup) (hk : k ∈ live) (hs : ∀ q ∈ cut, q ∈ live) (hc : ∀ q ∈ live, cut.count q = 2) (T : TwN cut k i j)
    (hb : ∀ q ∈ live, b q = if q = k then v == 2 else (btw cut i j).count q == 1) :
    live.countP (fun q => b q && f q) % 2 = (nB (v == 2 && f k) + (btw cut i j).countP f) % 2 := by
  have hsub := btw_sub cut i j
  rw [countP_sum hn f (btw cut i j) fun q hq => hs q (hsub.subset hq), ← sum_ite, ← sum_pick (fun k => nB (v == 2 && f k)) hn hk, ← sum_add (fun q => if k = q then nB (v == 2 && f q) else 0)]
  refine sum_mod fun q hq => ?_
  rw [hb q hq]
  by_cases h : q = k
  · subst h
    rw [if_pos rfl, if_pos rfl, T.btw_no]
    unfold nB
    split <;> simp
  · have h2 : (btw cut i j).count q ≤ 2 := Nat.le_trans (hsub.count_le q) (by rw [hc q hq]; exact Nat.le_refl 2)
    rw [if_neg h, if_neg (Ne.symm h), Nat.zero_add]
    by_cases hf : f q = true
    · rw [hf]
      simp only [Bool.and_true, if_true]
      have : (btw cut i j).count q = 0 ∨ (btw cut i j).count q = 1 ∨ (btw cut i j).count q = 2 := by lia
      rcases this with h | h | h <;> rw [h] <;> rfl
    · simp [hf]
theorem cut_even {cut live : List Nat} {f : Nat → Bool} (hn : live.Nodup) (hs : ∀ q ∈ cut, q ∈ live) (hc : ∀ q ∈ live, cut.count q = 2) : cut.countP f % 2 = 0 := by
  rw [countP_sum hn f cut hs]
  refine (sum_mod (g := fun _ => 0) fun q hq => ?_).trans (by rw [sum_zero])
  rw [hc q hq]
  split <;> rfl
end

-- text Q3
section


/-! the choices that are found are those that respect the joins -/
structure Cv (cut live : List Nat) (I J : Nat → Nat) : Prop where
  nd : live.Nodup
  sub : ∀ q ∈ cut, q ∈ live
  two : ∀ q ∈ live, cut.count q = 2
  tw : ∀ k ∈ live, TwN cut k (I k) (J k)
def jsN (live : List Nat) (w I J : Nat → Nat) : List (Int × Int) := live.flatMap fun k => joinsF (w k : Int) (I k) (J k)
theorem allJ_nat (live : List Nat) (w I J : Nat → Nat) : allJ (fun z => (w z.toNat : Int)) (fun z => I z.toNat) (fun z => J z.toNat) (toI live) = jsN live w I J := by
  induction live with
  | nil => rfl
  | cons k r ih =>
    have h : toI (k :: r) = (k : Int) :: toI r := rfl
    unfold allJ jsN at ih ⊢
    rw [h, List.flatMap_cons, List.flatMap_cons, ih]
    rfl
theorem joinsF_ok {N v i j : Nat} (hi : i < N) (hj : j < N) : JOk N (joinsF (v : Int) i j) := by
  intro x hx
  have a1 := prevI_lt hi
  have a2 := prevI_lt hj
  unfold joinsF at hx
  split at hx
  · simp only [List.mem_cons, List.not_mem_nil, or_false] at hx
    rcases hx with rfl | rfl
    · exact ⟨by rw [pyI_prev hi]; exact a1, by rw [pyI_prev hj]; exact a2⟩
    · exact ⟨by rw [pyI_nat hi]; exact hi, by rw [pyI_nat hj]; exact hj⟩
  · simp only [List.mem_cons, List.not_mem_nil, or_false] at hx
    rcases hx with rfl | rfl
    · exact ⟨by rw [pyI_prev hi]; exact a1, by rw [pyI_nat hj]; exact hj⟩
    · exact ⟨by rw [pyI_prev hj]; exact a2, by rw [pyI_nat hi]; exact hi⟩
section
variable {cut live : List Nat} {w I J : Nat → Nat}
theorem Cv.ok (V : Cv cut live I J) : JOk cut.length (jsN live w I J) := by
  intro x hx
  unfold jsN at hx
  obtain ⟨k, hk, hx⟩ := List.mem_flatMap.mp hx
  have T := V.tw k hk
  exact joinsF_ok (by have := T.ij; have := T.jn; lia) T.jn x hx
/-- the ring's label at a place -/
def gR (cut live : List Nat) (w I J : Nat → Nat) (s : Nat) : Int := (ringK (arcs cut.length) (jsN live w I J)).getD s 0
theorem gR_resp (V : Cv cut live I J) {c : Nat → Bool} (hc : ∀ x ∈ jsN live w I J, c (pyI cut.length x.1) = c (pyI cut.length x.2)) : ∀ s < cut.length, c (gR cut live w I J s).toNat = c s :=
  ringK_resp _ _ (arcs_length _) V.ok hc fun s hs => by rw [arcs_get hs, Int.toNat_natCast]
theorem gR_mem (V : Cv cut live I J) : ∀ s < cut.length, gR cut live w I J s ∈ arcs cut.length :=
  ringK_mem (M := fun r => r ∈ arcs cut.length) _ _ (arcs_length _) V.ok fun s hs => by rw [arcs_get hs]; exact arcs_mem.mpr ⟨s, hs, rfl⟩
theorem gR_join (V : Cv cut live I J) : ∀ x ∈ jsN live w I J, gR cut live w I J (pyI cut.length x.1) = gR cut live w I J (pyI cut.length x.2) := ringK_join _ _ (arcs_length _) V.ok
abbrev rgN (cut live : List Nat) (w I J : Nat → Nat) : List Int := ringK (arcs cut.length) (jsN live w I J)
abbrev nmN (cut live : List Nat) (w I J : Nat → Nat) : List Int := namesF cut.length (rgN cut live w I J)
theorem rgN_length : (rgN cut live w I J).length = cut.length := (ringK_length _ _).trans (arcs_length _)
theorem nmN_nodup : (nmN cut live w I J).Nodup := by
  refine List.Pairwise.filter _ ?_
  unfold arcs
  refine List.pairwise_map.mpr (List.nodup_range.imp fun h h2 => h (Int.ofNat.inj h2))
theorem nmN_mem (V : Cv cut live I J) {r : Int} : r ∈ nmN cut live w I J ↔ ∃ s < cut.length, gR cut live w I J s = r := by
  unfold nmN namesF
  rw [List.mem_filter, List.any_eq_true]
  constructor
  · rintro ⟨_, x, hx, he⟩
    obtain ⟨s, hs, h⟩ := List.mem_iff_getElem.mp hx
    have hs' : s < cut.length := by rw [rgN_length] at hs; exact hs
    refine ⟨s, hs', ?_⟩
    unfold gR
    rw [List.getD_eq_getElem?_getD, List.getElem?_eq_getElem hs, Option.getD_some, h]
    simpa using he
  · rintro ⟨s, hs, rfl⟩
    refine ⟨gR_mem V s hs, gR cut live w I J s, ?_, by simp⟩
    have hs' : s < (rgN cut live w I J).length := by rw [rgN_length]; exact hs
    unfold gR
    rw [List.getD_eq_getElem?_getD, List.getElem?_eq_getElem hs', Option.getD_some]
    exact List.getElem_mem _
/-- the shade of a place, as a bit -/
def shB (cut live : List Nat) (w I J : Nat → Nat) (lot s : Nat) : Bool :=
  !((nmN cut live w I J).idxOf (gR cut live w I J s) == 0) && lot.testBit ((nmN cut live w I J).idxOf (gR cut live w I J s) - 1)
theorem shade_get {lot s : Nat} (hs : s < cut.length) : (shadeF (nmN cut live w I J) (rgN cut live w I J) lot).getD s 0 = if shB cut live w I J lot s = true then 1 else 0 := by
  have hs' : s < (rgN cut live w I J).length := by rw [rgN_length]; exact hs
  have e : gR cut live w I J s = (rgN cut live w I J)[s] := by
    unfold gR
    rw [List.getD_eq_getElem?_getD, List.getElem?_eq_getElem hs', Option.getD_some]
  unfold shadeF
  rw [List.getD_eq_getElem?_getD, List.getElem?_map, List.getElem?_eq_getElem hs', Option.map_some, Option.getD_some, shadeV_eq, ← e]
  unfold shB
  generalize (nmN cut live w I J).idxOf (gR cut live w I J s) = i
  by_cases h : i = 0
  · simp [h]
  · have h2 : (i == 0) = false := by simpa using h
    rw [if_neg h, h2]; rfl
theorem shade_ne {lot a b : Nat} (ha : a < cut.length) (hb : b < cut.length) :
    ((shadeF (nmN cut live w I J) (rgN cut live w I J) lot).getD a 0 != (shadeF (nmN cut live w I J) (rgN cut live w I J) lot).getD b 0) = (shB cut live w I J lot a ^^ shB cut live w I J lot b) := by
  rw [shade_get ha, shade_get hb]
  cases shB cut live w I J lot a <;> cases shB cut live w I J lot b <;> rfl
def chI (cut live : List Nat) (w I J : Nat → Nat) (lot : Nat) : Int := choiceN (fun z => I z.toNat) (shadeF (nmN cut live w I J) (rgN cut live w I J) lot) (toI live) live.length
theorem foundF_nat : foundF (toI cut) (toI live) (fun z => (w z.toNat : Int)) (fun z => I z.toNat) (fun z => J z.toNat) = (List.range (2 ^ ((nmN cut live w I J).length - 1))).map (chI cut live w I J) := by
  unfold foundF
  dsimp only
  rw [ringsN_eq, allJ_nat, toI_length, toI_length]
  rfl
theorem toI_getD (l : List Nat) (m : Nat) : (toI l).getD m 0 = ((l.getD m 0 : Nat) : Int) := by
  unfold toI
  rw [List.getD_eq_getElem?_getD, List.getElem?_map, List.getD_eq_getElem?_getD]
  cases l[m]? <;> rfl
theorem choice_of (V : Cv cut live I J) {lot t : Nat} (ht : t < 2 ^ live.length) (h : ∀ m < live.length, (shB cut live w I J lot (prevI cut.length (I (live.getD m 0))) ^^ shB cut live w I J lot (I (live.getD m 0))) = t.testBit m) :
    chI cut live w I J lot = (t : Int) := by
  unfold chI
  rw [choiceN_eq (t := t) live.length, Nat.mod_eq_of_lt ht]
  intro m hm
  have T := V.tw _ (getD_mem hm)
  have hlt : I (live.getD m 0) < cut.length := by have := T.ij; have := T.jn; lia
  have hl : (shadeF (nmN cut live w I J) (rgN cut live w I J) lot).length = cut.length := by unfold shadeF; rw [List.length_map, rgN_length]
  rw [toI_getD, Int.toNat_natCast, hl, pyI_prev hlt, shade_ne (prevI_lt hlt) hlt, h m hm]
theorem choice_ex (V : Cv cut live I J) (lot : Nat) : ∃ t : Nat, t < 2 ^ live.length ∧ chI cut live w I J lot = (t : Int) ∧ ∀ m < live.length, (shB cut live w I J lot (prevI cut.length (I (live.getD m 0))) ^^ shB cut live w I J lot (I (live.getD m 0))) = t.testBit m := by
  obtain ⟨t, ht, h⟩ := ofBits (fun m => shB cut live w I J lot (prevI cut.length (I (live.getD m 0))) ^^ shB cut live w I J lot (I (live.getD m 0))) live.length
  exact ⟨t, ht, choice_of V ht fun m hm => (h m hm).symm, fun m hm => (h m hm).symm⟩
/-- a choice's bit at a point -/
def tbF (live : List Nat) (t q : Nat) : Bool := t.testBit (live.idxOf q)
theorem getD_idxOf {q : Nat} (h : q ∈ live) : live.getD (live.idxOf q) 0 = q := by
  have hlt := List.idxOf_lt_length_iff.mpr h
  rw [List.getD_eq_getElem?_getD, List.getElem?_eq_getElem hlt, Option.getD_some, List.getElem_idxOf]
theorem nB_le (b : Bool) : nB b ≤ 1 := by unfold nB; split <;> lia
theorem col_step (V : Cv cut live I J) {f : Nat → Bool} {i k : Nat} (hi : cut[i]? = some k) : (colF cut f (prevI cut.length i) ^^ colF cut f i) = f k := by
  have hlt := (List.getElem?_eq_some_iff.mp hi).1
  have hk : [k].countP f = nB (f k) := by unfold nB; cases h : f k <;> simp [h]
  rw [colF_prev (cut_even V.nd V.sub V.two) hlt]
  unfold colF
  rw [List.take_add_one, hi, Option.toList_some, List.countP_append, hk]
  generalize (cut.take i).countP f = A
  rcases Nat.mod_two_eq_zero_or_one A with h | h
  · cases f k
    · simp [nB, h]
    · simp [nB, Nat.add_mod, h]
  · cases f k
    · simp [nB, h]
    · simp [nB, Nat.add_mod, h]
theorem found_of_quiet (V : Cv cut live I J) {t : Nat} (ht : t < 2 ^ live.length)
    (hq : ∀ x ∈ jsN live w I J, colF cut (tbF live t) (pyI cut.length x.1) = colF cut (tbF live t) (pyI cut.length x.2)) :
    ∃ lot < 2 ^ ((nmN cut live w I J).length - 1), chI cut live w I J lot = (t : Int) := by
  obtain ⟨lot, hlot, hb⟩ := ofBits (fun b => colF cut (tbF live t) ((nmN cut live w I J).getD (b + 1) 0).toNat ^^ colF cut (tbF live t) ((nmN cut live w I J).getD 0 0).toNat) ((nmN cut live w I J).length - 1)
  refine ⟨lot, hlot, choice_of V ht fun m hm => ?_⟩
  have key : ∀ s < cut.length, shB cut live w I J lot s = (colF cut (tbF live t) s ^^ colF cut (tbF live t) ((nmN cut live w I J).getD 0 0).toNat) := by
    intro s hs
    have hg : gR cut live w I J s ∈ nmN cut live w I J := (nmN_mem V).mpr ⟨s, hs, rfl⟩
    have hlt := List.idxOf_lt_length_iff.mpr hg
    have hget : (nmN cut live w I J).getD ((nmN cut live w I J).idxOf (gR cut live w I J s)) 0 = gR cut live w I J s := by
      rw [List.getD_eq_getElem?_getD, List.getElem?_eq_getElem hlt, Option.getD_some, List.getElem_idxOf]
    have hr := gR_resp V hq s hs
    unfold shB
    generalize (nmN cut live w I J).idxOf (gR cut live w I J s) = i at *
    by_cases h0 : i = 0
    · subst h0
      rw [hget, hr]
      simp
    · have h2 : (i == 0) = false := by simpa using h0
      rw [h2, hb (i - 1) (by lia), show i - 1 + 1 = i by lia, hget, hr]
      rfl
  have T := V.tw _ (getD_mem hm)
  have hlt : I (live.getD m 0) < cut.length := by have := T.ij; have := T.jn; lia
  rw [key _ (prevI_lt hlt), key _ hlt]
  have hst := col_step V (f := tbF live t) T.ei
  have htb : tbF live t (live.getD m 0) = t.testBit m := by
    unfold tbF
    have : live.idxOf (live.getD m 0) = m := by
      rw [List.getD_eq_getElem?_getD, List.getElem?_eq_getElem hm, Option.getD_some]
      exact V.nd.idxOf_getElem m hm
    rw [this]
  rw [← htb, ← hst]
  generalize colF cut (tbF live t) (prevI cut.length (I (live.getD m 0))) = a
  generalize colF cut (tbF live t) (I (live.getD m 0)) = b
  generalize colF cut (tbF live t) _ = c
  cases a <;> cases b <;> cases c <;> rfl
end
end

-- text Q4
section


section
variable {cut live : List Nat} {w I J : Nat → Nat}
theorem pass_letter (V : Cv cut live I J) {p : Nat} (hp : p < cut.length) : ∃ k ∈ live, cut[p]? = some k ∧ (p = I k ∨ p = J k) := by
  have hm : cut[p]? = some cut[p] := List.getElem?_eq_getElem hp
  have hk := V.sub _ (List.getElem_mem hp)
  refine ⟨cut[p], hk, hm, ?_⟩
  have T := V.tw _ hk
  by_cases h1 : p = I cut[p]
  · exact .inl h1
  · by_cases h2 : p = J cut[p]
    · exact .inr h2
    · exact absurd hm (T.no p h1 h2)
/-- the bits of a choice that was found, at every pass -/
theorem bit_at (V : Cv cut live I J) {lot t : Nat} (h : ∀ m < live.length, (shB cut live w I J lot (prevI cut.length (I (live.getD m 0))) ^^ shB cut live w I J lot (I (live.getD m 0))) = t.testBit m)
    {p k : Nat} (hp : cut[p]? = some k) : (shB cut live w I J lot (prevI cut.length p) ^^ shB cut live w I J lot p) = tbF live t k := by
  have hlt := (List.getElem?_eq_some_iff.mp hp).1
  obtain ⟨k', hk, hk', hpos⟩ := pass_letter V hlt
  have : k' = k := by rw [hp] at hk'; exact (Option.some.inj hk').symm
  subst this
  have T := V.tw _ hk
  have hij := T.ij
  have hj := T.jn
  have h1 := h (live.idxOf k') (List.idxOf_lt_length_iff.mpr hk)
  rw [getD_idxOf hk] at h1
  unfold tbF
  rw [← h1]
  rcases hpos with rfl | rfl
  · rfl
  · have hJ : ∀ x ∈ joinsF (w k' : Int) (I k') (J k'), shB cut live w I J lot (pyI cut.length x.1) = shB cut live w I J lot (pyI cut.length x.2) := by
      intro x hx
      have := gR_join (w := w) V x (by unfold jsN; exact List.mem_flatMap.mpr ⟨k', hk, hx⟩)
      unfold shB
      rw [this]
    unfold joinsF at hJ
    split at hJ
    · simp only [List.forall_mem_cons, List.not_mem_nil, false_implies, implies_true, and_true] at hJ
      rw [pyI_prev (i := I k') (by lia), pyI_prev hj, pyI_nat (i := I k') (by lia), pyI_nat hj] at hJ
      rw [hJ.1, hJ.2]
    · simp only [List.forall_mem_cons, List.not_mem_nil, false_implies, implies_true, and_true] at hJ
      rw [pyI_prev (i := I k') (by lia), pyI_prev hj, pyI_nat (i := I k') (by lia), pyI_nat hj] at hJ
      rw [hJ.1, hJ.2, Bool.xor_comm]
theorem col_shade (V : Cv cut live I J) {lot t : Nat} (h : ∀ m < live.length, (shB cut live w I J lot (prevI cut.length (I (live.getD m 0))) ^^ shB cut live w I J lot (I (live.getD m 0))) = t.testBit m) :
    ∀ p < cut.length, colF cut (tbF live t) p = (shB cut live w I J lot p ^^ shB cut live w I J lot (cut.length - 1))
  | 0, hp => by
    obtain ⟨k, _, hk, _⟩ := pass_letter V hp
    have h1 := col_step V (f := tbF live t) hk
    have h2 := bit_at V h hk
    rw [colF_prev (cut_even V.nd V.sub V.two) hp] at h1
    have e : prevI cut.length 0 = cut.length - 1 := rfl
    rw [e] at h2
    rw [← h2] at h1
    simp only [List.take_zero, List.countP_nil, Nat.zero_mod] at h1
    rw [Bool.xor_comm (shB cut live w I J lot 0), ← h1]
    exact (Bool.false_xor _).symm
  | p + 1, hp => by
    obtain ⟨k, _, hk, _⟩ := pass_letter V hp
    have h1 := col_step V (f := tbF live t) hk
    have h2 := bit_at V h hk
    have e : prevI cut.length (p + 1) = p := rfl
    have ih := col_shade V h p (by lia)
    rw [e, ← h2, ih] at h1
    rw [e] at h1
    generalize shB cut live w I J lot (cut.length - 1) = a at *
    generalize shB cut live w I J lot p = b at *
    generalize shB cut live w I J lot (p + 1) = c at *
    generalize colF cut (tbF live t) (p + 1) = d at *
    revert h1
    cases a <;> cases b <;> cases c <;> cases d <;> decide
theorem quiet_of_found (V : Cv cut live I J) {lot t : Nat} (h : ∀ m < live.length, (shB cut live w I J lot (prevI cut.length (I (live.getD m 0))) ^^ shB cut live w I J lot (I (live.getD m 0))) = t.testBit m) :
    ∀ x ∈ jsN live w I J, colF cut (tbF live t) (pyI cut.length x.1) = colF cut (tbF live t) (pyI cut.length x.2) := by
  intro x hx
  obtain ⟨h1, h2⟩ := V.ok x hx
  rw [col_shade V h _ h1, col_shade V h _ h2]
  have := gR_join V x hx
  unfold shB
  rw [this]
theorem found_inj (V : Cv cut live I J) {a b : Nat} (ha : a < 2 ^ ((nmN cut live w I J).length - 1)) (hb : b < 2 ^ ((nmN cut live w I J).length - 1)) (h : chI cut live w I J a = chI cut live w I J b) : a = b := by
  obtain ⟨t, ht, hc, h1⟩ := choice_ex (w := w) V a
  obtain ⟨t', ht', hc', h2⟩ := choice_ex (w := w) V b
  have : t = t' := by rw [hc, hc'] at h; lia
  subst this
  by_cases hm : (nmN cut live w I J).length ≤ 1
  · have e : (nmN cut live w I J).length - 1 = 0 := by lia
    rw [e] at ha hb
    lia
  have hnd : (nmN cut live w I J).Nodup := nmN_nodup
  have hidx : ∀ n (hn : n < (nmN cut live w I J).length), ∃ s < cut.length, (nmN cut live w I J).idxOf (gR cut live w I J s) = n := by
    intro n hn
    obtain ⟨s, hs, he⟩ := (nmN_mem V).mp (List.getElem_mem hn)
    exact ⟨s, hs, by rw [he]; exact hnd.idxOf_getElem n hn⟩
  obtain ⟨s0, hs0, hi0⟩ := hidx 0 (by lia)
  have z : ∀ lot, shB cut live w I J lot s0 = false := fun lot => by unfold shB; rw [hi0]; rfl
  have e0 := (col_shade V h1 s0 hs0).symm.trans (col_shade V h2 s0 hs0)
  rw [z, z] at e0
  have e1 : shB cut live w I J a (cut.length - 1) = shB cut live w I J b (cut.length - 1) := by simpa using e0
  refine Nat.eq_of_testBit_eq fun i => ?_
  by_cases hi : i < (nmN cut live w I J).length - 1
  · obtain ⟨s, hs, he⟩ := hidx (i + 1) (by lia)
    have e2 := (col_shade V h1 s hs).symm.trans (col_shade V h2 s hs)
    rw [e1] at e2
    have e3 : shB cut live w I J a s = shB cut live w I J b s := by
      generalize shB cut live w I J b (cut.length - 1) = x at e2
      generalize shB cut live w I J a s = y at *
      generalize shB cut live w I J b s = u at *
      revert e2
      cases x <;> cases y <;> cases u <;> decide
    unfold shB at e3
    rw [he] at e3
    exact e3
  · have hle : 2 ^ ((nmN cut live w I J).length - 1) ≤ 2 ^ i := Nat.pow_le_pow_right (by decide) (by lia)
    rw [Nat.testBit_lt_two_pow (by lia), Nat.testBit_lt_two_pow (by lia)]
/-- the choices that are found are just those that respect the joins, each once -/
theorem found_perm (V : Cv cut live I J) {p : Nat → Bool} (hp : ∀ t < 2 ^ live.length, p t = true ↔ ∀ x ∈ jsN live w I J, colF cut (tbF live t) (pyI cut.length x.1) = colF cut (tbF live t) (pyI cut.length x.2)) :
    (((List.range (2 ^ live.length)).filter p).map Int.ofNat).Perm (foundF (toI cut) (toI live) (fun z => (w z.toNat : Int)) (fun z => I z.toNat) (fun z => J z.toNat)) := by
  rw [foundF_nat]
  refine (List.perm_ext_iff_of_nodup ?_ ?_).mpr fun z => ?_
  · exact List.pairwise_map.mpr ((List.Pairwise.filter _ List.nodup_range).imp fun h h2 => h (Int.ofNat.inj h2))
  · refine List.pairwise_map.mpr ?_
    refine List.nodup_range.imp_of_mem fun {a b} ha hb hne he => hne ?_
    exact found_inj V (List.mem_range.mp ha) (List.mem_range.mp hb) he
  · simp only [List.mem_map, List.mem_filter, List.mem_range]
    constructor
    · rintro ⟨t, ⟨ht, hpt⟩, rfl⟩
      obtain ⟨lot, hl, he⟩ := found_of_quiet V ht ((hp t ht).mp hpt)
      exact ⟨lot, hl, he⟩
    · rintro ⟨lot, hl, rfl⟩
      obtain ⟨t, ht, hc, h1⟩ := choice_ex (w := w) V lot
      exact ⟨t, ⟨ht, (hp t ht).mpr (quiet_of_found V h1)⟩, hc.symm⟩
theorem filter_sorted (n : Nat) (p : Nat → Bool) : (((List.range n).filter p).map Int.ofNat).Pairwise (· ≤ ·) := by
  refine List.pairwise_map.mpr ((List.Pairwise.filter _ List.pairwise_lt_range).imp fun {a b} h => ?_)
  show (a : Int) ≤ (b : Int)
  lia
end
end

-- text Q5
section


def oneB (cut : List Nat) (I J : Nat → Nat) (k q : Nat) : Bool := decide (1 ≤ (btw cut (I k) (J k)).count q)
def twoB (cut : List Nat) (I J : Nat → Nat) (k q : Nat) : Bool := decide (2 ≤ (btw cut (I k) (J k)).count q)
theorem bitM_eq (w : Nat → Nat) (cut : List Nat) (I J : Nat → Nat) (hw : ∀ k, w k < 3) (k q : Nat) :
    (bitM w (oneB cut I J) (twoB cut I J) k q == 1) = if q = k then w k == 2 else (btw cut (I k) (J k)).count q == 1 := by
  unfold bitM oneB twoB
  have := hw k
  by_cases h : q = k
  · rw [if_pos h, if_pos h]
    have : w k = 0 ∨ w k = 1 ∨ w k = 2 := by lia
    rcases this with h | h | h <;> rw [h] <;> rfl
  · rw [if_neg h, if_neg h]
    generalize (btw cut (I k) (J k)).count q = c
    by_cases h1 : c = 1
    · subst h1; rfl
    · have e : (c == 1) = false := by simpa using h1
      rw [e, if_neg]
      · rfl
      · simp only [decide_eq_true_eq, decide_eq_false_iff_not]; lia
theorem countP_four {l : Nat} (hl : l ≤ 4) (f : Nat → Bool) (h : ∀ n, l ≤ n → f n = false) : (List.range 4).countP f = (List.range l).countP f := by
  have e : List.range 4 = List.range l ++ (List.range (4 - l)).map (l + ·) := by
    rw [← List.range_add, show l + (4 - l) = 4 by lia]
  rw [e, List.countP_append, List.countP_map]
  have : (List.range (4 - l)).countP (f ∘ fun x => l + x) = 0 := List.countP_eq_zero.mpr fun n _ => by
    rw [Function.comp_apply, h _ (by lia)]; decide
  rw [this]; lia
/-- a row meets a choice oddly -/
theorem oddB_row {live : List Nat} {w : Nat → Nat} {one two : Nat → Nat → Bool} {k t : Nat} (hn : live.Nodup) (hl : live.length ≤ 4) (hw : ∀ k, w k < 3) (ht : t < 2 ^ live.length) :
    oddB (maskP w one two live k live.length) t = (live.countP (fun q => (bitM w one two k q == 1) && tbF live t q) % 2 == 1) := by
  have h16 : 2 ^ live.length ≤ 2 ^ 4 := Nat.pow_le_pow_right (by decide) hl
  have hm := sum_maskP_lt w one two live k hw live.length
  rw [oddB_eq _ (by lia) _ (by lia), countP_four hl _ fun n hn => by
    rw [Nat.testBit_lt_two_pow (x := t) (Nat.lt_of_lt_of_le ht (Nat.pow_le_pow_right (by decide) hn)), Bool.and_false]]
  congr 2
  have e : live = (List.range live.length).map fun n => live.getD n 0 := by
    have := map_range_getD live id
    simpa using this
  conv => rhs; rw [e, List.countP_map]
  refine List.countP_congr fun n hn' => ?_
  have hlt := List.mem_range.mp hn'
  have hi : live.idxOf (live.getD n 0) = n := by
    rw [List.getD_eq_getElem?_getD, List.getElem?_eq_getElem hlt, Option.getD_some]
    exact hn.idxOf_getElem n hlt
  rw [maskP_bit _ _ _ _ _ hw _ _ hlt, Function.comp_apply, tbF, ← e, hi]
theorem quiet_iff {cut live : List Nat} {w I J : Nat → Nat} (V : Cv cut live I J) (hw : ∀ k, w k < 3) (hl : live.length ≤ 4) {t : Nat} (ht : t < 2 ^ live.length) :
    (farN (live.map fun k => maskP w (oneB cut I J) (twoB cut I J) live k live.length) live.length t == 0) = true ↔ ∀ x ∈ jsN live w I J, colF cut (tbF live t) (pyI cut.length x.1) = colF cut (tbF live t) (pyI cut.length x.2) := by
  have he := cut_even (f := tbF live t) V.nd V.sub V.two
  have hrow : ∀ k ∈ live, (oddB (maskP w (oneB cut I J) (twoB cut I J) live k live.length) t = false ↔ ∀ x ∈ joinsF (w k : Int) (I k) (J k), colF cut (tbF live t) (pyI cut.length x.1) = colF cut (tbF live t) (pyI cut.length x.2)) := by
    intro k hk
    rw [resp_one (V.tw k hk) he, oddB_row V.nd hl hw ht, row_par V.nd hk V.sub V.two (V.tw k hk) (v := w k) fun q _ => bitM_eq w cut I J hw k q]
    generalize nB (w k == 2 && tbF live t k) + (btw cut (I k) (J k)).countP (tbF live t) = x
    rcases Nat.mod_two_eq_zero_or_one x with h | h <;> rw [h] <;> decide
  rw [beq_iff_eq]
  unfold farN
  rw [List.countP_eq_zero]
  constructor
  · intro h x hx
    unfold jsN at hx
    obtain ⟨k, hk, hx⟩ := List.mem_flatMap.mp hx
    refine (hrow k hk).mp ?_ x hx
    have h1 := h (live.idxOf k) (List.mem_range.mpr (List.idxOf_lt_length_iff.mpr hk))
    have e : (live.map fun k => maskP w (oneB cut I J) (twoB cut I J) live k live.length).getD (live.idxOf k) 0 = maskP w (oneB cut I J) (twoB cut I J) live k live.length := by
      have hlt := List.idxOf_lt_length_iff.mpr hk
      rw [List.getD_eq_getElem?_getD, List.getElem?_map, List.getElem?_eq_getElem hlt, Option.map_some, Option.getD_some, List.getElem_idxOf]
    rw [e] at h1
    simpa using h1
  · intro h n hn
    have hlt := List.mem_range.mp hn
    have e : (live.map fun k => maskP w (oneB cut I J) (twoB cut I J) live k live.length).getD n 0 = maskP w (oneB cut I J) (twoB cut I J) live (live.getD n 0) live.length := by
      rw [List.getD_eq_getElem?_getD, List.getElem?_map, List.getElem?_eq_getElem hlt, List.getD_eq_getElem?_getD, List.getElem?_eq_getElem hlt]; rfl
    rw [e, (hrow _ (getD_mem hlt)).mpr fun x hx => h x (by unfold jsN; exact List.mem_flatMap.mpr ⟨_, getD_mem hlt, hx⟩)]
    decide
theorem toI_mem {l : List Nat} {z : Int} (h : z ∈ toI l) : ∃ k ∈ l, z = (k : Int) := by
  unfold toI at h
  obtain ⟨k, hk, rfl⟩ := List.mem_map.mp h
  exact ⟨k, hk, rfl⟩
/-- partings of the rings = the quiet choices -/
theorem partings_quiet {C : Cx} (P : Pg C) {cut live : List Nat} {w I J : Nat → Nat} (V : Cv cut live I J) (hT : ∀ k ∈ live, Twice (toI cut) k (I k) (J k)) (hw : ∀ k, w k < 3) (hl : live.length ≤ 4) (hl4 : ∀ k ∈ live, k < 4) (hc : cut.length ≤ 20) (m : Nat) :
    FnD C (m + 3) 16 [L (toI cut), L (toI live), L (toI (waysN w))] (L (((List.range (2 ^ live.length)).filter (fun t => farN (live.map fun k => maskP w (oneB cut I J) (twoB cut I J) live k live.length) live.length t == 0)).map Int.ofNat)) := by
  have hperm := found_perm V (w := w) (p := fun t => farN (live.map fun k => maskP w (oneB cut I J) (twoB cut I J) live k live.length) live.length t == 0) fun t ht => quiet_iff V hw hl ht
  have hring : ringsN (fun z => (w z.toNat : Int)) (fun z => I z.toNat) (fun z => J z.toNat) (toI live) (arcs (toI cut).length) = rgN cut live w I J := by
    rw [ringsN_eq, allJ_nat, toI_length]
  refine law_partings (n := m + 1) P (I := fun z => I z.toNat) (J := fun z => J z.toNat) (wf := fun z => (w z.toNat : Int)) (by rw [toI_length]; lia) (by rw [toI_length]; lia) (by simp [toI, waysN]) ?_ ?_ ?_ ?_ hperm (filter_sorted _ _)
  · intro k hk
    obtain ⟨q, hq, rfl⟩ := toI_mem hk
    exact hT q hq
  · intro k hk
    obtain ⟨q, hq, rfl⟩ := toI_mem hk
    have h4 := hl4 q hq
    have hlen : (toI (waysN w)).length = 4 := by simp [toI, waysN]
    rw [hlen, sidx_nat h4]
    refine ⟨rfl, ?_⟩
    simp [toI, waysN, h4]
  · rw [hring, toI_length]
    intro r hr
    obtain ⟨s, hs, h⟩ := List.mem_iff_getElem.mp hr
    have hs' : s < cut.length := by rw [rgN_length] at hs; exact hs
    have := gR_mem (w := w) V s hs'
    unfold gR at this
    rw [List.getD_eq_getElem?_getD, List.getElem?_eq_getElem hs, Option.getD_some, h] at this
    exact this
  · rw [hring, toI_length]
    have h1 := hperm.length_eq
    rw [foundF_nat, List.length_map, List.length_map, List.length_range] at h1
    have h2 := List.length_filter_le (fun t => farN (live.map fun k => maskP w (oneB cut I J) (twoB cut I J) live k live.length) live.length t == 0) (List.range (2 ^ live.length))
    rw [h1, List.length_range] at h2
    have h3 := (Nat.pow_le_pow_iff_right (by decide : 1 < 2)).mp h2
    show (nmN cut live w I J).length ≤ 6
    lia
/-- a row is not nought just if the point crosses something -/
theorem cross_iff {cut live : List Nat} {w I J : Nat → Nat} (V : Cv cut live I J) (hw : ∀ k, w k < 3) : ∀ k ∈ live, (maskP w (oneB cut I J) (twoB cut I J) live k live.length != 0) = crossB w (toI cut) I J k := by
  intro k hk
  have T := V.tw k hk
  have hmid : midF (toI cut) (I k) (J k) = toI ((btw cut (I k) (J k)).filter fun y => (btw cut (I k) (J k)).count y == 1) := by
    unfold midF btw
    have e : ((toI cut).drop (I k + 1)).take (J k - (I k + 1)) = toI ((cut.drop (I k + 1)).take (J k - (I k + 1))) := by
      unfold toI; rw [List.map_take, List.map_drop]
    rw [e]
    generalize (cut.drop (I k + 1)).take (J k - (I k + 1)) = b
    have : (fun y => (toI b).count y == 1) ∘ Int.ofNat = fun y => b.count y == 1 := by
      funext y; show ((toI b).count (y : Int) == 1) = _; rw [count_toI]
    unfold toI at *
    rw [List.filter_map, this]
  rw [Bool.eq_iff_iff]
  unfold crossB
  rw [hmid, bne_iff_ne, Bool.or_eq_true, beq_iff_eq]
  have hbit := fun n (hn : n < live.length) => maskP_bit w (oneB cut I J) (twoB cut I J) live k hw live.length n hn
  have hbm := bitM_eq w cut I J hw k
  constructor
  · intro hne
    by_cases h2 : w k = 2
    · exact .inl h2
    · right
      obtain ⟨n, hn⟩ : ∃ n, (maskP w (oneB cut I J) (twoB cut I J) live k live.length).testBit n = true := Nat.exists_testBit_of_ne_zero hne
      have hlt : n < live.length := by
        refine Decidable.byContradiction fun h => ?_
        rw [Nat.testBit_lt_two_pow (Nat.lt_of_lt_of_le (sum_maskP_lt w _ _ live k hw _) (Nat.pow_le_pow_right (by decide) (by lia)))] at hn
        cases hn
      rw [hbit n hlt, hbm] at hn
      by_cases hq : live.getD n 0 = k
      · rw [if_pos hq] at hn
        exact absurd (by simpa using hn) h2
      · rw [if_neg hq] at hn
        have hmem : live.getD n 0 ∈ btw cut (I k) (J k) := List.count_pos_iff.mp (by have : (btw cut (I k) (J k)).count (live.getD n 0) = 1 := by simpa using hn
                                                                                     lia)
        have hf : live.getD n 0 ∈ (btw cut (I k) (J k)).filter fun y => (btw cut (I k) (J k)).count y == 1 := List.mem_filter.mpr ⟨hmem, hn⟩
        generalize (btw cut (I k) (J k)).filter (fun y => (btw cut (I k) (J k)).count y == 1) = xs at hf
        cases xs with
        | nil => cases hf
        | cons a r => rfl
  · intro h hz
    have z : ∀ q ∈ live, (bitM w (oneB cut I J) (twoB cut I J) k q == 1) = false := by
      intro q hq
      have := hbit (live.idxOf q) (List.idxOf_lt_length_iff.mpr hq)
      rw [hz, Nat.zero_testBit, getD_idxOf hq] at this
      exact this.symm
    rcases h with h | h
    · have := z k hk
      rw [hbm, if_pos rfl, h] at this
      cases this
    · obtain ⟨a, ha⟩ : ∃ a, a ∈ (btw cut (I k) (J k)).filter fun y => (btw cut (I k) (J k)).count y == 1 := by
        generalize (btw cut (I k) (J k)).filter (fun y => (btw cut (I k) (J k)).count y == 1) = xs at h
        cases xs with
        | nil => cases h
        | cons a r => exact ⟨a, .head _⟩
      obtain ⟨h1, h2⟩ := List.mem_filter.mp ha
      have h3 := z a (V.sub _ ((btw_sub _ _ _).subset h1))
      rw [hbm] at h3
      split at h3
      · rename_i he
        subst he
        rw [T.btw_no] at h2
        cases h2
      · rw [h2] at h3; cases h3
end

-- text X4
section


theorem flatU_append (a b : List Nat) (w : Nat → Nat) : flatU (a ++ b) w = flatU a w ++ flatU b w := by unfold flatU unitsN; rw [List.map_append, List.flatten_append]
theorem flatU_take (cut : List Nat) (w : Nat → Nat) (n : Nat) : ((unitsN cut w).take n).flatten = flatU (cut.take n) w := by unfold flatU unitsN; rw [List.map_take]
theorem text_split {cut : List Nat} {w : Nat → Nat} {k i j : Nat} (T : TwN cut k i j) : textN cut w = flatU (cut.take (i + 1)) w ++ (flatU (btw cut i j) w ++ (flatU (cut.drop j) w ++ [34, 92])) := by
  rw [textN_eq]
  conv => lhs; rw [← List.take_append_drop j cut, T.take_j]
  rw [flatU_append, flatU_append]
  simp only [List.append_assoc]
theorem tail_eq {cut : List Nat} {w : Nat → Nat} (j : Nat) : tailF (unitsN cut w) (textN cut w) j = [46, 46, 46] ++ (flatU (cut.drop j) w ++ [34, 92]) := by
  unfold tailF
  rw [flatU_take, textN_eq]
  have : flatU cut w = flatU (cut.take j) w ++ flatU (cut.drop j) w := by rw [← flatU_append, List.take_append_drop]
  rw [this, List.append_assoc, List.drop_left]
theorem unit_ne (k w : Nat) : unitL k w ≠ [] := by
  unfold unitL
  split
  · simp
  · split <;> simp
section
variable {C : Cx} {cut live : List Nat} {w I J : Nat → Nat} (P : Pg C) (V : Cv cut live I J) (hc : ∀ x ∈ cut, x < 4 ∧ (w x = 1 ∨ w x = 2)) (hll : (textN cut w).length ≤ 390)
include P V hc hll
theorem mid_call (m : Nat) {k q : Nat} (hk : k ∈ live) (hq : q < 4) (b : Bool) (ws : List (List Nat)) (hws : ws = [unitL q (w q)] ∨ ws = [unitL q (w q), unitL q (w q)])
    (hb : ellLoop (textN cut w) ((flatU (cut.take (I k + 1)) w).length + (flatU (btw cut (I k) (J k)) w).length) ws (flatU (cut.take (I k + 1)) w).length = b) (want : List Nat)
    (he : want = inter (flatU (cut.take (I k + 1)) w :: (ws ++ [flatU (cut.drop (J k)) w ++ [34, 92]]))) : FnD C (m + 1) 2 [S want, S (textN cut w)] (.bool b) := by
  have T := V.tw k hk
  have hs := text_split (w := w) T
  have hpre : flatU (cut.take (I k + 1)) w ≠ [] := by
    rw [T.take_i, flatU_append]
    intro h
    have := List.append_eq_nil_iff.mp h
    rw [flatU_cons] at this
    exact unit_ne k (w k) (List.append_eq_nil_iff.mp this.2).1
  have hpost : flatU (cut.drop (J k)) w ++ [34, 92] ≠ [] := by simp
  have hlen : (textN cut w).length = (flatU (cut.take (I k + 1)) w).length + ((flatU (btw cut (I k) (J k)) w).length + (flatU (cut.drop (J k)) w ++ [34, 92]).length) := by
    rw [hs]; simp only [List.length_append]
  have hc4 : ∀ x ∈ cut, x < 4 := fun x hx => (hc x hx).1
  have d1 : 46 ∉ flatU (cut.take (I k + 1)) w := fun h => (flatU_chars (fun x hx => hc4 x (List.mem_of_mem_take hx)) 46 h).2.1 rfl
  have d2 : 46 ∉ flatU (cut.drop (J k)) w ++ [34, 92] := fun h => (text_chars (w := w) (ks := cut.drop (J k)) (fun x hx => hc4 x (List.mem_of_mem_drop hx)) 46 h).2.1 rfl
  have d3 : 46 ∉ unitL q (w q) := fun h => (unit_chars hq 46 h).2.1 rfl
  have hul := unitL_len q (w q)
  refine ell_want P (flatU (cut.take (I k + 1)) w :: (ws ++ [flatU (cut.drop (J k)) w ++ [34, 92]])) (by simp) (fun p hp => ?_) he ?_ (by lia) ?_
  · rcases hws with rfl | rfl
    · simp only [List.mem_cons, List.mem_append, List.not_mem_nil, or_false] at hp
      rcases hp with rfl | rfl | rfl
      · exact d1
      · exact d3
      · exact fun h => d2 h
    · simp only [List.mem_cons, List.mem_append, List.not_mem_nil, or_false] at hp
      rcases hp with rfl | (rfl | rfl) | rfl
      · exact d1
      · exact d3
      · exact d3
      · exact fun h => d2 h
  · rw [he]
    rcases hws with rfl | rfl
    · simp only [List.cons_append, List.nil_append, inter, List.length_append, List.length_cons, List.length_nil] at hlen ⊢
      lia
    · simp only [List.cons_append, List.nil_append, inter, List.length_append, List.length_cons, List.length_nil] at hlen ⊢
      lia
  · have h0 : ws ≠ [] := by rcases hws with rfl | rfl <;> simp
    have := ell_mid (mid := flatU (btw cut (I k) (J k)) w) hpre hpost h0
    rw [← hs] at this
    rw [this]; exact hb
theorem one_call (m : Nat) {k q : Nat} (hk : k ∈ live) (hq : q < 4) (hwq : w q = 1 ∨ w q = 2) :
    FnD C (m + 1) 2 [S (headF (unitsN cut w) (I k) ++ unitL q (w q) ++ tailF (unitsN cut w) (textN cut w) (J k)), S (textN cut w)] (.bool (oneB cut I J k q)) := by
  have hs := text_split (w := w) (V.tw k hk)
  refine mid_call P V hc hll m hk hq _ [unitL q (w q)] (.inl rfl) ?_ _ ?_
  · rw [hs, ell_one hq hwq _ _ _ fun x hx => hc x ((btw_sub _ _ _).subset hx)]; rfl
  · rw [tail_eq]
    unfold headF
    rw [flatU_take]
    simp only [inter, List.cons_append, List.nil_append, List.append_assoc]
theorem two_call (m : Nat) {k q : Nat} (hk : k ∈ live) (hq : q < 4) (hwq : w q = 1 ∨ w q = 2) :
    FnD C (m + 1) 2 [S (headF (unitsN cut w) (I k) ++ unitL q (w q) ++ [46, 46, 46] ++ unitL q (w q) ++ tailF (unitsN cut w) (textN cut w) (J k)), S (textN cut w)] (.bool (twoB cut I J k q)) := by
  have hs := text_split (w := w) (V.tw k hk)
  refine mid_call P V hc hll m hk hq _ [unitL q (w q), unitL q (w q)] (.inr rfl) ?_ _ ?_
  · rw [hs, ell_two hq hwq _ _ _ fun x hx => hc x ((btw_sub _ _ _).subset hx)]; rfl
  · rw [tail_eq]
    unfold headF
    rw [flatU_take]
    simp only [inter, List.cons_append, List.nil_append, List.append_assoc]
end
/-! what the strip of a text is -/
theorem cutN_cons (k : Nat) (r : List Nat) (w : Nat → Nat) : cutN (k :: r) w = if w k = 0 then cutN r w else k :: cutN r w := by
  unfold cutN
  by_cases h : w k = 0
  · rw [if_pos h, List.filter_cons_of_neg (by simp [h])]
  · rw [if_neg h, List.filter_cons_of_pos (by simpa using h)]
theorem strip_units (x : List Nat) (w : Nat → Nat) : ∀ (ks pre : List Nat) (s : StS), x = pre ++ textN ks w → (∀ k ∈ ks, k < 4) → s.op = none → s.st ≤ pre.length →
    (if ((itemsAll pre.length ks w).foldl (stepT x) s).st < x.length then ((itemsAll pre.length ks w).foldl (stepT x) s).rs ++ [x.drop ((itemsAll pre.length ks w).foldl (stepT x) s).st] else ((itemsAll pre.length ks w).foldl (stepT x) s).rs).flatten = outS x s pre.length ++ textN (cutN ks w) w
  | [], pre, s, hx, _, ho, hs => by
    obtain ⟨st, op, rs⟩ := s
    simp only at ho hs
    subst ho
    have e : (itemsAll pre.length [] w).foldl (stepT x) ⟨st, none, rs⟩ = ⟨st, some pre.length, rs⟩ := by simp [itemsAll, stepT]
    have ht : textN [] w = [34, 92] := rfl
    have hlen : x.length = pre.length + 2 := by rw [hx, ht]; simp
    rw [e]
    simp only
    rw [if_pos (by lia), List.flatten_append]
    have hd : x.drop st = (x.drop st).take (pre.length - st) ++ [34, 92] := by
      conv => lhs; rw [← List.take_append_drop (pre.length - st) (x.drop st)]
      rw [List.drop_drop, show st + (pre.length - st) = pre.length by lia]
      congr 1
      rw [hx, List.drop_left, ht]
    have hcut : cutN [] w = [] := rfl
    rw [hcut, ht]
    unfold outS
    simp only [List.flatten_cons, List.flatten_nil, List.append_nil]
    rw [List.append_assoc, ← hd]
  | k :: r, pre, s, hx, hk, ho, hs => by
    have hx' : x = pre ++ (unitL k (w k) ++ textN r w) := by rw [hx, textN_cons]
    obtain ⟨a1, a2, a3⟩ := step_unit x s pre.length k (w k) (hk k (.head _)) (textN r w) pre hx' rfl ho hs
    have hl : (pre ++ unitL k (w k)).length = pre.length + (unitL k (w k)).length := List.length_append
    have ih := strip_units x w r (pre ++ unitL k (w k)) ((itemsU pre.length k (w k)).foldl (stepT x) s) (by rw [hx', List.append_assoc]) (fun q hq => hk q (.tail _ hq)) a1 (by rw [hl]; exact a2)
    rw [hl] at ih
    rw [itemsAll, List.foldl_append, ih, a3, cutN_cons]
    split
    · rw [List.append_nil]
    · rw [textN_cons, List.append_assoc]
theorem strip_text {pn : List Nat} (w : Nat → Nat) (hp : ∀ k ∈ pn, k < 4) : stripF (textN pn w) = textN (cutN pn w) w := by
  unfold stripF stripSt
  rw [if_pos (by rw [textN_eq]; simp), escL_text pn w hp]
  have := strip_units (textN pn w) w pn [] ⟨0, none, []⟩ rfl hp rfl (Nat.le_refl 0)
  simpa [outS] using this
/-! where the units end -/
def endsG : Nat → List (List Nat) → List Int
  | _, [] => []
  | a, u :: r => (((a + u.length : Nat) : Int) - 1) :: endsG (a + u.length) r
theorem endsG_eq : ∀ (us : List (List Nat)) (a : Nat), (List.range us.length).map (fun n => ((a + (us.take (n + 1)).flatten.length : Nat) : Int) - 1) = endsG a us
  | [], a => rfl
  | u :: r, a => by
    rw [List.length_cons, List.range_succ_eq_map, List.map_cons, List.map_map, endsG, ← endsG_eq r (a + u.length)]
    congr 1
    · simp
    · refine List.map_congr_left fun n _ => ?_
      simp only [Function.comp_apply, Nat.succ_eq_add_one, List.take_succ_cons, List.flatten_cons, List.length_append, Nat.add_assoc]
theorem endsF_eq (us : List (List Nat)) : endsF us = endsG 0 us := by
  rw [← endsG_eq]
  unfold endsF arcs
  rw [List.map_map]
  refine List.map_congr_left fun n _ => ?_
  simp
def itD (p : Nat × List Nat) : PyData := .tuple [.int p.1, S p.2]
theorem items_due (w : Nat → Nat) : ∀ (ks : List Nat) (a : Nat), (∀ k ∈ ks, w k ≠ 0) → (itemsAll a ks w).map itD = ((endsG a (unitsN ks w)).zip (unitsN ks w)).map (fun p => PyData.tuple [.int p.1, S p.2]) ++ [itD (a + (flatU ks w).length, [34]), itD (a + (flatU ks w).length + 1, [92])]
  | [], a, h => rfl
  | k :: r, a, h => by
    have ih := items_due w r (a + (unitL k (w k)).length) fun q hq => h q (.tail _ hq)
    have hk := h k (.head _)
    have hi : (itemsU a k (w k)).map itD = [PyData.tuple [.int (((a + (unitL k (w k)).length : Nat) : Int) - 1), S (unitL k (w k))]] := by
      unfold itemsU unitL
      rw [if_neg hk, if_neg hk]
      split
      · simp [itD]
      · simp only [List.map_cons, List.map_nil, itD, List.length_cons, List.length_nil]
        congr 3
        exact congrArg PyData.int (by lia)
    have hu : unitsN (k :: r) w = unitL k (w k) :: unitsN r w := rfl
    rw [itemsAll, List.map_append, hi, ih, hu, endsG, List.zip_cons_cons, List.map_cons, flatU_cons, List.length_append, ← Nat.add_assoc]
    rfl
theorem due_text {cut : List Nat} {w : Nat → Nat} (hc : ∀ k ∈ cut, k < 4) (h0 : ∀ k ∈ cut, w k ≠ 0) : PyData.list (escD (textN cut w)) = dueD (unitsN cut w) (textN cut w) := by
  unfold escD dueD
  rw [escL_text cut w hc, endsF_eq]
  have := items_due w cut 0 h0
  have e : (itemsAll 0 cut w).map (fun p => PyData.tuple [.int p.1, S p.2]) = (itemsAll 0 cut w).map itD := rfl
  rw [e, this]
  have hl : (textN cut w).length = (flatU cut w).length + 2 := by rw [textN_eq]; simp
  congr 2
  unfold itD
  simp only [hl]
  have z1 : ((0 + (flatU cut w).length : Nat) : Int) = ((flatU cut w).length + 2 : Nat) - 2 := by lia
  have z2 : ((0 + (flatU cut w).length + 1 : Nat) : Int) = ((flatU cut w).length + 2 : Nat) - 1 := by lia
  rw [z1, z2]
theorem escL_ok : ∀ (x : List Nat) (i : Nat) (b : Bool), (∀ c ∈ x, c < 128) → ∀ p ∈ escL i b x, ∀ c ∈ p.2, c < 128
  | [], i, true, h => by
    intro p hp
    simp only [escL, List.mem_cons, List.not_mem_nil, or_false] at hp
    subst hp
    intro c hc
    simp only [List.mem_cons, List.not_mem_nil, or_false] at hc
    lia
  | [], i, false, h => by
    intro p hp
    simp [escL] at hp
  | a :: r, i, true, h => by
    intro p hp
    rw [escL] at hp
    rcases List.mem_cons.mp hp with rfl | hp
    · intro c hc
      simp only [List.mem_cons, List.not_mem_nil, or_false] at hc
      have := h a (.head _)
      lia
    · exact escL_ok r (i + 1) false (fun c hc => h c (.tail _ hc)) p hp
  | a :: r, i, false, h => by
    intro p hp
    rw [escL] at hp
    split at hp
    · exact escL_ok r (i + 1) true (fun c hc => h c (.tail _ hc)) p hp
    · rcases List.mem_cons.mp hp with rfl | hp
      · intro c hc
        simp only [List.mem_cons, List.not_mem_nil, or_false] at hc
        have := h a (.head _)
        lia
      · exact escL_ok r (i + 1) false (fun c hc => h c (.tail _ hc)) p hp
theorem unit_len5 (k w : Nat) : (unitL k w).length ≤ 5 := by
  unfold unitL
  split
  · simp
  · split <;> simp
theorem flatU_len (ks : List Nat) (w : Nat → Nat) : (flatU ks w).length ≤ 5 * ks.length := by
  induction ks with
  | nil => simp [flatU, unitsN]
  | cons k r ih =>
    have := unit_len5 k (w k)
    rw [flatU_cons, List.length_append, List.length_cons]
    lia
end

-- text X5
section


theorem law_ok {C : Cx} (P : Pg C) (ns : List Int) (hns : ns.length ≤ 1000) : ∃ pn w I J one two, LawOk C ns pn w I J one two := by
  obtain ⟨pn, w, hcurve, hcount, hw⟩ := curve4 (scriptX ns)
  obtain ⟨I, J, hT⟩ := cut_twice (w := w) hcount
  have hpn := pn_lt hcount
  have h8 := count_len pn hcount
  have hcutm : ∀ k ∈ cutN pn w, k ∈ pn ∧ w k ≠ 0 := fun k hk => by
    unfold cutN at hk
    obtain ⟨h1, h2⟩ := List.mem_filter.mp hk
    exact ⟨h1, by simpa using h2⟩
  have hcut4 : ∀ k ∈ cutN pn w, k < 4 := fun k hk => hpn k (hcutm k hk).1
  have hway : ∀ k, w k ≠ 0 → w k = 1 ∨ w k = 2 := fun k h => by have := hw k; lia
  have hcutw : ∀ k ∈ cutN pn w, k < 4 ∧ (w k = 1 ∨ w k = 2) := fun k hk => ⟨hcut4 k hk, hway k (hcutm k hk).2⟩
  have hcl : (cutN pn w).length ≤ 8 := by rw [← h8]; exact List.length_filter_le _ _
  have hl1 : (textN pn w).length ≤ 42 := by
    have := flatU_len pn w
    rw [textN_eq, List.length_append]
    simp only [List.length_cons, List.length_nil]
    lia
  have hl2 : (textN (cutN pn w) w).length ≤ 42 := by
    have := flatU_len (cutN pn w) w
    rw [textN_eq, List.length_append]
    simp only [List.length_cons, List.length_nil]
    lia
  have hl3 : 2 ≤ (textN (cutN pn w) w).length := by rw [textN_eq, List.length_append]; simp
  have V : Cv (cutN pn w) (liveN w) I J := by
    refine ⟨List.Pairwise.filter _ List.nodup_range, fun q hq => ?_, fun q hq => ?_, fun k hk => (hT k hk).nat⟩
    · unfold liveN
      exact List.mem_filter.mpr ⟨List.mem_range.mpr (hcut4 q hq), by simpa using (hcutm q hq).2⟩
    · unfold cutN
      rw [List.count_filter (by simpa using live0 q hq), hcount, if_pos (live4 q hq)]
  have hd := text_chars (w := w) hcut4
  have hlast : (textN (cutN pn w) w).getLastD 0 = 92 := by rw [textN_eq]; simp
  have hhead : (textN (cutN pn w) w).headD 0 ≠ 45 := by
    cases hh : textN (cutN pn w) w with
    | nil => simp
    | cons a r => exact (hd a (by rw [hh]; exact .head _)).1
  refine ⟨pn, w, I, J, oneB (cutN pn w) I J, twoB (cutN pn w) I J, ?_⟩
  exact {
    hns := hns
    hcurve := hcurve
    hpn := hpn
    hpl := by lia
    hw := hw
    hstrip := strip_text w hpn
    htl := by lia
    hll := by lia
    has := ascii_of fun c hc => (text_chars hpn c hc).2.2
    has2 := ascii_of fun c hc => (hd c hc).2.2
    hdue := due_text hcut4 fun k hk => (hcutm k hk).2
    hso := fun p hp => by
      have := escL_ok _ 0 false (fun c hc => (hd c hc).2.2) p hp
      unfold PyData.strOk
      rw [Array.all_eq_true_iff_forall_mem]
      intro c hc
      have := this c (by simpa using hc)
      simp only [decide_eq_true_eq]
      lia
    hm := fun m => ell_plain P fun h => (text_chars hpn 46 h).2.1 rfl
    hT := pairs_true P hd (by lia) hl3
    hN := pairs_false P hd (by lia) hl3 (by rw [hlast]; decide) hhead
    hTw := hT
    h1 := fun m k hk q hq _ => one_call P V hcutw (by lia) m hk (live4 q hq) (hway q (live0 q hq))
    h2 := fun m k hk q hq _ => two_call P V hcutw (by lia) m hk (live4 q hq) (hway q (live0 q hq))
    hcross := cross_iff V hw
    hq := fun m => partings_quiet P V hT hw (live_le w) live4 (by lia) m }
theorem law_true {C : Cx} {n : Nat} (P : Pg C) (ns : List Int) (hns : ns.length ≤ 1000) : FnD C (n + 6) 17 [L ns] (.bool true) := by
  obtain ⟨pn, w, I, J, one, two, H⟩ := law_ok P ns hns
  exact law_fnd P H
end

-- text Y1
section


/-! the join: from the head's facts to the program's -/
theorem wellAll_ints {P : Params} {h : Heap} : ∀ (ns : List Int) (vs : List Value), WellAll P h vs (ofPys (ns.map PyData.int)) → RepAllN (fun _ => True) h (ns.map PyData.int) vs
  | [], vs, w => by cases w; exact .nil
  | n :: r, vs, w => by
    cases w with
    | cons h1 h2 =>
      cases h1
      exact .cons .int (wellAll_ints r _ h2)
theorem well_ints {P : Params} {h : Heap} {a : Addr} {ns : List Int} (w : Well P h (.ref a) (ofPy (PyData.list (ns.map PyData.int)))) : RepN (fun _ => True) h (L ns) (.ref a) := by
  cases w with
  | list hg hw => exact .list trivial ⟨_, hg⟩ (wellAll_ints ns _ hw)
theorem fn_of {p : Program} {loose : List Str} {mean : ExcName → Option Value} {mg mb : Str → Option Value} {h : Heap} (T : Top p loose mean mg mb h) (prog : Program) (w : World) {d : DefRec} (hd : d ∈ recsOf p) :
    ∃ a, Fn ⟨prog, w, h, mg, mb⟩ d.name a d.params d.body d.scope := by
  obtain ⟨a, o, pm, cd, doc, h1, h2, h3, h4⟩ := T.fn d hd
  exact ⟨a, h1, o, pm, cd, doc, h2, h3, h4⟩
theorem const_of {p : Program} {loose : List Str} {mean : ExcName → Option Value} {mg mb : Str → Option Value} {h : Heap} (T : Top p loose mean mg mb h) {x : Str} {d : PyData} (hv : valOf p x = some d) : ∃ v, mg x = some v ∧ Reads h v d [] := by
  obtain ⟨v, h1, h2⟩ := T.const x d hv
  exact ⟨v, h1, h2 h⟩
def consIt (x : Str) : PyData := if x = "ELLIPSIS_MARKER" then .str "..." else if x = "_MAX_STRING_SIZE" then .int 40 else if x = "_MOVE_COST" then .int 2 else .int 1
theorem pg_of {p : Program} {loose : List Str} {mean : ExcName → Option Value} {mg mb : Str → Option Value} {h : Heap} (T : Top p loose mean mg mb h) (prog : Program) (w : World)
    (c1 : valOf p "ELLIPSIS_MARKER" = some (.str "...")) (c2 : valOf p "_MAX_STRING_SIZE" = some (.int 40)) (c3 : valOf p "_MOVE_COST" = some (.int 2)) (c4 : valOf p "_CASE_COST" = some (.int 1))
    (hf : ∀ i ∈ [2, 4, 5, 10, 11, 13, 14, 15, 16], ∃ ps, (⟨fnN (topS i), fnP (topS i), fnB (topS i), fnS (topS i), ps⟩ : DefRec) ∈ recsOf p)
    (hno : (bltNames.all fun f => !startupNames.contains f && !loose.contains f && !((recsOf p).map (·.name)).contains f && !((litsOf p).map (·.1)).contains f && !((clssOf p loose).map (·.name)).contains f) = true) :
    Pg ⟨prog, w, h, mg, mb⟩ where
  B := ⟨⟨T.nolimit, T.g, T.b, T.builtins⟩, fun f hf => by
    have := List.all_eq_true.mp hno f hf
    simp only [Bool.and_eq_true, Bool.not_eq_true', List.contains_eq_mem, decide_eq_false_iff_not] at this
    exact T.free f this.1.1.1.1 this.1.1.1.2 this.1.1.2 this.1.2 this.2⟩
  el := by obtain ⟨v, h1, h2⟩ := const_of T c1; cases h2; exact ⟨_, h1⟩
  mx := by obtain ⟨v, h1, h2⟩ := const_of T c2; cases h2; exact ⟨_, h1⟩
  mv := by obtain ⟨v, h1, h2⟩ := const_of T c3; cases h2; exact ⟨_, h1⟩
  cs := by obtain ⟨v, h1, h2⟩ := const_of T c4; cases h2; exact ⟨_, h1⟩
  fn := fun i hi => by obtain ⟨ps, hm⟩ := hf i hi; exact fn_of T prog w hm
theorem callerOk : AOk 6 callerA := ⟨rfl, by decide +kernel, by decide +kernel⟩
/-- the law's call, from a place that the program's facts hold at -/
theorem call_law {prog : Program} {w : World} {s : Shared} {mg mb : Str → Option Value} (P : Pg ⟨prog, w, s.heap, mg, mb⟩) {fa : Addr} (F : Fn ⟨prog, w, s.heap, mg, mb⟩ (fnN (topS 17)) fa (fnP (topS 17)) (fnB (topS 17)) (fnS (topS 17)))
    (hg : s.gens = #[]) {l : Addr} {ns : List Int} (hr : RepN (fun _ => True) s.heap (L ns) (.ref l)) (hn : ns.length ≤ 1000) {Q E : Value → Shared → Prop} (hQ : ∀ s', Kp s s' → Q (.bool true) s') :
    wpAny (model prog w) callerA (call (.ref fa) [.ref l] []) Q E s := by
  have h := ((law_true (n := 0) P ns hn) fa F).run callerA (fun _ => True) s [.ref l] callerOk (fun _ _ q => q) (.of_eq hg) (fun _ _ => trivial) (.cons hr .nil)
  refine wpAny_mono h (fun v s' q => ?_) fun v s' q => q.elim
  obtain ⟨q1, q2⟩ := q
  rw [q1.bool_inv]
  exact hQ s' q2
end

end Mine
-- the join
set_option maxRecDepth 100000
set_option maxHeartbeats 8000000
namespace Mine
open PySem PySem.W PyProof.Rows
/-- the text without its rows that say a module's name -/
def view : Program := { PySem.Challenge.pw_rw0055_01 with main := { PySem.Challenge.pw_rw0055_01.main with body := [topS 1, topS 2, topS 4, topS 5, topS 7, topS 8, topS 9, topS 10, topS 11, topS 13, topS 14, topS 15, topS 16, topS 17] } }
abbrev rowW : RowW := (PySem.Challenge.rw_rw0055_01.row).toRowW
theorem said : PySem.Challenge.rw_rw0055_01.wellSaid = true := by
  unfold OpenLaw.wellSaid OpenRow.wellSaid OpenRow.partSaid looksOpen
  repeat' with_reducible refine look_both ?_ ?_
  all_goals decide +kernel
theorem top_left : LeftO (OpenLaw.prog PySem.Challenge.rw_rw0055_01) view [] (fun s => xlAt view [] s && recOk (RowW.records rowW) s) (Hook.obs Hook.none) (Hook.val Hook.none) 910 true := by
  intro w
  kernel_rfl
theorem c1 : valOf view "ELLIPSIS_MARKER" = some (.str "...") := by kernel_rfl
theorem c2 : valOf view "_MAX_STRING_SIZE" = some (.int 40) := by kernel_rfl
theorem c3 : valOf view "_MOVE_COST" = some (.int 2) := by kernel_rfl
theorem c4 : valOf view "_CASE_COST" = some (.int 1) := by kernel_rfl
theorem c5 : (bltNames.all fun f => !startupNames.contains f && !(looseW view []).contains f && !((recsOf view).map (·.name)).contains f && !((litsOf view).map (·.1)).contains f && !((clssOf view (looseW view [])).map (·.name)).contains f) = true := by kernel_rfl
def fnPos : Stmt → Pos
  | .FunctionDef _ _ _ _ _ _ _ _ _ p => p
  | _ => ⟨0, 0, 0, 0⟩
theorem m2 : (⟨fnN (topS 2), fnP (topS 2), fnB (topS 2), fnS (topS 2), fnPos (topS 2)⟩ : DefRec) ∈ recsOf view := List.mem_of_getElem? (i := 0) (by kernel_rfl)
theorem m4 : (⟨fnN (topS 4), fnP (topS 4), fnB (topS 4), fnS (topS 4), fnPos (topS 4)⟩ : DefRec) ∈ recsOf view := List.mem_of_getElem? (i := 1) (by kernel_rfl)
theorem m5 : (⟨fnN (topS 5), fnP (topS 5), fnB (topS 5), fnS (topS 5), fnPos (topS 5)⟩ : DefRec) ∈ recsOf view := List.mem_of_getElem? (i := 2) (by kernel_rfl)
theorem m10 : (⟨fnN (topS 10), fnP (topS 10), fnB (topS 10), fnS (topS 10), fnPos (topS 10)⟩ : DefRec) ∈ recsOf view := List.mem_of_getElem? (i := 3) (by kernel_rfl)
theorem m11 : (⟨fnN (topS 11), fnP (topS 11), fnB (topS 11), fnS (topS 11), fnPos (topS 11)⟩ : DefRec) ∈ recsOf view := List.mem_of_getElem? (i := 4) (by kernel_rfl)
theorem m13 : (⟨fnN (topS 13), fnP (topS 13), fnB (topS 13), fnS (topS 13), fnPos (topS 13)⟩ : DefRec) ∈ recsOf view := List.mem_of_getElem? (i := 5) (by kernel_rfl)
theorem m14 : (⟨fnN (topS 14), fnP (topS 14), fnB (topS 14), fnS (topS 14), fnPos (topS 14)⟩ : DefRec) ∈ recsOf view := List.mem_of_getElem? (i := 6) (by kernel_rfl)
theorem m15 : (⟨fnN (topS 15), fnP (topS 15), fnB (topS 15), fnS (topS 15), fnPos (topS 15)⟩ : DefRec) ∈ recsOf view := List.mem_of_getElem? (i := 7) (by kernel_rfl)
theorem m16 : (⟨fnN (topS 16), fnP (topS 16), fnB (topS 16), fnS (topS 16), fnPos (topS 16)⟩ : DefRec) ∈ recsOf view := List.mem_of_getElem? (i := 8) (by kernel_rfl)
theorem m17 : (⟨fnN (topS 17), fnP (topS 17), fnB (topS 17), fnS (topS 17), fnPos (topS 17)⟩ : DefRec) ∈ recsOf view := List.mem_of_getElem? (i := 9) (by kernel_rfl)

theorem mAll : ∀ i ∈ [2, 4, 5, 10, 11, 13, 14, 15, 16], ∃ ps, (⟨fnN (topS i), fnP (topS i), fnB (topS i), fnS (topS i), ps⟩ : DefRec) ∈ recsOf view := by
  intro i hi
  simp only [List.mem_cons, List.not_mem_nil, or_false] at hi
  rcases hi with rfl | rfl | rfl | rfl | rfl | rfl | rfl | rfl | rfl
  · exact ⟨_, m2⟩
  · exact ⟨_, m4⟩
  · exact ⟨_, m5⟩
  · exact ⟨_, m10⟩
  · exact ⟨_, m11⟩
  · exact ⟨_, m13⟩
  · exact ⟨_, m14⟩
  · exact ⟨_, m15⟩
  · exact ⟨_, m16⟩
theorem postT (args : List WData) : PySem.Challenge.rw_rw0055_01.row.claim.post args (WData.bool true) args = true := by
  refine postW_of (X := true) ?_ ?_ rfl
  · first | rfl | (with_unfolding_all rfl) | kernel_rfl
  · first | rfl | (with_unfolding_all rfl) | kernel_rfl
end Mine
open PySem PySem.W PyProof.Rows
theorem PySem.Challenge.cw_rw0055_01_holds : PySem.Challenge.rw_rw0055_01.Holds := by
  w_on
  refine holds_law Mine.said fun said => ?_
  refine holds_open (q := Mine.view) (loose := []) (Xt := fun s => xlAt Mine.view [] s && recOk (RowW.records Mine.rowW) s) (XP := XL Mine.view []) (Yf := Hook.obs Hook.none) (Ya := Hook.val Hook.none) (YP := Hook.says Hook.none) (N := 910) Mine.top_left (Hook.of Hook.none) (Hook.keeps Hook.none)
    (fun s e => xl_of s (Bool.and_eq_true_iff.mp e).1) XL.keeps (by rfl) (by rfl) (by rfl) (fun s e => recFacts_of (Bool.and_eq_true_iff.mp e).2) (by rfl) (by first | assumption | decide +kernel) (by decide +kernel) ⟨rfl, rfl, rfl, rfl, rfl, by decide +kernel⟩ ?hw ?hc
  case hw => w_witness2
  intro w s₀ s₁ mg mb G Y fa o pm cd doc dV kV ho hdat hcd hD hmg hg args vals as hpre hlay hrd hwl hlo
  have P := Mine.pg_of G.T PySem.Challenge.rw_rw0055_01.row.prog w Mine.c1 Mine.c2 Mine.c3 Mine.c4 Mine.mAll Mine.c5
  obtain ⟨a, F⟩ := Mine.fn_of G.T PySem.Challenge.rw_rw0055_01.row.prog w Mine.m17
  have hfa : a = fa := by
    have h1 := F.g
    have h2 := hmg
    have h3 := h1.symm.trans h2
    exact Value.ref.inj (Option.some.inj h3)
  subst hfa
  wrow_args hpre hlay hrd hwl hlo
  rename Well _ _ _ _ => hW
  refine Mine.call_law P F hg (Mine.well_ints hW) (by omega) ?_
  intro s' kp
  exact ⟨.inl ⟨.bool true, .bool true, [], rfl, fun _ => rfl, .bool true, Mine.postT _, fun _ => ⟨List.nodup_nil, fun _ h => absurd h List.not_mem_nil⟩⟩, .of_keep kp.heap, kp.os, kp.bare (.of_eq hg)⟩
