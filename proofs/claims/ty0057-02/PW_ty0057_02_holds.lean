import PyProof.Rows.All
import Wide.All
import OpenK.AllK
import Wide.FinOn
import KE.BitLaws
import KE.KEqSeq
import KE.KMulAny
import KE.LcSums
import KE.KxSplit
import KE.KSlice
import KE.KCallOwn
import KE.KSuper
import KE.KFromBytes
import KE.KNestM
import KE.KWords
import PyProof.StrLawsTight
import Lean
import PySem.Challenge.RW_ty0057_02
set_option Elab.async false
set_option maxRecDepth 100000
set_option linter.unusedVariables false
set_option genSizeOf false
section -- Hd02
open PySem PySem.W PyProof.Rows
set_option Elab.async false
set_option maxRecDepth 100000
set_option linter.unusedVariables false
namespace Mine
/-! the written part of the heap, as the kit's own head writes it out -/
noncomputable def Hole (_ : Params → Frag) : Prop := True
theorem capK {K : Params → Frag} {G : Prop} (_ : Hole K) (h : G) : G := h
noncomputable def pick (K : Params → Frag) (_ : Hole K → True) : Params → Frag := K
section
set_option maxHeartbeats 0
local macro_rules | `(tactic| o_head ($f $k $a $e)) => `(tactic| exact capK (K := $k) (by assumption) (by assumption))
noncomputable def KK : Params → Frag := by
  refine' pick _ ?_
  rotate_left
  intro hK
  have h : OpenRow.Holds PySem.Challenge.rw_ty0057_02.row → OpenRow.Holds PySem.Challenge.rw_ty0057_02.row := by
    intro H
    k_head
  trivial
end
end Mine
end
section -- all walks
local macro_rules
  | `(tactic| omega) => `(tactic| first
    | (with_reducible refine Nat.le_trans ?_ (by assumption)); (with_reducible exact Nat.le_of_ble_eq_true rfl)
    | (with_reducible refine Nat.le_trans ?_ (Nat.le_of_eq (Eq.symm (by assumption)))); (with_reducible refine Nat.le_trans ?_ (by assumption)); (with_reducible exact Nat.le_of_ble_eq_true rfl)
    | (with_reducible refine Nat.le_of_succ_le_succ (Nat.le_trans ?_ (Nat.le_of_eq (Eq.symm (by assumption))))); (with_reducible refine Nat.le_trans ?_ (by assumption)); (with_reducible exact Nat.le_of_ble_eq_true rfl)
    | lia
    | omega (config := {}))
section -- B1
open PySem PySem.W PySem.Calls PyProof.Rows
set_option Elab.async false
set_option maxRecDepth 100000
namespace Mine

/-! values, objects, frames, ledgers: without tokens -/
inductive AV where
  | none | bool (b : Bool) | int (i : Int) | str (x : Str) | ref (a : Addr) | type (n : String) | builtin (id : String)
noncomputable def AV.is : AV → Value → Prop
  | .none, v => v = .none
  | .bool b, v => v = .bool b
  | .int i, v => ∃ t, v = .int i t
  | .str x, v => ∃ t, v = .str x t
  | .ref a, v => v = .ref a
  | .type n, v => v = .type n
  | .builtin i, v => v = .builtin i
inductive All2 {α β : Type} (R : α → β → Prop) : List α → List β → Prop
  | nil : All2 R [] []
  | cons {a b l m} : R a b → All2 R l m → All2 R (a :: l) (b :: m)
noncomputable abbrev Frame := List (Str × Option AV)
noncomputable def mOk (ρ : Frame) (m : Str → Option Value) : Prop :=
  ∀ x, match ρ.lookup x with
    | some (some a) => ∃ v, m x = some v ∧ a.is v
    | _ => m x = none
inductive AObj where
  | list (xs : List AV)
  | tuple (xs : List AV)
  | inst (C d : Addr)
  | acc (C d : Addr) (xs : List AV)
  | dict (es : List (Str × AV))
  | cell (v : Option AV)
  | table
  | range (a b c : Int)
  | slice (a b c : AV)
  | raw (o : Obj)
  | pred (p : Obj → Prop)
noncomputable def entryIs (p : Params) (e : Str × AV) (d : DictEntry) : Prop := d.hash = PyData.keyHash p e.1 ∧ (∃ t, d.key = .str e.1 t) ∧ e.2.is d.val
noncomputable def AObj.is (p : Params) : AObj → Obj → Prop
  | .list xs, o => ∃ vs n, o = { cls := .type "list", data := .seq ⟨vs⟩ n } ∧ All2 AV.is xs vs
  | .tuple xs, o => ∃ vs n, o = { cls := .type "tuple", data := .seq ⟨vs⟩ n } ∧ All2 AV.is xs vs
  | .inst C d, o => o = { cls := .ref C, dict := some d, data := .plain }
  | .acc C d xs, o => ∃ vs n, o = { cls := .ref C, dict := some d, data := .seq ⟨vs⟩ n } ∧ All2 AV.is xs vs
  | .dict es, o => ∃ ds n, o = { cls := .type "dict", data := .dict ⟨ds⟩ n } ∧ All2 (entryIs p) es ds
  | .cell none, o => o.data = .cell none
  | .cell (some a), o => ∃ v, o.data = .cell (some v) ∧ a.is v
  | .table, o => ∃ ps, o = tableObj' ps ∧ TriplesOk ps.toList
  | .range a b c, o => ∃ t u v, o = { cls := .type "range", data := .fields #[.int a t, .int b u, .int c v] }
  | .slice a b c, o => ∃ va vb vc, o = { cls := .type "slice", data := .fields #[va, vb, vc] } ∧ a.is va ∧ b.is vb ∧ c.is vc
  | .raw o', o => o = o'
  | .pred p, o => p o
where tableObj' (ps : Array Value) : Obj := { cls := .none, data := .fields ps }
noncomputable abbrev Ledger := List (Addr × AObj)

end Mine
end
section -- B2
open PySem PySem.W PySem.Calls PyProof.Rows
set_option Elab.async false
set_option maxRecDepth 100000
set_option linter.unusedVariables false
namespace Mine

structure Ctxt (w : World) (K : Frag) (sc : Scope) where
  A : Around
  h₀ : Heap
  L : Addr
  os : OsState
  d : Nat
  env : Env
  hsc : env.scope = sc
  hkind : sc.kind = .function
  hL : env.locals = L
  hG : env.globals = mainGlobals
  hB : env.builtins = builtinsNs
  hand : A.handled = none
  X : K.In h₀
  mg : Str → Option Value
  mb : Str → Option Value
  G : h₀.Ns mainGlobals mg
  Bi : h₀.Ns builtinsNs mb
  nolim : h₀.NoLimit
  bi : ∀ x : Str, x ≠ "__name__" → mb x = bootBuiltins x
  room : A.depth + d < recursionLimit
  units : A.units + 60 * d < cLine
  bmod : ∃ bm o, mg "__builtins__" = some (.ref bm) ∧ bm ≠ builtinsNs ∧ h₀.get? bm = some o ∧ o.cls = .type "module" ∧ o.dict = some builtinsNs ∧ o.data = .plain

structure St {w : World} {K : Frag} {sc : Scope} (C : Ctxt w K sc) (ρ : Frame) (σ : Ledger) (s : Shared) : Prop where
  fr : ∃ m, Fr C.h₀ C.L s.heap m ∧ mOk ρ m
  led : ∀ p ∈ σ, (∃ o, s.heap.get? p.1 = some o ∧ p.2.is w.params o) ∧ p.1 ≠ C.L ∧ C.h₀.get? p.1 = none
  nd : (σ.map Prod.fst).Nodup
  kn : (ρ.map Prod.fst).Nodup
  os : s.os = C.os
  gens : AllBare s.gens

noncomputable def W {α β : Type} (P : Program) {w : World} {K : Frag} {sc : Scope} (R : β → α → Prop) (C : Ctxt w K sc) (ρ : Frame) (σ : Ledger) (t : Sem α) (Φ : β → Frame → Ledger → Prop) : Prop :=
  ∀ (τ : Ledger) (s : Shared) (Q : α → Shared → Prop) (E : Value → Shared → Prop), St C ρ (σ ++ τ) s →
    (∀ a b ρ' σ' s', R b a → Φ b ρ' σ' → St C ρ' (σ' ++ τ) s' → Q a s') → wpAny (model P w) C.A t Q E s

inductive PutL (a : Addr) (o o' : AObj) : Ledger → Ledger → Prop
  | head {r} : PutL a o o' ((a, o) :: r) ((a, o') :: r)
  | tail {p r r'} : PutL a o o' r r' → PutL a o o' (p :: r) (p :: r')
theorem PutL.mem {a o o' l l'} (h : PutL a o o' l l') : (a, o) ∈ l := by
  induction h with
  | head => exact .head _
  | tail _ ih => exact .tail _ ih
theorem PutL.keys {a o o' l l'} (h : PutL a o o' l l') : l'.map Prod.fst = l.map Prod.fst := by
  induction h with
  | head => rfl
  | tail _ ih => simp [ih]
theorem PutL.app {a o o' l l'} (h : PutL a o o' l l') (t : Ledger) : PutL a o o' (l ++ t) (l' ++ t) := by
  induction h with
  | head => exact .head
  | tail _ ih => exact .tail ih
theorem PutL.old {a o o' l l'} (h : PutL a o o' l l') (nd : (l.map Prod.fst).Nodup) : ∀ p ∈ l', p = (a, o') ∨ (p ∈ l ∧ p.1 ≠ a) := by
  induction h with
  | head =>
    intro p hp
    rcases List.mem_cons.mp hp with rfl | hp
    · exact .inl rfl
    · refine .inr ⟨.tail _ hp, fun e => ?_⟩
      refine (List.nodup_cons.mp nd).1 ?_
      show a ∈ _
      rw [← e]
      exact List.mem_map_of_mem (f := Prod.fst) hp
  | tail h ih =>
    rename_i q r r'
    intro p hp
    have nd' := List.nodup_cons.mp nd
    rcases List.mem_cons.mp hp with rfl | hp
    · exact .inr ⟨.head _, fun e => nd'.1 (e ▸ List.mem_map_of_mem (f := Prod.fst) h.mem)⟩
    · rcases ih nd'.2 p hp with h1 | ⟨h1, h2⟩
      · exact .inl h1
      · exact .inr ⟨.tail _ h1, h2⟩

inductive PutF (x : Str) (a : AV) : Frame → Frame → Prop
  | head {o r} : PutF x a ((x, o) :: r) ((x, some a) :: r)
  | tail {p r r'} : PutF x a r r' → PutF x a (p :: r) (p :: r')
theorem PutF.keys {x a l l'} (h : PutF x a l l') : l'.map Prod.fst = l.map Prod.fst := by
  induction h with
  | head => rfl
  | tail _ ih => simp [ih]
theorem PutF.key {x a l l'} (h : PutF x a l l') : x ∈ l.map Prod.fst := by
  induction h with
  | head => exact .head _
  | tail _ ih => exact .tail _ ih
theorem PutF.lookup {x a l l'} (h : PutF x a l l') (nd : (l.map Prod.fst).Nodup) (y : Str) : l'.lookup y = if y = x then some (some a) else l.lookup y := by
  induction h with
  | head =>
    rename_i o r
    simp only [List.lookup_cons]
    by_cases e : y = x
    · simp [e]
    · have : (y == x) = false := by simp [e]
      simp [this, e]
  | tail h ih =>
    rename_i p r r'
    obtain ⟨k, v⟩ := p
    have nd' := List.nodup_cons.mp nd
    rw [List.lookup_cons, List.lookup_cons]
    by_cases e : y = k
    · have hne : k ≠ x := fun q => nd'.1 (by rw [q]; exact h.key)
      rw [e, if_neg hne, show (k == k) = true from by simp]
    · have : (y == k) = false := by simp [e]
      rw [this, ih nd'.2]
theorem lookup_mem {x : Str} {v : Option AV} : ∀ {l : Frame}, (x, v) ∈ l → (l.map Prod.fst).Nodup → l.lookup x = some v
  | (k, u) :: r, hm, nd => by
    have nd' := List.nodup_cons.mp nd
    rw [List.lookup_cons]
    rcases List.mem_cons.mp hm with e | hm
    · cases e; simp
    · have : (x == k) = false := by
        simp only [beq_eq_false_iff_ne, ne_eq]
        intro e
        refine nd'.1 ?_
        show k ∈ _
        rw [← e]
        exact List.mem_map_of_mem (f := Prod.fst) hm
      rw [this]; exact lookup_mem hm nd'.2

section
variable {P : Program} {w : World} {K : Frag} {sc : Scope} {C : Ctxt w K sc} {ρ ρ' : Frame} {σ σ' τ : Ledger} {s : Shared} {α β γ δ : Type}

theorem St.toks (S : St C ρ σ s) (n : Nat) : St C ρ σ { s with toks := n } := ⟨S.fr, S.led, S.nd, S.kn, S.os, S.gens⟩
theorem St.ext (S : St C ρ σ s) {h' : Heap} {n : Nat} (k : ∀ b o, s.heap.get? b = some o → h'.get? b = some o) : St C ρ σ { s with heap := h', toks := n } := by
  obtain ⟨m, F, hm⟩ := S.fr
  exact ⟨⟨m, F.keeps k, hm⟩, fun p hp => let ⟨⟨o, e, i⟩, r⟩ := S.led p hp; ⟨⟨o, k _ _ e, i⟩, r⟩, S.nd, S.kn, S.os, S.gens⟩
theorem St.perm (S : St C ρ σ s) (h : σ.Perm σ') : St C ρ σ' s :=
  ⟨S.fr, fun p hp => S.led p (h.mem_iff.mpr hp), (h.map Prod.fst).nodup_iff.mp S.nd, S.kn, S.os, S.gens⟩
theorem St.drop (S : St C ρ (σ ++ σ' ++ τ) s) : St C ρ (σ ++ τ) s := by
  refine ⟨S.fr, fun p hp => S.led p ?_, ?_, S.kn, S.os, S.gens⟩
  · rcases List.mem_append.mp hp with hp | hp
    · exact List.mem_append_left _ (List.mem_append_left _ hp)
    · exact List.mem_append_right _ hp
  · have h := S.nd
    rw [List.append_assoc, List.map_append] at h
    rw [List.map_append]
    refine h.sublist (List.Sublist.append_left ?_ _)
    rw [List.map_append]
    exact List.sublist_append_right _ _
theorem St.put {a : Addr} {o o' : AObj} {ob : Obj} {h' : Heap} {n : Nat} (S : St C ρ σ s) (U : PutL a o o' σ σ') (hs : Heap.SameBut a s.heap h') (hg : h'.get? a = some ob) (hi : o'.is w.params ob) :
    St C ρ σ' { s with heap := h', toks := n } := by
  obtain ⟨m, F, hm⟩ := S.fr
  have z := S.led _ U.mem
  refine ⟨⟨m, F.change hs z.2.1 z.2.2, hm⟩, fun p hp => ?_, U.keys ▸ S.nd, S.kn, S.os, S.gens⟩
  rcases U.old S.nd p hp with rfl | ⟨h1, h2⟩
  · exact ⟨⟨ob, hg, hi⟩, z.2⟩
  · obtain ⟨⟨o1, e, i⟩, r⟩ := S.led p h1
    exact ⟨⟨o1, (hs.2 _ h2).trans e, i⟩, r⟩
theorem St.lt (S : St C ρ σ s) {p : Addr × AObj} (hp : p ∈ σ) : p.1 < s.heap.objs.size := let ⟨⟨_, e, _⟩, _⟩ := S.led p hp; Heap.lt_size e
theorem St.push {o' : AObj} {ob : Obj} {n : Nat} (S : St C ρ σ s) (hi : o'.is w.params ob) (hf : ob.isFreed = false) :
    St C ρ ((s.heap.objs.size, o') :: σ) { s with heap := s.heap.push ob, toks := n } := by
  obtain ⟨m, F, hm⟩ := S.fr
  have N : News C.h₀ C.L (s.heap.push ob) [(s.heap.objs.size, ob)] := News.push F News.nil ob hf
  have z := N _ (.head _)
  refine ⟨⟨m, F.push ob, hm⟩, fun p hp => ?_, ?_, S.kn, S.os, S.gens⟩
  · rcases List.mem_cons.mp hp with rfl | hp
    · exact ⟨⟨ob, z.1, hi⟩, z.2⟩
    · obtain ⟨⟨o1, e, i⟩, r⟩ := S.led p hp
      exact ⟨⟨o1, Heap.get?_push_of_some _ e, i⟩, r⟩
  · refine List.nodup_cons.mpr ⟨fun hm => ?_, S.nd⟩
    obtain ⟨p, hp, e⟩ := List.mem_map.mp hm
    exact absurd (S.lt hp) (by rw [e]; exact Nat.lt_irrefl _)

theorem St.XH (S : St C ρ σ s) : K.In s.heap := let ⟨_, F, _⟩ := S.fr; C.X.keeps F.keep
theorem St.get (S : St C ρ (σ ++ τ) s) {a : Addr} {o : AObj} (h : (a, o) ∈ σ) : ∃ ob, s.heap.get? a = some ob ∧ o.is w.params ob := (S.led _ (List.mem_append_left _ h)).1
theorem St.name (S : St C ρ σ s) {x : Str} {a : AV} (h : (x, some a) ∈ ρ) : ∃ m v, Fr C.h₀ C.L s.heap m ∧ m x = some v ∧ a.is v := by
  obtain ⟨m, F, hm⟩ := S.fr
  have := hm x
  rw [lookup_mem h S.kn] at this
  obtain ⟨v, h1, h2⟩ := this
  exact ⟨m, v, F, h1, h2⟩

theorem W.mono {R : β → α → Prop} {t : Sem α} {Φ Ψ : β → Frame → Ledger → Prop} (h : W P R C ρ σ t Φ) (hi : ∀ b ρ' σ', Φ b ρ' σ' → Ψ b ρ' σ') : W P R C ρ σ t Ψ :=
  fun τ s Q E S k => h τ s Q E S fun a b ρ' σ' s' r p S' => k a b ρ' σ' s' r (hi _ _ _ p) S'
theorem W.perm {R : β → α → Prop} {t : Sem α} {Φ : β → Frame → Ledger → Prop} (hp : σ.Perm σ') (h : W P R C ρ σ' t Φ) : W P R C ρ σ t Φ :=
  fun τ s Q E S k => h τ s Q E (S.perm (hp.append_right τ)) k
end

/-! the kinds of trees -/
noncomputable abbrev WV (P : Program) {w : World} {K : Frag} {sc : Scope} (C : Ctxt w K sc) (ρ : Frame) (σ : Ledger) (t : Sem Value) (Φ : AV → Frame → Ledger → Prop) : Prop := W P AV.is C ρ σ t Φ
inductive AFlow where
  | next | brk | cont | ret (a : AV)
noncomputable def AFlow.is : AFlow → Flow → Prop
  | .next, f => f = .next
  | .brk, f => f = .brk
  | .cont, f => f = .cont
  | .ret a, f => ∃ v, f = .ret v ∧ a.is v
noncomputable abbrev WF (P : Program) {w : World} {K : Frag} {sc : Scope} (C : Ctxt w K sc) (ρ : Frame) (σ : Ledger) (t : Sem Flow) (Φ : AFlow → Frame → Ledger → Prop) : Prop := W P AFlow.is C ρ σ t Φ
noncomputable abbrev WL (P : Program) {w : World} {K : Frag} {sc : Scope} (C : Ctxt w K sc) (ρ : Frame) (σ : Ledger) (t : Sem (List Value)) (Φ : List AV → Frame → Ledger → Prop) : Prop := W P (All2 AV.is) C ρ σ t Φ
noncomputable abbrev WB (P : Program) {w : World} {K : Frag} {sc : Scope} (C : Ctxt w K sc) (ρ : Frame) (σ : Ledger) (t : Sem Bool) (Φ : Bool → Frame → Ledger → Prop) : Prop := W P Eq C ρ σ t Φ
noncomputable abbrev WU (P : Program) {w : World} {K : Frag} {sc : Scope} (C : Ctxt w K sc) (ρ : Frame) (σ : Ledger) (t : Sem Unit) (Φ : Frame → Ledger → Prop) : Prop := W P (fun (_ : Unit) (_ : Unit) => True) C ρ σ t (fun _ => Φ)
end Mine
end
section -- B3
open PySem PySem.W PySem.Calls PyProof.Rows
set_option Elab.async false
set_option maxRecDepth 100000
set_option linter.unusedVariables false
namespace Mine
section
variable {P : Program} {w : World} {K : Frag} {sc : Scope} {C : Ctxt w K sc} {ρ ρ' : Frame} {σ σ' τ : Ledger}

theorem Ctxt.kind (C : Ctxt w K sc) : C.env.scope.kind = .function := by rw [C.hsc]; exact C.hkind
theorem Ctxt.kindOf (C : Ctxt w K sc) {x : Str} {k : NameKind} (h : sc.names.lookup x = some k) : C.env.kindOf x = some k := by
  unfold Env.kindOf; rw [C.hsc]; exact h

/-! names -/
theorem ev_loc {x : Str} {pos : Pos} {a : AV} {Φ : AV → Frame → Ledger → Prop} (hm : (x, some a) ∈ ρ) (h : Φ a ρ σ)
    (hk : sc.names.lookup x = some .local := by kernel_rfl) (hd : (x == ("__debug__" : Str)) = false := by kernel_rfl) : WV P C ρ σ (eval (.Name x pos) C.env) Φ := by
  intro τ s Q E S k
  obtain ⟨m, v, F, h1, h2⟩ := S.name hm
  exact wpAny_Name (wpAny_loadName_local C.kind (C.kindOf hk) (by rw [C.hL]; exact F.ns) h1 (k v a ρ σ s h2 h S)) hd
theorem ev_glob {x : Str} {pos : Pos} {v : Value} {Φ : AV → Frame → Ledger → Prop} (a : AV) (e : nsIn K mainGlobals x = some (some v)) (ha : a.is v) (h : Φ a ρ σ)
    (hk : sc.names.lookup x = some .globalImplicit := by kernel_rfl) (hd : (x == ("__debug__" : Str)) = false := by kernel_rfl) : WV P C ρ σ (eval (.Name x pos) C.env) Φ := by
  intro τ s Q E S k
  obtain ⟨m, F, _⟩ := S.fr
  exact Name_function_global C.kind (C.kindOf hk) (loadGlobal_global (by rw [C.hG]; exact C.G.keeps F.keep) (mg_of C.X C.G e) (k v a ρ σ s ha h S)) hd
theorem ev_bi {x : Str} {pos : Pos} {v : Value} {Φ : AV → Frame → Ledger → Prop} (a : AV) (e : nsIn K mainGlobals x = some none) (hv : bootBuiltins x = some v) (hn : x ≠ "__name__") (ha : a.is v) (h : Φ a ρ σ)
    (hk : sc.names.lookup x = some .globalImplicit := by kernel_rfl) (hd : (x == ("__debug__" : Str)) = false := by kernel_rfl) : WV P C ρ σ (eval (.Name x pos) C.env) Φ := by
  intro τ s Q E S k
  obtain ⟨m, F, _⟩ := S.fr
  exact Name_function_global C.kind (C.kindOf hk) (loadGlobal_builtin (by rw [C.hG]; exact C.G.keeps F.keep) (mg_none_of C.X C.G e) (by rw [C.hB]; exact C.Bi.keeps F.keep) ((C.bi x hn).trans hv) (k v a ρ σ s ha h S)) hd
theorem ev_cell {x : Str} {pos : Pos} {c : Addr} {a : AV} {Φ : AV → Frame → Ledger → Prop} (hc : C.env.cells.lookup x = some c) (hm : (c, .cell (some a)) ∈ σ) (h : Φ a ρ σ)
    (hk : sc.names.lookup x = some .cell := by kernel_rfl) (hd : (x == ("__debug__" : Str)) = false := by kernel_rfl) : WV P C ρ σ (eval (.Name x pos) C.env) Φ := by
  intro τ s Q E S k
  obtain ⟨ob, hg, v, hv, ha⟩ := S.get hm
  exact wpAny_Name (wpAny_loadName_cell C.kind (C.kindOf hk) hc ⟨ob, hg, hv⟩ (k v a ρ σ s ha h S)) hd

/-! stores -/
theorem mOk_put {x : Str} {a : AV} {v : Value} {m : Str → Option Value} (U : PutF x a ρ ρ') (nd : (ρ.map Prod.fst).Nodup) (hm : mOk ρ m) (ha : a.is v) : mOk ρ' (fun y => if y = x then some v else m y) := by
  intro y
  rw [U.lookup nd]
  by_cases e : y = x
  · simp [e]; exact ha
  · simp only [if_neg e]; exact hm y
theorem st_loc {x : Str} {a : AV} {v : Value} {Φ : Frame → Ledger → Prop} (U : PutF x a ρ ρ') (ha : a.is v) (h : Φ ρ' σ)
    (hk : sc.names.lookup x = some .local := by kernel_rfl) : WU P C ρ σ (storeName C.env x v) Φ := by
  intro τ s Q E S k
  obtain ⟨m, F, hm⟩ := S.fr
  refine wpAny_storeName_local (C.kindOf hk) (by rw [C.hL]; exact F.ns) (fun h' hn hs => ?_) (by rw [C.kind]; rfl)
  rw [C.hL] at hn hs
  refine k () () ρ' σ _ trivial h ⟨⟨_, F.set hn hs, mOk_put U S.kn hm ha⟩, fun p hp => ?_, S.nd, U.keys ▸ S.kn, S.os, S.gens⟩
  obtain ⟨⟨o1, e, i⟩, r⟩ := S.led p hp
  exact ⟨⟨o1, (hs.2 _ r.1).trans e, i⟩, r⟩
theorem st_cell {x : Str} {c : Addr} {a : AV} {v : Value} {o : Option AV} {Φ : Frame → Ledger → Prop} (hc : C.env.cells.lookup x = some c) (U : PutL c (.cell o) (.cell (some a)) σ σ') (ha : a.is v) (h : Φ ρ σ')
    (hk : sc.names.lookup x = some .cell := by kernel_rfl) : WU P C ρ σ (storeName C.env x v) Φ := by
  intro τ s Q E S k
  obtain ⟨ob, hg, hi⟩ := S.get U.mem
  have hcell : ∃ v₀, s.heap.IsCell c v₀ := by
    cases o with
    | none => exact ⟨_, ob, hg, hi⟩
    | some a' => obtain ⟨v', hd, _⟩ := hi; exact ⟨_, ob, hg, hd⟩
  obtain ⟨v₀, hcell⟩ := hcell
  refine wpAny_storeName_cell C.kind (C.kindOf hk) hc hcell fun h' hv hs => ?_
  obtain ⟨o', ho', hd'⟩ := hv
  exact k () () ρ σ' _ trivial h (S.put (U.app τ) hs ho' ⟨v, hd', ha⟩)

/-! constants -/
theorem ev_int {i : Int} {kk : Nat} {pos : Pos} {Φ : AV → Frame → Ledger → Prop} (h : Φ (.int i) ρ σ) : WV P C ρ σ (eval (.Constant (.int i) kk pos) C.env) Φ :=
  fun τ s Q E S k => wpAny_Constant_int (k _ (.int i) ρ σ _ ⟨_, rfl⟩ h (S.toks _))
theorem ev_str {x : Str} {kk : Nat} {pos : Pos} {Φ : AV → Frame → Ledger → Prop} (h : Φ (.str x) ρ σ) : WV P C ρ σ (eval (.Constant (.str x) kk pos) C.env) Φ :=
  fun τ s Q E S k => Calls.Constant_str (k _ (.str x) ρ σ _ ⟨_, rfl⟩ h (S.toks _))
theorem ev_bool {b : Bool} {kk : Nat} {pos : Pos} {Φ : AV → Frame → Ledger → Prop} (h : Φ (.bool b) ρ σ) : WV P C ρ σ (eval (.Constant (.bool b) kk pos) C.env) Φ :=
  fun τ s Q E S k => Constant_bool (k _ (.bool b) ρ σ _ rfl h S)
theorem ev_none {kk : Nat} {pos : Pos} {Φ : AV → Frame → Ledger → Prop} (h : Φ .none ρ σ) : WV P C ρ σ (eval (.Constant .none kk pos) C.env) Φ :=
  fun τ s Q E S k => wpAny_Constant_none (k _ .none ρ σ _ rfl h S)

/-! operators -/
noncomputable abbrev OpV (P : Program) {w : World} {K : Frag} {sc : Scope} (C : Ctxt w K sc) (ρ : Frame) (σ : Ledger) (f : Value → Value → Sem Value) (a b : AV) (Φ : AV → Frame → Ledger → Prop) : Prop :=
  ∀ va vb, a.is va → b.is vb → WV P C ρ σ (f va vb) Φ
theorem ev_bin {l r : Expr} {op : Operator} {pos : Pos} {Φ : AV → Frame → Ledger → Prop}
    (h : WV P C ρ σ (eval l C.env) fun a ρ1 σ1 => WV P C ρ1 σ1 (eval r C.env) fun b ρ2 σ2 => OpV P C ρ2 σ2 (binaryOp op) a b Φ) : WV P C ρ σ (eval (.BinOp l op r pos) C.env) Φ :=
  fun τ s Q E S k => wpAny_BinOp (h τ s _ E S fun va a ρ1 σ1 s1 ra p1 S1 => p1 τ s1 _ E S1 fun vb b ρ2 σ2 s2 rb p2 S2 => p2 va vb ra rb τ s2 Q E S2 k)
theorem ev_cmp {l r : Expr} {op : CmpOp} {pos : Pos} {Φ : AV → Frame → Ledger → Prop}
    (h : WV P C ρ σ (eval l C.env) fun a ρ1 σ1 => WV P C ρ1 σ1 (eval r C.env) fun b ρ2 σ2 => OpV P C ρ2 σ2 (compareOp op) a b Φ) (hm : behindInMarks op r = false := by with_unfolding_all rfl) :
    WV P C ρ σ (eval (.Compare l [op] [r] pos) C.env) Φ :=
  fun τ s Q E S k => wpAny_Compare1 (h τ s _ E S fun va a ρ1 σ1 s1 ra p1 S1 => p1 τ s1 _ E S1 fun vb b ρ2 σ2 s2 rb p2 S2 => p2 va vb ra rb τ s2 Q E S2 k) hm
noncomputable def BoolK (Φ : Bool → Frame → Ledger → Prop) : AV → Frame → Ledger → Prop
  | .bool b, ρ, σ => Φ b ρ σ
  | _, _, _ => False
theorem tst_cmp {l r : Expr} {op : CmpOp} {pos : Pos} {whole : Sem Value} {Φ : Bool → Frame → Ledger → Prop}
    (h : WV P C ρ σ (eval l C.env) fun a ρ1 σ1 => WV P C ρ1 σ1 (eval r C.env) fun b ρ2 σ2 => OpV P C ρ2 σ2 (compareOp op) a b (BoolK Φ)) (hm : behindInMarks op r = false := by with_unfolding_all rfl) :
    WB P C ρ σ (isTrue (.Compare l [op] [r] pos) C.env whole) Φ :=
  fun τ s Q E S k => wpAny_isTrue_Compare1 (h τ s _ E S fun va a ρ1 σ1 s1 ra p1 S1 => p1 τ s1 _ E S1 fun vb b ρ2 σ2 s2 rb p2 S2 => p2 va vb ra rb τ s2 _ E S2
    fun vc c ρ3 σ3 s3 rc p3 S3 => by cases c <;> first | exact p3.elim | (cases rc; exact wpAny_truthy_bool (k _ _ ρ3 σ3 s3 rfl p3 S3))) hm
theorem op_add_ii {x y : Int} {Φ : AV → Frame → Ledger → Prop} (h : Φ (.int (x + y)) ρ σ) : OpV P C ρ σ (binaryOp .Add) (.int x) (.int y) Φ := by
  rintro _ _ ⟨t, rfl⟩ ⟨u, rfl⟩ τ s Q E S k
  exact add_int (k _ (.int (x + y)) ρ σ _ ⟨_, rfl⟩ h (S.toks _))
theorem op_sub_ii {x y : Int} {Φ : AV → Frame → Ledger → Prop} (h : Φ (.int (x - y)) ρ σ) : OpV P C ρ σ (binaryOp .Sub) (.int x) (.int y) Φ := by
  rintro _ _ ⟨t, rfl⟩ ⟨u, rfl⟩ τ s Q E S k
  exact sub_int (k _ (.int (x - y)) ρ σ _ ⟨_, rfl⟩ h (S.toks _))
theorem op_mul_ii {x y : Int} {Φ : AV → Frame → Ledger → Prop} (hm : IntMulOk x y) (h : Φ (.int (x * y)) ρ σ) : OpV P C ρ σ (binaryOp .Mult) (.int x) (.int y) Φ := by
  rintro _ _ ⟨t, rfl⟩ ⟨u, rfl⟩ τ s Q E S k
  exact mul_int (k _ (.int (x * y)) ρ σ _ ⟨_, rfl⟩ h (S.toks _)) hm
theorem op_mod_ii {x y : Int} {Φ : AV → Frame → Ledger → Prop} (hy : y ≠ 0) (h : Φ (.int (x.fmod y)) ρ σ) : OpV P C ρ σ (binaryOp .Mod) (.int x) (.int y) Φ := by
  rintro _ _ ⟨t, rfl⟩ ⟨u, rfl⟩ τ s Q E S k
  exact mod_int' hy (k _ (.int (x.fmod y)) ρ σ _ ⟨_, rfl⟩ h (S.toks _))
theorem op_fdiv_ii {x y : Int} {Φ : AV → Frame → Ledger → Prop} (hy : y ≠ 0) (hp : Builtin.divisionGoesByPylong x y = false) (h : Φ (.int (x.fdiv y)) ρ σ) : OpV P C ρ σ (binaryOp .FloorDiv) (.int x) (.int y) Φ := by
  rintro _ _ ⟨t, rfl⟩ ⟨u, rfl⟩ τ s Q E S k
  exact floordiv_int hy (k _ (.int (x.fdiv y)) ρ σ _ ⟨_, rfl⟩ h (S.toks _)) (.inl hp)
theorem op_shl_ii {x y : Int} {Φ : AV → Frame → Ledger → Prop} (hn : 0 ≤ y) (hn2 : y ≤ 1000000) (ha : x.natAbs < 2 ^ 64) (h : Φ (.int (x * 2 ^ y.toNat)) ρ σ) : OpV P C ρ σ (binaryOp .LShift) (.int x) (.int y) Φ := by
  rintro _ _ ⟨t, rfl⟩ ⟨u, rfl⟩ τ s Q E S k
  exact lshift_int_small hn hn2 ha (k _ (.int (x * 2 ^ y.toNat)) ρ σ _ ⟨_, rfl⟩ h (S.toks _))
theorem op_and_ii {x y : Int} {Φ : AV → Frame → Ledger → Prop} (h : Φ (.int (Builtin.bitAnd x y)) ρ σ) : OpV P C ρ σ (binaryOp .BitAnd) (.int x) (.int y) Φ := by
  rintro _ _ ⟨t, rfl⟩ ⟨u, rfl⟩ τ s Q E S k
  exact and_int (k _ (.int (Builtin.bitAnd x y)) ρ σ _ ⟨_, rfl⟩ h (S.toks _))
theorem iop_xor_ii {x y : Int} {Φ : AV → Frame → Ledger → Prop} (h : Φ (.int (Builtin.bitXor x y)) ρ σ) : OpV P C ρ σ (inplaceOp .BitXor) (.int x) (.int y) Φ := by
  rintro _ _ ⟨t, rfl⟩ ⟨u, rfl⟩ τ s Q E S k
  exact ixor_int (k _ (.int (Builtin.bitXor x y)) ρ σ _ ⟨_, rfl⟩ h (S.toks _))
theorem iop_add_ii {x y : Int} {Φ : AV → Frame → Ledger → Prop} (h : Φ (.int (x + y)) ρ σ) : OpV P C ρ σ (inplaceOp .Add) (.int x) (.int y) Φ := by
  rintro _ _ ⟨t, rfl⟩ ⟨u, rfl⟩ τ s Q E S k
  exact iadd_int (k _ (.int (x + y)) ρ σ _ ⟨_, rfl⟩ h (S.toks _))
theorem iop_sub_ii {x y : Int} {Φ : AV → Frame → Ledger → Prop} (h : Φ (.int (x - y)) ρ σ) : OpV P C ρ σ (inplaceOp .Sub) (.int x) (.int y) Φ := by
  rintro _ _ ⟨t, rfl⟩ ⟨u, rfl⟩ τ s Q E S k
  exact isub_int (k _ (.int (x - y)) ρ σ _ ⟨_, rfl⟩ h (S.toks _))
theorem cmp_lt_ii {x y : Int} {Φ : AV → Frame → Ledger → Prop} (h : Φ (.bool (decide (x < y))) ρ σ) : OpV P C ρ σ (compareOp .Lt) (.int x) (.int y) Φ := by
  rintro _ _ ⟨t, rfl⟩ ⟨u, rfl⟩ τ s Q E S k
  exact lt_int (k _ (.bool _) ρ σ _ rfl h S)
theorem cmp_le_ii {x y : Int} {Φ : AV → Frame → Ledger → Prop} (h : Φ (.bool (decide (x ≤ y))) ρ σ) : OpV P C ρ σ (compareOp .LtE) (.int x) (.int y) Φ := by
  rintro _ _ ⟨t, rfl⟩ ⟨u, rfl⟩ τ s Q E S k
  exact le_int (k _ (.bool _) ρ σ _ rfl h S)
theorem cmp_gt_ii {x y : Int} {Φ : AV → Frame → Ledger → Prop} (h : Φ (.bool (decide (x > y))) ρ σ) : OpV P C ρ σ (compareOp .Gt) (.int x) (.int y) Φ := by
  rintro _ _ ⟨t, rfl⟩ ⟨u, rfl⟩ τ s Q E S k
  exact gt_int (k _ (.bool _) ρ σ _ rfl h S)
theorem cmp_ge_ii {x y : Int} {Φ : AV → Frame → Ledger → Prop} (h : Φ (.bool (decide (x ≥ y))) ρ σ) : OpV P C ρ σ (compareOp .GtE) (.int x) (.int y) Φ := by
  rintro _ _ ⟨t, rfl⟩ ⟨u, rfl⟩ τ s Q E S k
  exact ge_int (k _ (.bool _) ρ σ _ rfl h S)
theorem cmp_eq_ii {x y : Int} {Φ : AV → Frame → Ledger → Prop} (h : Φ (.bool (x == y)) ρ σ) : OpV P C ρ σ (compareOp .Eq) (.int x) (.int y) Φ := by
  rintro _ _ ⟨t, rfl⟩ ⟨u, rfl⟩ τ s Q E S k
  exact eq_int (k _ (.bool _) ρ σ _ rfl h S)
theorem cmp_eq_ss {x y : Str} {Φ : AV → Frame → Ledger → Prop} (h : Φ (.bool (x == y)) ρ σ) : OpV P C ρ σ (compareOp .Eq) (.str x) (.str y) Φ := by
  rintro _ _ ⟨t, rfl⟩ ⟨u, rfl⟩ τ s Q E S k
  exact eq_str (k _ (.bool _) ρ σ _ rfl h S)
theorem cmp_ne_ss {x y : Str} {Φ : AV → Frame → Ledger → Prop} (h : Φ (.bool (x != y)) ρ σ) : OpV P C ρ σ (compareOp .NotEq) (.str x) (.str y) Φ := by
  rintro _ _ ⟨t, rfl⟩ ⟨u, rfl⟩ τ s Q E S k
  exact ne_str (k _ (.bool _) ρ σ _ rfl h S)

/-! statements -/
noncomputable abbrev SeqK (P : Program) {w : World} {K : Frag} {sc : Scope} (C : Ctxt w K sc) (rest : List Stmt) (Φ : AFlow → Frame → Ledger → Prop) : AFlow → Frame → Ledger → Prop :=
  fun f ρ σ => match f with
    | .next => WF P C ρ σ (execs rest C.env) Φ
    | f => Φ f ρ σ
theorem x_nil {Φ : AFlow → Frame → Ledger → Prop} (h : Φ .next ρ σ) : WF P C ρ σ (execs [] C.env) Φ :=
  fun τ s Q E S k => wpAny_execs_nil (k _ .next ρ σ _ rfl h S)
theorem x_cons {st : Stmt} {rest : List Stmt} {Φ : AFlow → Frame → Ledger → Prop} (h : WF P C ρ σ (exec st C.env) (SeqK P C rest Φ)) : WF P C ρ σ (execs (st :: rest) C.env) Φ :=
  fun τ s Q E S k => wpAny_execs_cons (h τ s _ E S fun f b ρ1 σ1 s1 r p S1 => by
    cases b with
    | next => cases r; exact p τ s1 Q E S1 k
    | brk => cases r; exact k _ .brk ρ1 σ1 s1 rfl p S1
    | cont => cases r; exact k _ .cont ρ1 σ1 s1 rfl p S1
    | ret a => obtain ⟨v, rfl, ha⟩ := r; exact k _ (.ret a) ρ1 σ1 s1 ⟨v, rfl, ha⟩ p S1)
theorem x_asg {x : Str} {e : Expr} {p1 pos : Pos} {Φ : AFlow → Frame → Ledger → Prop} (h : WV P C ρ σ (eval e C.env) fun a ρ1 σ1 => ∀ v, a.is v → WU P C ρ1 σ1 (storeName C.env x v) fun ρ2 σ2 => Φ .next ρ2 σ2)
    (hs : swapsWith e (some (.Name x p1)) pos.line C.env = pure false := by rfl) : WF P C ρ σ (exec (.Assign [.Name x p1] e pos) C.env) Φ :=
  fun τ s Q E S k => wpAny_Assign_Name (h τ s _ E S fun v a ρ1 σ1 s1 r p S1 => p v r τ s1 _ E S1 fun _ _ ρ2 σ2 s2 _ p2 S2 => k _ .next ρ2 σ2 s2 rfl p2 S2) hs
theorem x_asgL {x : Str} {e : Expr} {p1 pos : Pos} {Φ : AFlow → Frame → Ledger → Prop} (h : WV P C ρ σ (eval e C.env) fun a ρ1 σ1 => ∃ ρ2, PutF x a ρ1 ρ2 ∧ Φ .next ρ2 σ1)
    (hk : sc.names.lookup x = some .local := by kernel_rfl) (hs : swapsWith e (some (.Name x p1)) pos.line C.env = pure false := by rfl) : WF P C ρ σ (exec (.Assign [.Name x p1] e pos) C.env) Φ :=
  x_asg (h.mono fun a ρ1 σ1 ⟨ρ2, U, p⟩ v hv => st_loc U hv p hk) hs
theorem x_augL {x : Str} {e : Expr} {op : Operator} {p1 pos : Pos} {a : AV} {Φ : AFlow → Frame → Ledger → Prop} (hm : (x, some a) ∈ ρ)
    (h : WV P C ρ σ (eval e C.env) fun b ρ1 σ1 => OpV P C ρ1 σ1 (inplaceOp op) a b fun c ρ2 σ2 => ∃ ρ3, PutF x c ρ2 ρ3 ∧ Φ .next ρ3 σ2)
    (hk : sc.names.lookup x = some .local := by kernel_rfl) : WF P C ρ σ (exec (.AugAssign (.Name x p1) op e pos) C.env) Φ := by
  intro τ s Q E S k
  obtain ⟨m, v, F, h1, h2⟩ := S.name hm
  refine wpAny_AugAssign_Name (wpAny_loadName_local C.kind (C.kindOf hk) (by rw [C.hL]; exact F.ns) h1 ?_)
  refine h τ s _ E S fun vb b ρ1 σ1 s1 rb p1 S1 => p1 v vb h2 rb τ s1 _ E S1 fun vc c ρ2 σ2 s2 rc p2 S2 => ?_
  obtain ⟨ρ3, U, p3⟩ := p2
  exact st_loc (P := P) U rc p3 hk τ s2 _ E S2 fun _ _ ρ4 σ4 s4 _ p4 S4 => k _ .next ρ4 σ4 s4 rfl p4 S4
theorem x_if {test : Expr} {body orelse : List Stmt} {pos : Pos} {Φ : AFlow → Frame → Ledger → Prop}
    (h : WB P C ρ σ (isTrue test C.env (eval test C.env)) fun b ρ1 σ1 => (b = true → WF P C ρ1 σ1 (execs body C.env) Φ) ∧ (b = false → WF P C ρ1 σ1 (execs orelse C.env) Φ)) : WF P C ρ σ (exec (.If test body orelse pos) C.env) Φ :=
  fun τ s Q E S k => wpAny_If (h τ s _ E S fun b b' ρ1 σ1 s1 r p S1 => by
    cases r
    cases b
    · exact p.2 rfl τ s1 Q E S1 k
    · exact p.1 rfl τ s1 Q E S1 k)
theorem x_ret {e : Expr} {pos : Pos} {Φ : AFlow → Frame → Ledger → Prop} (h : WV P C ρ σ (eval e C.env) fun a ρ1 σ1 => Φ (.ret a) ρ1 σ1) : WF P C ρ σ (exec (.Return (some e) pos) C.env) Φ :=
  fun τ s Q E S k => wpAny_Return_some (h τ s _ E S fun v a ρ1 σ1 s1 r p S1 => k _ (.ret a) ρ1 σ1 s1 ⟨v, rfl, r⟩ p S1)
theorem x_ret0 {pos : Pos} {Φ : AFlow → Frame → Ledger → Prop} (h : Φ (.ret .none) ρ σ) : WF P C ρ σ (exec (.Return none pos) C.env) Φ :=
  fun τ s Q E S k => wpAny_Return_none (k _ (.ret .none) ρ σ s ⟨_, rfl, rfl⟩ h S)
theorem x_brk {pos : Pos} {Φ : AFlow → Frame → Ledger → Prop} (h : Φ .brk ρ σ) : WF P C ρ σ (exec (.Break pos) C.env) Φ :=
  fun τ s Q E S k => wpAny_Break (k _ .brk ρ σ s rfl h S)
theorem x_expr {e : Expr} {pos : Pos} {Φ : AFlow → Frame → Ledger → Prop} (h : WV P C ρ σ (eval e C.env) fun a ρ1 σ1 => Φ .next ρ1 σ1)
    (hs : swapsWith e none pos.line C.env = pure false := by rfl) : WF P C ρ σ (exec (.Expr e pos) C.env) Φ :=
  fun τ s Q E S k => wpAny_Expr_any (h τ s _ E S fun v a ρ1 σ1 s1 r p S1 => k _ .next ρ1 σ1 s1 rfl p S1) (by unfold interactive; rw [C.kind]; rfl) hs
/-! tests -/
theorem tst_not {x : Expr} {pos : Pos} {whole : Sem Value} {Φ : Bool → Frame → Ledger → Prop} (h : WB P C ρ σ (isTrue x C.env (eval x C.env)) fun b ρ1 σ1 => Φ (!b) ρ1 σ1) : WB P C ρ σ (isTrue (.UnaryOp .Not x pos) C.env whole) Φ :=
  fun τ s Q E S k => isTrue_not (h τ s _ E S fun b b' ρ1 σ1 s1 r p S1 => k _ _ ρ1 σ1 s1 (by rw [r]) p S1)
theorem ev_ifexp {test body orelse : Expr} {pos : Pos} {Φ : AV → Frame → Ledger → Prop}
    (h : WB P C ρ σ (isTrue test C.env (eval test C.env)) fun b ρ1 σ1 => (b = true → WV P C ρ1 σ1 (eval body C.env) Φ) ∧ (b = false → WV P C ρ1 σ1 (eval orelse C.env) Φ)) : WV P C ρ σ (eval (.IfExp test body orelse pos) C.env) Φ :=
  fun τ s Q E S k => wpAny_IfExp (h τ s _ E S fun b b' ρ1 σ1 s1 r p S1 => by
    cases r
    cases b
    · exact p.2 rfl τ s1 Q E S1 k
    · exact p.1 rfl τ s1 Q E S1 k)
end
end Mine
end
section -- B4
open PySem PySem.W PySem.Calls PyProof.Rows
set_option Elab.async false
set_option maxRecDepth 100000
set_option linter.unusedVariables false
namespace Mine

noncomputable def AFlow.val : AFlow → AV
  | .ret a => a
  | _ => .none
noncomputable abbrev argFrame (names : List Str) (args : List AV) (others : List Str) : Frame := (names.zip (args.map some)) ++ others.map (fun x => (x, none))
inductive BindIs : List Str → List AV → List (Str × Value) → Prop
  | nil : BindIs [] [] []
  | cons {x a v xs as bs} : a.is v → BindIs xs as bs → BindIs (x :: xs) (a :: as) ((x, v) :: bs)
theorem BindIs.keys {xs as bs} (h : BindIs xs as bs) : bs.map Prod.fst = xs := by
  induction h with
  | nil => rfl
  | cons _ _ ih => simp [ih]
theorem BindIs.len {xs as bs} (h : BindIs xs as bs) : xs.length = as.length := by
  induction h with
  | nil => rfl
  | cons _ _ ih => simp [ih]
theorem lookup_not_mem {β : Type} {x : Str} : ∀ {l : List (Str × β)}, x ∉ l.map Prod.fst → l.lookup x = none
  | [], _ => rfl
  | (k, v) :: r, h => by
    rw [List.lookup_cons]
    have h1 : x ≠ k := fun e => h (by rw [e]; exact .head _)
    have : (x == k) = false := by simp [h1]
    rw [this]; exact lookup_not_mem fun m => h (.tail _ m)
theorem lookup_app {β : Type} {x : Str} (l r : List (Str × β)) : (l ++ r).lookup x = (l.lookup x).or (r.lookup x) := by
  induction l with
  | nil => rfl
  | cons p l ih =>
    obtain ⟨k, v⟩ := p
    rw [List.cons_append, List.lookup_cons, List.lookup_cons]
    cases x == k <;> simp [ih]
theorem lookup_rev {β : Type} {x : Str} : ∀ {l : List (Str × β)}, (l.map Prod.fst).Nodup → l.reverse.lookup x = l.lookup x
  | [], _ => rfl
  | (k, v) :: r, nd => by
    have nd' := List.nodup_cons.mp nd
    rw [List.reverse_cons, lookup_app, lookup_rev nd'.2, List.lookup_cons]
    by_cases e : x = k
    · subst e
      rw [lookup_not_mem nd'.1]; simp [List.lookup_cons]
    · have : (x == k) = false := by simp [e]
      simp [List.lookup_cons, this]
theorem BindIs.mOk {xs as bs} (h : BindIs xs as bs) (others : List Str) (nd : (xs ++ others).Nodup) : mOk (argFrame xs as others) (fun y => bs.reverse.lookup y) := by
  have nd1 : (bs.map Prod.fst).Nodup := by rw [h.keys]; exact (List.nodup_append.mp nd).1
  intro y
  show match (argFrame xs as others).lookup y with | some (some a) => ∃ v, bs.reverse.lookup y = some v ∧ a.is v | _ => bs.reverse.lookup y = none
  rw [lookup_rev nd1]
  clear nd1
  induction h with
  | nil =>
    rw [show argFrame [] [] others = others.map (fun x => (x, none)) from rfl]
    have : ∀ l : List Str, (l.map (fun x => (x, (none : Option AV)))).lookup y = none ∨ (l.map (fun x => (x, (none : Option AV)))).lookup y = some none := by
      intro l
      induction l with
      | nil => exact .inl rfl
      | cons z l ih =>
        rw [List.map_cons, List.lookup_cons]
        cases y == z
        · exact ih
        · exact .inr rfl
    rcases this others with e | e <;> rw [e] <;> rfl
  | cons ha hr ih =>
    rename_i x a v xs as bs
    rw [show argFrame (x :: xs) (a :: as) others = (x, some a) :: argFrame xs as others from rfl, List.lookup_cons, List.lookup_cons]
    cases y == x
    · exact ih (List.nodup_cons.mp nd).2
    · exact ⟨v, rfl, ha⟩

section
variable {P : Program} {w : World} {K : Frag} {sc : Scope} {C : Ctxt w K sc} {ρ ρ' : Frame} {σ σ' τ : Ledger} {s : Shared}

/-- the context of a callee -/
noncomputable def sub (C : Ctxt w K sc) {ρ : Frame} {σ : Ledger} (S : St C ρ σ s) (hd : 1 ≤ C.d) (sc' : Scope) (env : Env) (h1 : env.scope = sc') (h2 : sc'.kind = .function) (h3 : env.locals = s.heap.objs.size) (h4 : env.globals = mainGlobals) (h5 : env.builtins = builtinsNs) : Ctxt w K sc' :=
  have st : ∀ b o, C.h₀.get? b = some o → (hideAll s.heap (σ.map Prod.fst)).get? b = some o := fun b o e => by
    obtain ⟨m, F, _⟩ := S.fr
    refine hideAll_get _ (F.keep b o e) fun q => ?_
    obtain ⟨p, hp, rfl⟩ := List.mem_map.mp q
    rw [(S.led p hp).2.2] at e; cases e
  { A := C.A.deeper env, h₀ := hideAll s.heap (σ.map Prod.fst), L := s.heap.objs.size, os := C.os, d := C.d - 1, env := env, hsc := h1, hkind := h2, hL := h3, hG := h4, hB := h5,
    hand := C.hand, X := C.X.keeps st, mg := C.mg, mb := C.mb, G := C.G.keeps st, Bi := C.Bi.keeps st, nolim := C.nolim.keeps st, bi := C.bi,
    room := by have := C.room; show C.A.depth + 1 + (C.d - 1) < _; omega,
    units := (by have := C.units; show C.A.units + 3 + 60 * (C.d - 1) < _; omega)
    bmod := let ⟨bm, o, h1, h2, h3, h4⟩ := C.bmod; ⟨bm, o, h1, h2, st _ _ h3, h4⟩ }
theorem sub_start {env : Env} {hd : 1 ≤ C.d} {sc' : Scope} {h1 h2 h3 h4 h5} {S : St C ρ σ s} {m' : Str → Option Value} {h' : Heap} {n : Nat} (hns : h'.Ns s.heap.objs.size m') (hk : ∀ b o, s.heap.get? b = some o → h'.get? b = some o)
    (hm : mOk ρ' m') (nd : (ρ'.map Prod.fst).Nodup) : St (sub C S hd sc' env h1 h2 h3 h4 h5) ρ' σ { s with heap := h', toks := n } := by
  refine ⟨⟨m', ⟨hns, fun b o e => hk b o (of_hideAll _ e), Nat.le_of_eq (hideAll_size _ _)⟩, hm⟩, fun p hp => ?_, S.nd, nd, S.os, S.gens⟩
  obtain ⟨⟨o, e, i⟩, r⟩ := S.led p hp
  exact ⟨⟨o, hk _ _ e, i⟩, Nat.ne_of_lt (Heap.lt_size e), hideAll_none _ (List.mem_map_of_mem hp)⟩
theorem sub_back {env : Env} {hd : 1 ≤ C.d} {sc' : Scope} {h1 h2 h3 h4 h5} {S : St C ρ σ s} {s' : Shared} (S' : St (sub C S hd sc' env h1 h2 h3 h4 h5) ρ' σ' s') : St C ρ σ' s' := by
  obtain ⟨m, F, hm⟩ := S.fr
  obtain ⟨m', F', _⟩ := S'.fr
  have st : ∀ b o, C.h₀.get? b = some o → (hideAll s.heap (σ.map Prod.fst)).get? b = some o := fun b o e => by
    refine hideAll_get _ (F.keep b o e) fun q => ?_
    obtain ⟨p, hp, rfl⟩ := List.mem_map.mp q
    rw [(S.led p hp).2.2] at e; cases e
  obtain ⟨oL, es, ep, hL, rL⟩ := F.ns
  have hLg : (hideAll s.heap (σ.map Prod.fst)).get? C.L = some oL := hideAll_get _ hL fun q => by
    obtain ⟨p, hp, e⟩ := List.mem_map.mp q
    exact (S.led p hp).2.1 e
  refine ⟨⟨m, ⟨⟨oL, es, ep, F'.keep _ _ hLg, rL⟩, fun b o e => F'.keep b o (st b o e), F.above⟩, hm⟩, fun p hp => ?_, S'.nd, S.kn, S'.os, S'.gens⟩
  obtain ⟨x, _, hn⟩ := S'.led p hp
  refine ⟨x, fun q => ?_, ?_⟩
  · have : (hideAll s.heap (σ.map Prod.fst)).get? p.1 = none := hn
    rw [q, hLg] at this; cases this
  · cases q : C.h₀.get? p.1 with
    | none => rfl
    | some o => have : (hideAll s.heap (σ.map Prod.fst)).get? p.1 = none := hn; rw [st _ _ q] at this; cases this

/-- a call of a def of the text's own, by place, no cells -/
theorem call_fn {f : Addr} {name qual : Str} {params : Arguments} {body : List Stmt} {sc' : Scope} {cl : List (Str × Addr)} {dV kV doc pm cdv ct oc : Value} {an od : Option Addr} {osl : Array (Option Value)} {args : List AV} {vs : List Value} {names others : List Str} {Φ : AV → Frame → Ledger → Prop}
    (ho : K.lookup f = some ⟨oc, od, .func (fnX name qual params body sc' cl dV kV doc pm an cdv ct), osl⟩) (hd : 1 ≤ C.d)
    (hb : ∀ (h : Shared), K.In h.heap → ∃ bs, BindsTo h (fnX name qual params body sc' cl dV kV doc pm an cdv ct) ⟨vs, []⟩ bs ∧ BindIs names args bs)
    (hcd : codeIn K cdv qual = true) (nd : (names ++ others).Nodup) (hloc : ∀ y ∈ names, sc'.names.lookup y = some .local)
    (hcell : ∀ x ∈ sc'.names, x.2 ≠ .cell) (hco : sc'.isCoroutine = false) (hgen : sc'.isGenerator = false) (hk : sc'.kind = .function)
    (h : ∀ C' : Ctxt w K sc', C'.d + 1 = C.d → C'.env.cells = cl → WF P C' (argFrame names args others) σ (execs body C'.env) fun fl _ σ' => Φ fl.val ρ σ') :
    WV P C ρ σ (call (.ref f) vs) Φ := by
  intro τ s Q E S k
  obtain ⟨bs, hb1, hb2⟩ := hb s S.XH
  have hlen := hb2.len
  obtain ⟨m, F, hm⟩ := S.fr
  have nd' : ((argFrame names args others).map Prod.fst).Nodup := by
    have e : (argFrame names args others).map Prod.fst = names ++ others := by
      rw [List.map_append, List.map_map]
      congr 1
      · rw [List.map_fst_zip]; simp [hlen]
      · exact List.map_id' _
    rw [e]; exact nd
  refine wpAny_call (codeAny_call_def (fd := fnX name qual params body sc' cl dV kV doc pm an cdv ct) (body := body) (binds := bs) (by have := C.room; omega) (S.XH _ _ ho) rfl (C.nolim.keeps F.keep) (codeRec_of S.XH hcd) rfl hb1 hcell (fun x hx => hloc _ (by rw [← hb2.keys]; exact List.mem_map_of_mem hx)) (fun h₁ hns hk₁ => ?_) hco hgen hk)
  have S₁ := sub_start (hd := hd) (S := S) (sc' := sc') (env := callEnv (fnX name qual params body sc' cl dV kV doc pm an cdv ct) s.heap.objs.size f) (h1 := rfl) (h2 := hk) (h3 := rfl) (h4 := rfl) (h5 := rfl) (n := s.toks + bs.length) hns hk₁ (hb2.mOk others nd) nd'
  refine h _ (by show C.d - 1 + 1 = C.d; omega) rfl τ _ _ _ S₁ fun fl b ρ' σ' s' r p S' => ?_
  have S'' := sub_back S'
  cases b with
  | ret a => obtain ⟨v, rfl, ha⟩ := r; exact k v a ρ σ' s' ha p S''
  | next => cases r; exact k .none .none ρ σ' s' rfl p S''
  | brk => cases r; exact k .none .none ρ σ' s' rfl p S''
  | cont => cases r; exact k .none .none ρ σ' s' rfl p S''
end
end Mine
end
section -- B5
open PySem PySem.W PySem.Calls PyProof.Rows
set_option Elab.async false
set_option maxRecDepth 100000
set_option linter.unusedVariables false
namespace Mine
section
variable {P : Program} {w : World} {K : Frag} {sc : Scope} {C : Ctxt w K sc} {ρ ρ' : Frame} {σ σ' τ : Ledger} {s : Shared}

theorem St.via (S : St C ρ σ s) : ∃ m news, Fr C.h₀ C.L s.heap m ∧ News C.h₀ C.L s.heap news ∧
    ∀ s' : Shared, Fr C.h₀ C.L s'.heap m → News C.h₀ C.L s'.heap news → s'.os = s.os → AllBare s'.gens → St C ρ σ s' := by
  obtain ⟨m, F, hm⟩ := S.fr
  have key : ∀ l : Ledger, (∀ p ∈ l, p ∈ σ) → ∃ news, News C.h₀ C.L s.heap news ∧ ∀ p ∈ l, ∃ o, (p.1, o) ∈ news ∧ p.2.is w.params o := by
    intro l
    induction l with
    | nil => exact fun _ => ⟨[], News.nil, fun p hp => nomatch hp⟩
    | cons p l ih =>
      intro hl
      obtain ⟨news, N, h⟩ := ih fun q hq => hl q (.tail _ hq)
      obtain ⟨⟨o, e, i⟩, r⟩ := S.led p (hl p (.head _))
      refine ⟨(p.1, o) :: news, fun q hq => ?_, fun q hq => ?_⟩
      · rcases List.mem_cons.mp hq with rfl | hq
        · exact ⟨e, r⟩
        · exact N q hq
      · rcases List.mem_cons.mp hq with rfl | hq
        · exact ⟨o, .head _, i⟩
        · obtain ⟨o', h1, h2⟩ := h q hq
          exact ⟨o', .tail _ h1, h2⟩
  obtain ⟨news, N, hl⟩ := key σ fun _ hp => hp
  refine ⟨m, news, F, N, fun s' F' N' hos hg => ⟨⟨m, F', hm⟩, fun p hp => ?_, S.nd, S.kn, hos.trans S.os, hg⟩⟩
  obtain ⟨o, h1, h2⟩ := hl p hp
  have z := N' _ h1
  exact ⟨⟨o, z.1, h2⟩, z.2⟩
theorem St.add {a : Addr} {o : AObj} {ob : Obj} {h' : Heap} {n : Nat} (S : St C ρ σ s) (k : ∀ b o, s.heap.get? b = some o → h'.get? b = some o) (ha : s.heap.objs.size ≤ a) (hg : h'.get? a = some ob) (hi : o.is w.params ob) :
    St C ρ ((a, o) :: σ) { s with heap := h', toks := n } := by
  have S' := S.ext (n := n) k
  obtain ⟨m, F, _⟩ := S.fr
  refine ⟨S'.fr, fun p hp => ?_, ?_, S'.kn, S'.os, S'.gens⟩
  · rcases List.mem_cons.mp hp with rfl | hp
    · refine ⟨⟨ob, hg, hi⟩, fun e => ?_, ?_⟩
      · have := F.ns.lt; rw [← e] at this; exact absurd this (Nat.not_lt.mpr ha)
      · cases q : C.h₀.get? a with
        | none => rfl
        | some o' => exact absurd (Heap.lt_size (F.keep _ _ q)) (Nat.not_lt.mpr ha)
    · exact S'.led p hp
  · refine List.nodup_cons.mpr ⟨fun hm => ?_, S.nd⟩
    obtain ⟨p, hp, e⟩ := List.mem_map.mp hm
    have := S.lt hp
    rw [e] at this; exact absurd this (Nat.not_lt.mpr ha)

theorem All2.length {α β : Type} {R : α → β → Prop} {l : List α} {m : List β} (h : All2 R l m) : l.length = m.length := by
  induction h with
  | nil => rfl
  | cons _ _ ih => simp [ih]
theorem All2.get {α β : Type} {R : α → β → Prop} {l : List α} {m : List β} (h : All2 R l m) : ∀ {i : Nat} {a : α}, l[i]? = some a → ∃ b, m[i]? = some b ∧ R a b := by
  induction h with
  | nil => intro i a e; simp at e
  | cons hr _ ih =>
    intro i a e
    cases i with
    | zero => simp at e; subst e; exact ⟨_, rfl, hr⟩
    | succ i => simpa using ih (by simpa using e)
theorem All2.app {α β : Type} {R : α → β → Prop} {l l' : List α} {m m' : List β} (h : All2 R l m) (h' : All2 R l' m') : All2 R (l ++ l') (m ++ m') := by
  induction h with
  | nil => exact h'
  | cons hr _ ih => exact .cons hr ih
theorem All2.ints {ns : List Int} : ∀ {vs : List Value}, All2 AV.is (ns.map AV.int) vs → IntsAre vs ns := by
  induction ns with
  | nil => intro vs h; cases h; exact .nil
  | cons n ns ih =>
    intro vs h
    cases h with
    | cons h1 h2 => obtain ⟨t, rfl⟩ := h1; exact .cons _ _ (ih h2)
theorem All2.of_ints {vs : List Value} {ns : List Int} (h : IntsAre vs ns) : All2 AV.is (ns.map AV.int) vs := by
  induction h with
  | nil => exact .nil
  | cons n t _ ih => exact .cons ⟨t, rfl⟩ ih
theorem All2.strs {xs : List Str} : ∀ {vs : List Value}, All2 AV.is (xs.map AV.str) vs → StrsAre vs xs := by
  induction xs with
  | nil => intro vs h; cases h; exact .nil
  | cons n ns ih =>
    intro vs h
    cases h with
    | cons h1 h2 => obtain ⟨t, rfl⟩ := h1; exact .cons _ _ (ih h2)
/-! arguments -/
theorem sp_nil {pos : Pos} {Φ : List AV → Frame → Ledger → Prop} (h : Φ [] ρ σ) : WL P C ρ σ (spliced (backTo pos (starEach [] C.env))) Φ :=
  fun τ s Q E S k => spliced_none (k [] [] ρ σ s .nil h S)
theorem sp_cons {e : Expr} {rest : List Expr} {pos : Pos} {Φ : List AV → Frame → Ledger → Prop}
    (h : WV P C ρ σ (eval e C.env) fun a ρ1 σ1 => WL P C ρ1 σ1 (spliced (backTo pos (starEach rest C.env))) fun as ρ2 σ2 => Φ (a :: as) ρ2 σ2)
    (he : starEach (e :: rest) C.env = (false, eval e C.env) :: starEach rest C.env := by rfl) : WL P C ρ σ (spliced (backTo pos (starEach (e :: rest) C.env))) Φ :=
  fun τ s Q E S k => spliced_more (h τ s _ E S fun v a ρ1 σ1 s1 r p S1 => p τ s1 _ E S1 fun vs as ρ2 σ2 s2 rs p2 S2 => k (v :: vs) (a :: as) ρ2 σ2 s2 (.cons r rs) p2 S2) he
/-- what is done with the arguments -/
noncomputable abbrev Then (P : Program) {w : World} {K : Frag} {sc : Scope} (C : Ctxt w K sc) (f : List Value → Sem Value) (Φ : AV → Frame → Ledger → Prop) : List AV → Frame → Ledger → Prop :=
  fun as ρ σ => ∀ vs, All2 AV.is as vs → WV P C ρ σ (f vs) Φ
theorem ev_tuple {es : List Expr} {k : Nat} {pos : Pos} {Φ : AV → Frame → Ledger → Prop}
    (h : WL P C ρ σ (spliced (backTo pos (starEach es C.env))) (Then P C newTuple Φ)) : WV P C ρ σ (eval (.Tuple es k pos) C.env) Φ :=
  fun τ s Q E S kk => Tuple_ (h τ s _ E S fun vs as ρ1 σ1 s1 rs p S1 => p vs rs τ s1 Q E S1 kk)
theorem ev_list {es : List Expr} {pos : Pos} {Φ : AV → Frame → Ledger → Prop}
    (h : WL P C ρ σ (spliced (backTo pos (starEach es C.env))) (Then P C newList Φ)) : WV P C ρ σ (eval (.List es pos) C.env) Φ :=
  fun τ s Q E S kk => List_ (h τ s _ E S fun vs as ρ1 σ1 s1 rs p S1 => p vs rs τ s1 Q E S1 kk)
theorem new_list {as : List AV} {Φ : AV → Frame → Ledger → Prop} (hz : as.length ≤ sizeLine) (h : ∀ a, Φ (.ref a) ρ ((a, .list as) :: σ)) : Then P C newList Φ as ρ σ := by
  intro vs rs τ s Q E S k
  refine wpAny_newObj_type (k _ (.ref s.heap.objs.size) ρ _ _ rfl (h _) (S.push ⟨vs, 0, rfl, rs⟩ rfl)) ?_
  show vs.toArray.size ≤ sizeLine
  rw [List.size_toArray, ← rs.length]; exact hz
theorem new_tuple {as : List AV} {Φ : AV → Frame → Ledger → Prop} (hz : as.length ≤ sizeLine) (h : ∀ a, Φ (.ref a) ρ ((a, .tuple as) :: σ)) : Then P C newTuple Φ as ρ σ := by
  intro vs rs τ s Q E S k
  refine wpAny_newObj_type (k _ (.ref s.heap.objs.size) ρ _ _ rfl (h _) (S.push ⟨vs, 0, rfl, rs⟩ rfl)) ?_
  show vs.toArray.size ≤ sizeLine
  rw [List.size_toArray, ← rs.length]; exact hz

/-! calls by a name of the top -/
theorem ev_callK {x : Str} {p pos : Pos} {e : Expr} {args : List Expr} {f : Addr} {Φ : AV → Frame → Ledger → Prop} (he : nsIn K mainGlobals x = some (some (.ref f))) (hkeep : keepIn K (.ref f) = true)
    (h : WL P C ρ σ (spliced (backTo pos (starEach (e :: args) C.env))) (Then P C (fun vs => call (.ref f) vs) Φ))
    (hk : sc.names.lookup x = some .globalImplicit := by kernel_rfl) (hd : (x == ("__debug__" : Str)) = false := by kernel_rfl)
    (hs : starEach (e :: args) C.env = (false, eval e C.env) :: starEach args C.env := by rfl) (hplain : (backTo pos (starEach args C.env)).any (·.1) = false := by rfl) :
    WV P C ρ σ (eval (.Call (.Name x p) (e :: args) [] pos) C.env) Φ := by
  intro τ s Q E S k
  refine Call_ ?_
  refine ev_glob (P := P) (.ref f) he rfl (Φ := fun a ρ1 σ1 => a = .ref f ∧ ρ1 = ρ ∧ σ1 = σ) ⟨rfl, rfl, rfl⟩ hk hd τ s _ E S fun v a ρ1 σ1 s1 r q S1 => ?_
  obtain ⟨rfl, rfl, rfl⟩ := q
  cases r
  refine callWith_K (h₀ := C.h₀) C.X hkeep ?_ hs hplain
  exact h τ s1 _ E S1 fun vs as ρ2 σ2 s2 rs p2 S2 => ⟨S2.XH, p2 vs rs τ s2 Q E S2 k⟩
theorem ev_callB {x : Str} {p pos : Pos} {e : Expr} {args : List Expr} {id : String} {Φ : AV → Frame → Ledger → Prop} (he : nsIn K mainGlobals x = some none) (hv : bootBuiltins x = some (.builtin id)) (hn : x ≠ "__name__")
    (h : WL P C ρ σ (spliced (backTo pos (starEach (e :: args) C.env))) (Then P C (fun vs => call (.builtin id) vs) Φ))
    (hk : sc.names.lookup x = some .globalImplicit := by kernel_rfl) (hd : (x == ("__debug__" : Str)) = false := by kernel_rfl)
    (hs : starEach (e :: args) C.env = (false, eval e C.env) :: starEach args C.env := by rfl) (hplain : (backTo pos (starEach args C.env)).any (·.1) = false := by rfl) :
    WV P C ρ σ (eval (.Call (.Name x p) (e :: args) [] pos) C.env) Φ := by
  intro τ s Q E S k
  refine Call_ ?_
  refine ev_bi (P := P) (.builtin id) he hv hn rfl (Φ := fun a ρ1 σ1 => a = .builtin id ∧ ρ1 = ρ ∧ σ1 = σ) ⟨rfl, rfl, rfl⟩ hk hd τ s _ E S fun v a ρ1 σ1 s1 r q S1 => ?_
  obtain ⟨rfl, rfl, rfl⟩ := q
  cases r
  refine callWith_method1 (first := []) ?_ hs hplain
  exact h τ s1 _ E S1 fun vs as ρ2 σ2 s2 rs p2 S2 => p2 vs rs τ s2 Q E S2 k
theorem ev_callT {x : Str} {p pos : Pos} {e : Expr} {args : List Expr} {T : String} {Φ : AV → Frame → Ledger → Prop} (he : nsIn K mainGlobals x = some none) (hv : bootBuiltins x = some (.type T)) (hn : x ≠ "__name__")
    (h : WL P C ρ σ (spliced (backTo pos (starEach (e :: args) C.env))) (Then P C (fun vs => call (.type T) vs) Φ))
    (hk : sc.names.lookup x = some .globalImplicit := by kernel_rfl) (hd : (x == ("__debug__" : Str)) = false := by kernel_rfl)
    (hs : starEach (e :: args) C.env = (false, eval e C.env) :: starEach args C.env := by rfl) (hplain : (backTo pos (starEach args C.env)).any (·.1) = false := by rfl) :
    WV P C ρ σ (eval (.Call (.Name x p) (e :: args) [] pos) C.env) Φ := by
  intro τ s Q E S k
  refine Call_ ?_
  refine ev_bi (P := P) (.type T) he hv hn rfl (Φ := fun a ρ1 σ1 => a = .type T ∧ ρ1 = ρ ∧ σ1 = σ) ⟨rfl, rfl, rfl⟩ hk hd τ s _ E S fun v a ρ1 σ1 s1 r q S1 => ?_
  obtain ⟨rfl, rfl, rfl⟩ := q
  cases r
  refine PyProof.Rows.callWith_type1 ?_ hs hplain
  exact h τ s1 _ E S1 fun vs as ρ2 σ2 s2 rs p2 S2 => p2 vs rs τ s2 Q E S2 k
/-! methods -/
noncomputable abbrev ThenM (P : Program) {w : World} {K : Frag} {sc : Scope} (C : Ctxt w K sc) (pos : Pos) (args : List Expr) (name : Str) (pl : Sem Bool) (Φ : AV → Frame → Ledger → Prop) : AV → Frame → Ledger → Prop :=
  fun a ρ σ => ∀ v, a.is v → W P Eq C ρ σ (getMethod v name pl) fun fx ρ1 σ1 => WV P C ρ1 σ1 (callWith pos fx.1 fx.2 (backTo pos (starEach args C.env)) []) Φ
theorem ev_meth {o : Expr} {name : Str} {apos pos : Pos} {args : List Expr} {pl : Sem Bool} {Φ : AV → Frame → Ledger → Prop}
    (h : WV P C ρ σ (eval o C.env) (ThenM P C pos args name pl Φ))
    (he : eval (.Call (.Attribute o name apos) args [] pos) C.env = (do
      let ov ← eval o C.env
      standAt apos.atName
      let (f, first) ← holding [ov] (getMethod ov name pl)
      callWith pos f first (backTo pos (starEach args C.env)) (backToKw pos (keywordEach [] C.env))) := by rfl) :
    WV P C ρ σ (eval (.Call (.Attribute o name apos) args [] pos) C.env) Φ :=
  fun τ s Q E S k => methodCall_KW (h τ s _ E S fun v a ρ1 σ1 s1 r p S1 => p v r τ s1 _ E S1 fun fx b ρ2 σ2 s2 e p2 S2 => by cases e; exact p2 τ s2 Q E S2 k) he
theorem cw_b {id : String} {first : List Value} {e : Expr} {args : List Expr} {pos : Pos} {Φ : AV → Frame → Ledger → Prop}
    (h : WL P C ρ σ (spliced (backTo pos (starEach (e :: args) C.env))) (Then P C (fun vs => call (.builtin id) (first ++ vs)) Φ))
    (hs : starEach (e :: args) C.env = (false, eval e C.env) :: starEach args C.env := by rfl) (hplain : (backTo pos (starEach args C.env)).any (·.1) = false := by rfl) :
    WV P C ρ σ (callWith pos (.builtin id) first (backTo pos (starEach (e :: args) C.env)) []) Φ :=
  fun τ s Q E S k => callWith_method1 (h τ s _ E S fun vs as ρ2 σ2 s2 rs p2 S2 => p2 vs rs τ s2 Q E S2 k) hs hplain
theorem cw_b0 {id : String} {first : List Value} {pos : Pos} {Φ : AV → Frame → Ledger → Prop}
    (h : WV P C ρ σ (call (.builtin id) first) Φ) : WV P C ρ σ (callWith pos (.builtin id) first (backTo pos (starEach [] C.env)) []) Φ :=
  fun τ s Q E S k => callWith_method0 (h τ s Q E S k)
theorem cw_K {f : Addr} {first : List Value} {e : Expr} {args : List Expr} {pos : Pos} {Φ : AV → Frame → Ledger → Prop} (hkeep : keepIn K (.ref f) = true)
    (h : WL P C ρ σ (spliced (backTo pos (starEach (e :: args) C.env))) (Then P C (fun vs => call (.ref f) (first ++ vs)) Φ))
    (hs : starEach (e :: args) C.env = (false, eval e C.env) :: starEach args C.env := by rfl) (hplain : (backTo pos (starEach args C.env)).any (·.1) = false := by rfl) :
    WV P C ρ σ (callWith pos (.ref f) first (backTo pos (starEach (e :: args) C.env)) []) Φ :=
  fun τ s Q E S k => callWith_K (h₀ := C.h₀) C.X hkeep (h τ s _ E S fun vs as ρ2 σ2 s2 rs p2 S2 => ⟨S2.XH, p2 vs rs τ s2 Q E S2 k⟩) hs hplain
theorem cw_K0 {f : Addr} {first : List Value} {pos : Pos} {Φ : AV → Frame → Ledger → Prop} (hkeep : keepIn K (.ref f) = true)
    (h : WV P C ρ σ (call (.ref f) first) Φ) : WV P C ρ σ (callWith pos (.ref f) first (backTo pos (starEach [] C.env)) []) Φ :=
  fun τ s Q E S k => callWith_K0 S.XH hkeep (by rw [List.append_nil]; exact h τ s Q E S k)
end
end Mine
end
section -- B6
open PySem PySem.W PySem.Calls PyProof.Rows
set_option Elab.async false
set_option maxRecDepth 100000
set_option linter.unusedVariables false
namespace Mine
/-- a blank or any one-sign text n times -/
noncomputable def rep (c : Nat) (n : Int) : Str := ⟨Array.replicate n.toNat c⟩
theorem foldl_app (x : Array Nat) : ∀ (l : List (Array Nat)) (a : Array Nat), l.foldl (· ++ ·) a = a ++ l.foldl (· ++ ·) #[]
  | [], a => by simp
  | b :: l, a => by rw [List.foldl_cons, List.foldl_cons, foldl_app x l, foldl_app x l (#[] ++ b)]; simp
theorem mul_one_sign (c : Nat) (n : Int) : Txt.mul ⟨#[c]⟩ n = rep c n := by
  unfold Txt.mul rep
  by_cases h : n < 1
  · rw [if_pos h, show n.toNat = 0 by omega]; rfl
  · rw [if_neg h]
    by_cases h1 : n = 1
    · subst h1; rfl
    · have : (n == 1 || (⟨#[c]⟩ : Str).length == 0) = false := by simp [h1, Str.length]
      rw [this]
      simp only [Bool.false_eq_true, if_false]
      congr 1
      generalize n.toNat = k
      induction k with
      | zero => rfl
      | succ k ih =>
        rw [List.replicate_succ, List.foldl_cons, foldl_app #[], ih]
        simp [Array.replicate_succ']
theorem mulOk_one (c : Nat) (n : Int) (h : n ≤ 1000000) (h' : -1000000 ≤ n) : MulOk ⟨#[c]⟩ n := by
  refine ⟨?_, fun h1 _ => ?_, fun h1 _ => ?_⟩
  · simp only [Bool.or_eq_false_iff, decide_eq_false_iff_not]; omega
  · have hl : ((⟨#[c]⟩ : Str).length : Int) = 1 := rfl
    rw [hl]
    have : 1 ≤ (2 ^ 63 - 1 : Int) / n := (Int.le_ediv_iff_mul_le (by omega)).mpr (by omega)
    omega
  · have hl : (⟨#[c]⟩ : Str).length = 1 := rfl
    rw [hl, Nat.one_mul]
    have hs := sizeLine_eq
    refine decide_eq_false ?_
    omega
section
variable {P : Program} {w : World} {K : Frag} {sc : Scope} {C : Ctxt w K sc} {ρ ρ' : Frame} {σ σ' τ : Ledger} {s : Shared}

theorem op_mul_si {c : Nat} {x : Str} {n : Int} {Φ : AV → Frame → Ledger → Prop} (hx : x = ⟨#[c]⟩) (h1 : n ≤ 1000000) (h2 : -1000000 ≤ n) (h : Φ (.str (rep c n)) ρ σ) : OpV P C ρ σ (binaryOp .Mult) (.str x) (.int n) Φ := by
  subst hx
  rintro _ _ ⟨t, rfl⟩ ⟨u, rfl⟩ τ s Q E S k
  exact SB.mul (mulOk_one c n h1 h2) fun t' kk => k _ (.str (rep c n)) ρ σ _ ⟨t', by rw [mul_one_sign]⟩ h (S.toks _)
theorem op_add_ss {x y : Str} {Φ : AV → Frame → Ledger → Prop} (hz : x.length + y.length ≤ sizeLine) (h : Φ (.str (x ++ y)) ρ σ) : OpV P C ρ σ (binaryOp .Add) (.str x) (.str y) Φ := by
  rintro _ _ ⟨t, rfl⟩ ⟨u, rfl⟩ τ s Q E S k
  exact SB.add (fun t' kk => k _ (.str (x ++ y)) ρ σ _ ⟨t', rfl⟩ h (S.toks _)) hz
/-! subscripts -/
theorem ev_sub {e sl : Expr} {pos : Pos} {Φ : AV → Frame → Ledger → Prop}
    (h : WV P C ρ σ (eval e C.env) fun a ρ1 σ1 => WV P C ρ1 σ1 (eval sl C.env) fun b ρ2 σ2 => OpV P C ρ2 σ2 (subscriptTail e sl) a b Φ) : WV P C ρ σ (eval (.Subscript e sl pos) C.env) Φ :=
  fun τ s Q E S k => Subscript_ (h τ s _ E S fun va a ρ1 σ1 s1 ra p1 S1 => p1 τ s1 _ E S1 fun vb b ρ2 σ2 s2 rb p2 S2 => p2 va vb ra rb τ s2 Q E S2 k)
theorem St.isList (S : St C ρ (σ ++ τ) s) {l : Addr} {xs : List AV} (h : (l, .list xs) ∈ σ) : ∃ vs, s.heap.IsList l ⟨vs⟩ ∧ All2 AV.is xs vs := by
  obtain ⟨ob, hg, vs, n, rfl, hA⟩ := S.get h
  exact ⟨vs, ⟨_, hg, rfl, n, rfl⟩, hA⟩
theorem St.isTup (S : St C ρ (σ ++ τ) s) {l : Addr} {xs : List AV} (h : (l, .tuple xs) ∈ σ) : ∃ vs, IsTup s.heap l ⟨vs⟩ ∧ All2 AV.is xs vs := by
  obtain ⟨ob, hg, vs, n, rfl, hA⟩ := S.get h
  exact ⟨vs, ⟨_, hg, rfl, n, rfl⟩, hA⟩
theorem sub_list {e sl : Expr} {l : Addr} {xs : List AV} {k : Int} {a : AV} {Φ : AV → Frame → Ledger → Prop} (hm : (l, .list xs) ∈ σ) (h0 : 0 ≤ k) (h1 : k < 2 ^ 63) (hx : xs[k.toNat]? = some a) (h : Φ a ρ σ)
    (hs : ∀ u, subscripted sl false (.ref l) (.int k u) = operate [.ref l, .int k u] (getItem (.ref l) (.int k u)) := by intro u; with_unfolding_all rfl) :
    OpV P C ρ σ (subscriptTail e sl) (.ref l) (.int k) Φ := by
  rintro _ _ rfl ⟨u, rfl⟩ τ s Q E S kk
  obtain ⟨vs, hl, hA⟩ := S.isList hm
  obtain ⟨v, hv, ha⟩ := hA.get hx
  exact tail_any hl.typeIs slot_list_getitem.lookup (wpAny_getItem_list hl h0 h1 (by simpa using hv) (kk v a ρ σ s ha h S)) (hs u)
theorem sub_tuple {e sl : Expr} {l : Addr} {xs : List AV} {k : Int} {a : AV} {Φ : AV → Frame → Ledger → Prop} (hm : (l, .tuple xs) ∈ σ) (h0 : 0 ≤ k) (h1 : k < 2 ^ 63) (hx : xs[k.toNat]? = some a) (h : Φ a ρ σ)
    (hs : ∀ u, subscripted sl false (.ref l) (.int k u) = operate [.ref l, .int k u] (getItem (.ref l) (.int k u)) := by intro u; with_unfolding_all rfl) :
    OpV P C ρ σ (subscriptTail e sl) (.ref l) (.int k) Φ := by
  rintro _ _ rfl ⟨u, rfl⟩ τ s Q E S kk
  obtain ⟨vs, hl, hA⟩ := S.isTup hm
  obtain ⟨v, hv, ha⟩ := hA.get hx
  have hj : seqIndex? k vs.length = some k.toNat := by
    unfold seqIndex?
    have hlt : k.toNat < vs.length := by
      rcases Nat.lt_or_ge k.toNat vs.length with q | q
      · exact q
      · rw [List.getElem?_eq_none q] at hv; cases hv
    rw [if_neg (show ¬ k < 0 by omega)]
    rw [if_pos (by simp only [Bool.and_eq_true, decide_eq_true_eq]; omega)]
  exact item_tupleT (hlo := by omega) (hhi := h1) (hj := hj) (hx := hv) (ht := hl) (h := kk v a ρ σ s ha h S) (hs := hs u)
theorem charAt_nat {x : Str} {i : Int} {c : Nat} (h0 : 0 ≤ i) (h : x.cps.toList[i.toNat]? = some c) : Txt.charAt x i = some c := by
  have hlt : i.toNat < x.cps.toList.length := by
    rcases Nat.lt_or_ge i.toNat x.cps.toList.length with q | q
    · exact q
    · rw [List.getElem?_eq_none q] at h; cases h
  have hl : x.length = x.cps.toList.length := by simp [Str.length]
  unfold Txt.charAt seqIndex?
  rw [if_neg (show ¬ i < 0 by omega), if_pos (by simp only [Bool.and_eq_true, decide_eq_true_eq]; omega)]
  simpa using h
theorem sub_str {e sl : Expr} {x : Str} {i : Int} {c : Nat} {Φ : AV → Frame → Ledger → Prop} (h0 : 0 ≤ i) (h1 : i < 2 ^ 62) (hx : x.cps.toList[i.toNat]? = some c) (h : Φ (.str ⟨#[c]⟩) ρ σ)
    (hs : ∀ t u, subscripted sl false (.str x t) (.int i u) = operate [.str x t, .int i u] (getItem (.str x t) (.int i u)) := by intro t u; with_unfolding_all rfl) :
    OpV P C ρ σ (subscriptTail e sl) (.str x) (.int i) Φ := by
  rintro _ _ ⟨t, rfl⟩ ⟨u, rfl⟩ τ s Q E S kk
  have hc := charAt_nat h0 hx
  refine tail_any (typeIs_str _ _ _) F.slot_str_getitem.lookup (SB.getItem ?_ (by rw [hc]; rfl) ?_) (hs t u)
  · unfold fitsSsize; simp only [Bool.not_eq_true', Bool.or_eq_false_iff, decide_eq_false_iff_not]; omega
  · exact kk _ (.str ⟨#[c]⟩) ρ σ _ ⟨_, by unfold Txt.item; rw [hc]; rfl⟩ h (S.toks _)
end
end Mine
end
section -- B7
open PySem PySem.W PySem.Calls PyProof.Rows
set_option Elab.async false
set_option maxRecDepth 100000
set_option linter.unusedVariables false
namespace Mine
section
variable {P : Program} {w : World} {K : Frag} {sc : Scope} {C : Ctxt w K sc} {ρ ρ' : Frame} {σ σ' τ : Ledger} {s : Shared}

theorem St.sub (h : σ'.Sublist σ) (S : St C ρ (σ ++ τ) s) : St C ρ (σ' ++ τ) s := by
  refine ⟨S.fr, fun p hp => S.led p ?_, S.nd.sublist ((h.append_right τ).map Prod.fst), S.kn, S.os, S.gens⟩
  exact (h.append_right τ).subset hp
theorem W.sub {α β : Type} {R : β → α → Prop} {t : Sem α} {Φ : β → Frame → Ledger → Prop} (h : W P R C ρ σ t fun b ρ' σ' => ∃ σ'', σ''.Sublist σ' ∧ Φ b ρ' σ'') : W P R C ρ σ t Φ :=
  fun τ s Q E S k => h τ s Q E S fun a b ρ' σ' s' r ⟨σ'', hs, p⟩ S' => k a b ρ' σ'' s' r p (S'.sub hs)
/-- what stands is forgotten -/
theorem W.less {α β : Type} {R : β → α → Prop} {t : Sem α} {Φ : β → Frame → Ledger → Prop} (hs : σ'.Sublist σ) (h : W P R C ρ σ' t Φ) : W P R C ρ σ t Φ :=
  fun τ s Q E S k => h τ s Q E (S.sub hs) k

/-! truth -/
noncomputable abbrev TruthA (P : Program) {w : World} {K : Frag} {sc : Scope} (C : Ctxt w K sc) (Φ : Bool → Frame → Ledger → Prop) : AV → Frame → Ledger → Prop := fun a ρ σ => ∀ v, a.is v → WB P C ρ σ (truthy v) Φ
theorem tst_plain {e : Expr} {whole : Sem Value} {Φ : Bool → Frame → Ledger → Prop} (h : WV P C ρ σ whole (TruthA P C Φ))
    (he : isTrue e C.env whole = (do let v ← whole; standAt e.pos; holding [v] (truthy v)) := by rfl) : WB P C ρ σ (isTrue e C.env whole) Φ :=
  fun τ s Q E S k => isTrue_plain (h τ s _ E S fun v a ρ1 σ1 s1 r p S1 => p v r τ s1 Q E S1 k) he
theorem tr_int {i : Int} {Φ : Bool → Frame → Ledger → Prop} (h : Φ (i != 0) ρ σ) : TruthA P C Φ (.int i) ρ σ := by
  rintro _ ⟨t, rfl⟩ τ s Q E S k
  exact truthy_int (k _ _ ρ σ s rfl h S)
theorem tr_bool {b : Bool} {Φ : Bool → Frame → Ledger → Prop} (h : Φ b ρ σ) : TruthA P C Φ (.bool b) ρ σ := by
  rintro _ rfl τ s Q E S k
  exact wpAny_truthy_bool (k _ _ ρ σ s rfl h S)
theorem tr_str {x : Str} {Φ : Bool → Frame → Ledger → Prop} (hz : x.length ≤ sizeLine) (h : Φ ((x.length : Int) != 0) ρ σ) : TruthA P C Φ (.str x) ρ σ := by
  rintro _ ⟨t, rfl⟩ τ s Q E S k
  exact PySem.P.truthy_str (by have := sizeLine_eq; omega) (k _ _ ρ σ _ rfl h (S.toks _))

/-! ranges -/
theorem mk_range1 {n : Int} {Φ : AV → Frame → Ledger → Prop} (h : ∀ r, Φ (.ref r) ρ ((r, .range 0 n 1) :: σ)) : Then P C (fun vs => call (.type "range") vs) Φ [.int n] ρ σ := by
  intro vs rs τ s Q E S k
  cases rs with | cons h1 h2 => cases h2; obtain ⟨t, rfl⟩ := h1; exact call_range_1 (k _ (.ref s.heap.objs.size) ρ _ _ rfl (h _) (S.push ⟨_, _, _, rfl⟩ rfl))
theorem mk_range2 {a b : Int} {Φ : AV → Frame → Ledger → Prop} (h : ∀ r, Φ (.ref r) ρ ((r, .range a b 1) :: σ)) : Then P C (fun vs => call (.type "range") vs) Φ [.int a, .int b] ρ σ := by
  intro vs rs τ s Q E S k
  cases rs with | cons h1 h2 => cases h2 with | cons h3 h4 => cases h4; obtain ⟨t, rfl⟩ := h1; obtain ⟨u, rfl⟩ := h3; exact call_range_2 (k _ (.ref s.heap.objs.size) ρ _ _ rfl (h _) (S.push ⟨_, _, _, rfl⟩ rfl))
theorem mk_range3 {a b c : Int} {Φ : AV → Frame → Ledger → Prop} (hc : c ≠ 0) (hp : Builtin.divisionGoesByPylong (b - a) c = false) (h : ∀ r, Φ (.ref r) ρ ((r, .range a b c) :: σ)) : Then P C (fun vs => call (.type "range") vs) Φ [.int a, .int b, .int c] ρ σ := by
  intro vs rs τ s Q E S k
  cases rs with | cons h1 h2 => cases h2 with | cons h3 h4 => cases h4 with | cons h5 h6 =>
    cases h6; obtain ⟨t, rfl⟩ := h1; obtain ⟨u, rfl⟩ := h3; obtain ⟨v, rfl⟩ := h5
    exact call_range_3 hc (k _ (.ref s.heap.objs.size) ρ _ _ rfl (h _) (S.push ⟨_, _, _, rfl⟩ rfl)) (.inl hp)

/-! iteration -/
noncomputable def OptIs : Option AV → Option Value → Prop
  | some a, v => ∃ v', v = some v' ∧ a.is v'
  | none, v => v = none
structure IterSpec (P : Program) {w : World} {K : Frag} {sc : Scope} (C : Ctxt w K sc) (v : Value) (xs : List AV) (src : Ledger → Prop) (io : Nat → Obj → Prop) : Prop where
  start : ∀ (ρ : Frame) (σ : Ledger) (Φ : AV → Frame → Ledger → Prop), src σ → (∀ it, Φ (.ref it) ρ ((it, .pred (io 0)) :: σ)) → WV P C ρ σ (pyIter v) Φ
  next : ∀ (ρ : Frame) (σ : Ledger) (it : Addr) (i : Nat) (x : AV) (Φ : Option AV → Frame → Ledger → Prop), src σ → xs[i]? = some x → Φ (some x) ρ ((it, .pred (io (i + 1))) :: σ) → W P OptIs C ρ ((it, .pred (io i)) :: σ) (pyNext (.ref it)) Φ
  stop : ∀ (ρ : Frame) (σ : Ledger) (it : Addr) (i : Nat) (Φ : Option AV → Frame → Ledger → Prop), src σ → xs[i]? = none → Φ none ρ σ → W P OptIs C ρ ((it, .pred (io i)) :: σ) (pyNext (.ref it)) Φ

theorem St.but {a : Addr} {o : AObj} {h' : Heap} {n : Nat} (S : St C ρ ((a, o) :: σ) s) (hs : Heap.ExtBut a s.heap h') : St C ρ σ { s with heap := h', toks := n } := by
  obtain ⟨m, F, hm⟩ := S.fr
  have z := S.led _ (.head _)
  have ne : ∀ p ∈ σ, p.1 ≠ a := fun p hp e => (List.nodup_cons.mp S.nd).1 (by show a ∈ _; rw [← e]; exact List.mem_map_of_mem hp)
  refine ⟨⟨m, ⟨F.ns.extBut hs (Ne.symm z.2.1), fun b o e => hs b o (fun q => ?_) (F.keep b o e), F.above⟩, hm⟩, fun p hp => ?_, (List.nodup_cons.mp S.nd).2, S.kn, S.os, S.gens⟩
  · have := z.2.2; rw [← q, e] at this; cases this
  · obtain ⟨⟨o1, e, i⟩, r⟩ := S.led p (.tail _ hp)
    exact ⟨⟨o1, hs _ _ (ne p hp) e, i⟩, r⟩
theorem spec_list {l : Addr} {xs : List AV} : IterSpec P C (.ref l) xs (fun σ => (l, .list xs) ∈ σ) (fun i o => o.cls = .type "list_iterator" ∧ o.data = .fields #[.ref l, .int i 0]) where
  start := fun ρ σ Φ hsrc h τ s Q E S k => by
    obtain ⟨vs, hl, _⟩ := S.isList hsrc
    exact wpAny_pyIter_list hl (k _ (.ref s.heap.objs.size) ρ _ _ rfl (h _) (S.push ⟨rfl, rfl⟩ rfl))
  next := fun ρ σ it i x Φ hsrc hx h τ s Q E S k => by
    obtain ⟨vs, hl, hA⟩ := S.isList (.tail _ hsrc)
    obtain ⟨o, hg, hc, hd⟩ := S.get (.head _)
    obtain ⟨v, hv, ha⟩ := hA.get hx
    refine wpAny_pyNext_list_item ⟨o, hg, hc, hd⟩ hl (by simpa using hv) fun h' hit' hs' => ?_
    obtain ⟨o', hg', hc', hd'⟩ := hit'
    exact k _ (some x) ρ _ _ ⟨v, rfl, ha⟩ h (S.put (n := s.toks) .head hs' hg' ⟨hc', hd'⟩)
  stop := fun ρ σ it i Φ hsrc hx h τ s Q E S k => by
    obtain ⟨vs, hl, hA⟩ := S.isList (.tail _ hsrc)
    obtain ⟨o, hg, hc, hd⟩ := S.get (.head _)
    refine wpAny_pyNext_list_end C.hand ⟨o, hg, hc, hd⟩ hl ?_ fun h' he' => ?_
    · have hlen := hA.length
      rw [List.getElem?_eq_none_iff] at hx
      rw [Array.getElem?_eq_none_iff]; show vs.length ≤ i; omega
    · exact k none none ρ σ _ rfl h (St.but (n := s.toks) S he')
theorem spec_range {r : Addr} {a b c : Int} {n : Nat} (hsm : Builtin.Range.small a b c = true) (hn : Builtin.Range.rangeSize a b c = (n : Int)) :
    IterSpec P C (.ref r) ((List.range n).map fun (i : Nat) => AV.int (a + i * c)) (fun σ => (r, .range a b c) ∈ σ) (fun i o => o = { cls := .type "range_iterator", dict := none, data := .fields #[rawInt (a + i * c), rawInt ((n : Int) - i), rawInt c], slots := #[] }) where
  start := fun ρ σ Φ hsrc h τ s Q E S k => by
    obtain ⟨o, hg, t, u, v, rfl⟩ := S.get hsrc
    refine wpAny_pyIter_range hg hsm (k _ (.ref s.heap.objs.size) ρ _ _ rfl (h _) (S.push ?_ rfl))
    rw [hn]; show _ = _; simp
  next := fun ρ σ it i x Φ hsrc hx h τ s Q E S k => by
    obtain ⟨o, hg, ho⟩ := S.get (.head _)
    simp only [List.getElem?_map, Option.map_eq_some_iff] at hx
    obtain ⟨j, hj, rfl⟩ := hx
    have hlt := List.getElem?_eq_some_iff.mp hj
    obtain ⟨hi, e⟩ := hlt
    have hj' : j = i := by simpa using e.symm
    subst hj'
    have hi' : j < n := by simpa using hi
    have hit : IsRangeIter s.heap it (a + j * c) ((n : Int) - j) c := hg.trans (congrArg some ho)
    refine wpAny_pyNext_range_item hit (by omega) fun h' hit' hs' => ?_
    refine k _ (some (.int (a + j * c))) ρ _ _ ⟨_, rfl, _, rfl⟩ h (S.put .head hs' hit' ?_)
    show _ = _
    have e1 : a + (j : Int) * c + c = a + ((j + 1 : Nat) : Int) * c := by rw [Int.natCast_add, Int.add_mul]; omega
    have e2 : (n : Int) - j - 1 = (n : Int) - ((j + 1 : Nat) : Int) := by omega
    rw [e1, e2]
  stop := fun ρ σ it i Φ hsrc hx h τ s Q E S k => by
    obtain ⟨o, hg, ho⟩ := S.get (.head _)
    have hi : n ≤ i := by simpa using hx
    have hit : IsRangeIter s.heap it (a + i * c) ((n : Int) - i) c := hg.trans (congrArg some ho)
    exact wpAny_pyNext_range_end C.hand hit (by omega) fun h' he' => k none none ρ σ _ rfl h (St.but (n := s.toks) S he')

/-- what the end of a turn leads to -/
noncomputable def LoopK (again : Frame → Ledger → Prop) (Φ : AFlow → Frame → Ledger → Prop) : AFlow → Frame → Ledger → Prop
  | .next, ρ, σ => again ρ σ
  | .cont, ρ, σ => again ρ σ
  | .brk, ρ, σ => Φ .next ρ σ
  | .ret a, ρ, σ => Φ (.ret a) ρ σ
theorem x_forV {x : Str} {p1 pos : Pos} {iter : Expr} {body orelse : List Stmt} {Φ : AFlow → Frame → Ledger → Prop}
    (h : WV P C ρ σ (eval iter C.env) fun a ρ1 σ1 => ∃ xs src, (∀ v, a.is v → ∃ io, IterSpec P C v xs src io) ∧ src σ1 ∧ ∃ I : Nat → Frame → Ledger → Prop, I 0 ρ1 σ1 ∧ (∀ i ρ σ, I i ρ σ → src σ) ∧
      (∀ i b ρ σ, I i ρ σ → xs[i]? = some b → ∀ vb, b.is vb → WU P C ρ σ (storeName C.env x vb) fun ρ' σ' => WF P C ρ' σ' (execs body C.env) (LoopK (I (i + 1)) Φ)) ∧
      ∀ ρ σ, I xs.length ρ σ → WF P C ρ σ (execs orelse C.env) Φ)
    (hs : ∀ x, foldedSetIterable iter C.env x = pure x := by intro _; rfl) :
    WF P C ρ σ (exec (.For (.Name x p1) iter body orelse pos) C.env) Φ := by
  intro τ s Q E S k
  refine wpAny_For ?_ hs
  refine h τ s _ E S fun v a ρ1 σ1 s1 r p S1 => ?_
  obtain ⟨xs, src, h2, hsrc, I, hI, hIs, turn, fin⟩ := p
  obtain ⟨io, spec⟩ := h2 v r
  refine spec.start ρ1 σ1 (fun a ρ' σ' => ∃ it, a = .ref it ∧ ρ' = ρ1 ∧ σ' = (it, .pred (io 0)) :: σ1) hsrc (fun it => ⟨it, rfl, rfl, rfl⟩) τ s1 _ E S1 fun v2 a2 ρ2 σ2 s2 r2 p2 S2 => ?_
  obtain ⟨it, rfl, rfl, rfl⟩ := p2
  cases r2
  refine codeAny_forLoop_any (fun n s => ∃ i ρ σ, n = xs.length - i ∧ i ≤ xs.length ∧ I i ρ σ ∧ St C ρ ((it, .pred (io i)) :: σ ++ τ) s) ?_ (xs.length - 0) ⟨0, ρ2, σ1, rfl, Nat.zero_le _, hI, S2⟩
  rintro n s ⟨i, ρ, σ, rfl, hle, hI, S⟩
  rcases Nat.lt_or_ge i xs.length with hlt | hge
  · have hx : xs[i]? = some xs[i] := List.getElem?_eq_getElem hlt
    refine spec.next ρ σ it i xs[i] (fun o ρ' σ' => o = some xs[i] ∧ ρ' = ρ ∧ σ' = (it, .pred (io (i + 1))) :: σ) (hIs _ _ _ hI) hx ⟨rfl, rfl, rfl⟩ τ s _ _ S fun v3 a3 ρ3 σ3 s3 r3 p3 S3 => ?_
    obtain ⟨rfl, rfl, rfl⟩ := p3
    obtain ⟨vb, rfl, hb⟩ := r3
    refine wpAny_of_eq (a := ()) rfl ?_
    refine wpAny_assign_Name ?_
    have S3' : St C ρ3 (σ ++ ((it, .pred (io (i + 1))) :: τ)) s3 := S3.perm (by
      rw [List.cons_append]; exact List.perm_middle.symm)
    refine turn i xs[i] ρ3 σ hI hx vb hb _ s3 _ _ S3' fun _ _ ρ4 σ4 s4 _ p4 S4 => ?_
    refine p4 _ s4 _ _ S4 fun f b ρ5 σ5 s5 r5 p5 S5 => ?_
    have S5' : St C ρ5 ((it, .pred (io (i + 1))) :: σ5 ++ τ) s5 := S5.perm (by rw [List.cons_append]; exact List.perm_middle)
    have S5'' : St C ρ5 (σ5 ++ τ) s5 := by
      have : ((it, AObj.pred (io (i + 1))) :: σ5 ++ τ) = [] ++ [(it, AObj.pred (io (i + 1)))] ++ (σ5 ++ τ) := rfl
      rw [this] at S5'
      exact S5'.drop
    cases b with
    | next => cases r5; exact ⟨xs.length - (i + 1), by omega, i + 1, ρ5, σ5, rfl, hlt, p5, S5'⟩
    | cont => cases r5; exact ⟨xs.length - (i + 1), by omega, i + 1, ρ5, σ5, rfl, hlt, p5, S5'⟩
    | brk => cases r5; exact k _ .next ρ5 σ5 s5 rfl p5 S5''
    | ret a => obtain ⟨v, rfl, ha⟩ := r5; exact k _ (.ret a) ρ5 σ5 s5 ⟨v, rfl, ha⟩ p5 S5''
  · have e : i = xs.length := by omega
    subst e
    refine spec.stop ρ σ it _ (fun o ρ' σ' => o = none ∧ ρ' = ρ ∧ σ' = σ) (hIs _ _ _ hI) (List.getElem?_eq_none (Nat.le_refl _)) ⟨rfl, rfl, rfl⟩ τ s _ _ S fun v3 a3 ρ3 σ3 s3 r3 p3 S3 => ?_
    obtain ⟨rfl, rfl, rfl⟩ := p3
    cases r3
    exact fin ρ3 σ3 hI τ s3 _ _ S3 fun f b ρ5 σ5 s5 r5 p5 S5 => k f b ρ5 σ5 s5 r5 p5 S5


theorem x_for {x : Str} {p1 pos : Pos} {iter : Expr} {body orelse : List Stmt} {Φ : AFlow → Frame → Ledger → Prop}
    (h : WV P C ρ σ (eval iter C.env) fun a ρ1 σ1 => ∃ v xs src io, a.is v ∧ (∀ v', a.is v' → v' = v) ∧ IterSpec P C v xs src io ∧ src σ1 ∧ ∃ I : Nat → Frame → Ledger → Prop, I 0 ρ1 σ1 ∧ (∀ i ρ σ, I i ρ σ → src σ) ∧
      (∀ i b ρ σ, I i ρ σ → xs[i]? = some b → ∀ vb, b.is vb → WU P C ρ σ (storeName C.env x vb) fun ρ' σ' => WF P C ρ' σ' (execs body C.env) (LoopK (I (i + 1)) Φ)) ∧
      ∀ ρ σ, I xs.length ρ σ → WF P C ρ σ (execs orelse C.env) Φ)
    (hs : ∀ x, foldedSetIterable iter C.env x = pure x := by intro _; rfl) :
    WF P C ρ σ (exec (.For (.Name x p1) iter body orelse pos) C.env) Φ :=
  x_forV (W.mono h fun a ρ1 σ1 ⟨v, xs, src, io, hv, hu, spec, hs', I, r⟩ => ⟨xs, src, fun v' hv' => ⟨io, by rw [hu v' hv']; exact spec⟩, hs', I, r⟩) hs
end
end Mine
end
section -- B8
open PySem PySem.W PySem.Calls PyProof.Rows
set_option Elab.async false
set_option maxRecDepth 100000
set_option linter.unusedVariables false
namespace Mine
section
variable {P : Program} {w : World} {K : Frag} {sc : Scope} {C : Ctxt w K sc} {ρ ρ' : Frame} {σ σ' τ : Ledger} {s : Shared}

theorem tm_append {l : Addr} {xs : List AV} {pos : Pos} {args : List Expr} {pl : Sem Bool} {Φ : AV → Frame → Ledger → Prop} (hm : (l, .list xs) ∈ σ)
    (h : WV P C ρ σ (callWith pos (.builtin "list.append") [.ref l] (backTo pos (starEach args C.env)) []) Φ) : ThenM P C pos args "append" pl Φ (.ref l) ρ σ := by
  rintro _ rfl τ s Q E S k
  obtain ⟨ob, hg, vs, n, rfl, hA⟩ := S.get hm
  exact Calls.getMethod_list_append hg rfl rfl (k _ _ ρ σ s rfl h S)
theorem call_append {l : Addr} {xs : List AV} {a : AV} {Φ : AV → Frame → Ledger → Prop} (U : PutL l (.list xs) (.list (xs ++ [a])) σ σ') (hz : xs.length ≤ sizeLine) (h : Φ .none ρ σ') :
    Then P C (fun vs => call (.builtin "list.append") ([.ref l] ++ vs)) Φ [a] ρ σ := by
  intro vs rs τ s Q E S k
  cases rs with | cons h1 h2 => cases h2; exact (by
    obtain ⟨ob, hg, vs, n, rfl, hA⟩ := S.get U.mem
    refine append_at hg (fun h' hs ho' => k .none .none ρ σ' _ rfl h (S.put (n := s.toks) (U.app τ) hs ho' ⟨vs ++ [_], n + 1, ?_, hA.app (.cons h1 .nil)⟩)) (by show vs.length ≤ _; rw [← hA.length]; exact hz)
    simp)
/-- a method of a text -/
theorem tm_str {x : Str} {name : Str} {id : String} {pos : Pos} {args : List Expr} {pl : Sem Bool} {Φ : AV → Frame → Ledger → Prop} (slot : Slot "str" name id) (ty : typeOf (.builtin id) = pure (.type "method_descriptor"))
    (h : ∀ t, WV P C ρ σ (callWith pos (.builtin id) [.str x t] (backTo pos (starEach args C.env)) []) Φ) : ThenM P C pos args name pl Φ (.str x) ρ σ := by
  rintro _ ⟨t, rfl⟩ τ s Q E S k
  exact getMethod_builtin (typeIs_str _ _ _) PySem.F.plainAttrs_str slot ty (fun _ e => nomatch e) (k _ _ ρ σ s rfl (h t) S)
theorem call_join_list {x : Str} {t : Tok} {l : Addr} {ys : List Str} {Φ : AV → Frame → Ledger → Prop} (hm : (l, .list (ys.map AV.str)) ∈ σ) (hsep : x.length ≤ 64) (hok : (ys.map (·.length)).sum + ys.length * 64 ≤ 16777216)
    (h : Φ (.str (Txt.join x ys)) ρ σ) : Then P C (fun vs => call (.builtin "str.join") ([.str x t] ++ vs)) Φ [.ref l] ρ σ := by
  intro vs rs τ s Q E S k
  cases rs with | cons h1 h2 => cases h2; cases h1; exact (by
    obtain ⟨us, hl, hA⟩ := S.isList hm
    exact join_listC hl (by simpa using hA.strs) hsep hok fun t' kk => k _ (.str (Txt.join x ys)) ρ σ _ ⟨t', rfl⟩ h (S.toks _))
theorem call_hex {i : Int} {Φ : AV → Frame → Ledger → Prop} (hz : (baseText "0x" 16 i).length ≤ sizeLine) (h : Φ (.str (baseText "0x" 16 i)) ρ σ) : Then P C (fun vs => call (.builtin "hex") vs) Φ [.int i] ρ σ := by
  intro vs rs τ s Q E S k
  cases rs with | cons h1 h2 => cases h2; obtain ⟨t, rfl⟩ := h1; exact PySem.P.hex_of_int (k _ (.str _) ρ σ _ ⟨_, rfl⟩ h (S.toks _)) hz
/-! a dict of the top under int keys -/
noncomputable def IntKeys (es : List DictEntry) : Prop := ∀ e ∈ es, ∃ k t, e.key = .int k t ∧ e.hash = hashInt k
theorem mapOf_int {d : Addr} {es : Array DictEntry} {n : Nat} {h : Heap} (X : K.In h) (hl : K.lookup d = some ⟨.type "dict", none, .dict es n, #[]⟩) (hk : IntKeys es.toList) :
    h.MapOf (intKind P w) d (fun k => findBy Value.isInt es k) :=
  ⟨_, es, n, X _ _ hl, ⟨rfl, rfl, rfl⟩, rfl, fun e he => by
    obtain ⟨x, t, e1, e2⟩ := hk e (Array.mem_toList_iff.mpr he)
    exact ⟨x, by rw [e1]; exact intKind_is P w x t, e2⟩, fun _ => rfl⟩
theorem tm_dictget {d : Addr} {es : Array DictEntry} {n : Nat} {pos : Pos} {args : List Expr} {pl : Sem Bool} {Φ : AV → Frame → Ledger → Prop} (hl : K.lookup d = some ⟨.type "dict", none, .dict es n, #[]⟩)
    (h : WV P C ρ σ (callWith pos (.builtin "dict.get") [.ref d] (backTo pos (starEach args C.env)) []) Φ) : ThenM P C pos args "get" pl Φ (.ref d) ρ σ := by
  rintro _ rfl τ s Q E S k
  exact getMethod_builtin (T := "dict") (show s.TypeIs (.ref d) "dict" from ⟨_, S.XH _ _ hl, rfl⟩) PySem.F.plainAttrs_dict PySem.F.slot_dict_get PySem.F.type_dict_get (fun a e => by cases e; exact ⟨_, S.XH _ _ hl, rfl⟩) (k _ _ ρ σ s rfl h S)
theorem call_dictget {d : Addr} {es : Array DictEntry} {n : Nat} {i : Int} {b r : AV} {Φ : AV → Frame → Ledger → Prop} (hl : K.lookup d = some ⟨.type "dict", none, .dict es n, #[]⟩) (hk : IntKeys es.toList) (hs : (d == sysModules) = false)
    (hr : match findBy Value.isInt es i with | some v => r.is v | none => r = b) (h : Φ r ρ σ) : Then P C (fun vs => call (.builtin "dict.get") ([.ref d] ++ vs)) Φ [.int i, b] ρ σ := by
  intro vs rs τ s Q E S k
  cases rs with | cons h1 h2 => cases h2 with | cons h3 h4 =>
    cases h4; obtain ⟨t, rfl⟩ := h1
    have hm := mapOf_int (P := P) (w := w) S.XH hl hk
    refine call_meetsIn PySem.F.slot_dict_get (T := "dict") (show s.TypeIs (.ref d) "dict" from ⟨_, S.XH _ _ hl, rfl⟩) PySem.F.entry_dict_get (PySem.F.args_dict_get_3 _ _ _) (meets_dict_get_default (intKind P w) d (intKind_is P w i t) hs _) ⟨_, hm, ?_⟩
    refine k _ r ρ σ _ ?_ h (S.toks _)
    cases e : findBy Value.isInt es i with
    | some v => rw [e] at hr; exact hr
    | none => rw [e] at hr; subst hr; exact h3
end
end Mine
end
section -- M1
open PySem PySem.W PySem.Calls PyProof.Rows
set_option Elab.async false
set_option maxRecDepth 100000
set_option linter.unusedVariables false
namespace Mine
noncomputable def flagNames : List Str := [Str.ofString "OPTIMIZED", Str.ofString "NEWLOCALS", Str.ofString "VARARGS", Str.ofString "VARKEYWORDS", Str.ofString "NESTED", Str.ofString "GENERATOR", Str.ofString "NOFREE", Str.ofString "COROUTINE", Str.ofString "ITERABLE_COROUTINE", Str.ofString "ASYNC_GENERATOR"]
noncomputable def flagWord (n : Nat) : Str := match flagNames[n]? with
  | some x => x
  | none => Str.ofString "0x" ++ ⟨#[[49, 50, 52, 56].getD (n % 4) 0]⟩ ++ rep 48 ((n / 4 : Nat) : Int)
noncomputable def wordsOf (n k : Nat) : List Str := ((List.range k).filter n.testBit).map flagWord
noncomputable def prettyOf (n : Nat) : Str := if n = 0 then Str.ofString "0x0" else Txt.join (Str.ofString ", ") (wordsOf n 32)
/-- the flags without the lowest i bits -/
noncomputable def clearLow (n i : Nat) : Nat := n >>> i <<< i
theorem clear0 (n : Nat) : clearLow n 0 = n := rfl
theorem clear_bit (n i j : Nat) : (clearLow n i).testBit j = (decide (i ≤ j) && n.testBit j) := by
  unfold clearLow
  rw [Nat.testBit_shiftLeft, Nat.testBit_shiftRight]
  by_cases h : i ≤ j
  · simp [h, Nat.add_sub_cancel' h]
  · simp [h]
theorem and_two (m i : Nat) : m &&& 2 ^ i = if m.testBit i then 2 ^ i else 0 := by
  apply Nat.eq_of_testBit_eq
  intro j
  rw [Nat.testBit_and, Nat.testBit_two_pow]
  by_cases h : i = j
  · subst h
    cases m.testBit i <;> simp [Nat.testBit_two_pow]
  · cases m.testBit i <;> simp [Nat.testBit_two_pow, h]
theorem clear_next_not (n i : Nat) (h : n.testBit i = false) : clearLow n i = clearLow n (i + 1) := by
  apply Nat.eq_of_testBit_eq
  intro j
  rw [clear_bit, clear_bit]
  by_cases e : i = j
  · subst e; simp [h]
  · by_cases l : i ≤ j
    · have : i + 1 ≤ j := by omega
      simp [l, this]
    · have : ¬ i + 1 ≤ j := by omega
      simp [l, this]
theorem words_next_set (n i : Nat) (h : n.testBit i = true) : wordsOf n (i + 1) = wordsOf n i ++ [flagWord i] := by
  unfold wordsOf; rw [List.range_succ, List.filter_append, List.map_append]; simp [h]
theorem words_next_not (n i : Nat) (h : n.testBit i = false) : wordsOf n (i + 1) = wordsOf n i := by
  unfold wordsOf; rw [List.range_succ, List.filter_append, List.map_append]; simp [h]
theorem words_end (n i : Nat) (h : clearLow n i = 0) (hi : i ≤ 32) : wordsOf n 32 = wordsOf n i := by
  have : ∀ k, wordsOf n (i + k) = wordsOf n i := by
    intro k
    induction k with
    | zero => rfl
    | succ k ih =>
      rw [← Nat.add_assoc, words_next_not, ih]
      have := clear_bit n i (i + k)
      rw [h] at this
      simpa using this.symm
  have := this (32 - i)
  rwa [show i + (32 - i) = 32 by omega] at this
theorem clear_32 (n : Nat) (h : n < 2 ^ 32) : clearLow n 32 = 0 := by
  unfold clearLow
  rw [Nat.shiftRight_eq_div_pow, Nat.div_eq_of_lt h, Nat.zero_shiftLeft]
theorem words_len (n i : Nat) : (wordsOf n i).length ≤ i := by
  unfold wordsOf; rw [List.length_map]; exact Nat.le_trans (List.length_filter_le _ _) (by simp)
theorem flag_len : ∀ i : Fin 40, (flagWord i).length ≤ 18 := by decide +kernel
theorem words_sum (n i : Nat) (hi : i ≤ 32) : ((wordsOf n i).map (·.length)).sum ≤ 18 * i := by
  unfold wordsOf
  induction i with
  | zero => simp
  | succ i ih =>
    rw [List.range_succ, List.filter_append, List.map_append, List.map_append, List.sum_append]
    have := ih (by omega)
    have h2 := flag_len ⟨i, by omega⟩
    cases h : n.testBit i
    · rw [List.filter_cons_of_neg (by simp [h])]; simp only [List.filter_nil, List.map_nil, List.sum_nil]; omega
    · rw [List.filter_cons_of_pos (by simp [h])]; simp only [List.filter_nil, List.map_cons, List.map_nil, List.sum_cons, List.sum_nil]; simp only at h2; omega
theorem bitAnd_nat (a b : Nat) : Builtin.bitAnd (a : Int) (b : Int) = ((a &&& b : Nat) : Int) := by
  unfold Builtin.bitAnd
  simp
theorem clear_sub (n i : Nat) (h : n.testBit i = true) : clearLow n i = clearLow n (i + 1) + 2 ^ i := by
  unfold clearLow
  rw [Nat.shiftLeft_eq, Nat.shiftLeft_eq, Nat.shiftRight_eq_div_pow, Nat.shiftRight_eq_div_pow]
  have h1 : n / 2 ^ i % 2 = 1 := by
    rw [Nat.testBit_eq_decide_div_mod_eq] at h
    simpa using h
  have h2 : n / 2 ^ (i + 1) = n / 2 ^ i / 2 := by rw [Nat.pow_succ, Nat.div_div_eq_div_mul]
  rw [h2, Nat.pow_succ]
  generalize n / 2 ^ i = q at *
  have h3 : q = 2 * (q / 2) + 1 := by omega
  conv => lhs; rw [h3]
  rw [Nat.add_mul, Nat.one_mul, Nat.mul_comm (2 ^ i) 2, ← Nat.mul_assoc, Nat.mul_comm (q / 2) 2]
theorem bitXor_low (n i : Nat) (h : n.testBit i = true) : Builtin.bitXor (clearLow n i : Int) ((2 ^ i : Nat) : Int) = (clearLow n (i + 1) : Int) := by
  rw [bitXor_and, bitAnd_nat, and_two]
  have : (clearLow n i).testBit i = true := by rw [clear_bit]; simp [h]
  rw [this, if_pos rfl, clear_sub n i h]
  omega
end Mine
end
section -- B9
open PySem PySem.W PySem.Calls PyProof.Rows
set_option Elab.async false
set_option maxRecDepth 100000
set_option linter.unusedVariables false
namespace Mine
/-! calls of a def that has cells -/
noncomputable def frameOf (names : List (Str × NameKind)) (args : List (Str × AV)) : Frame := (names.filter (fun p => p.2 == .local)).map fun p => (p.1, args.lookup p.1)
noncomputable def cellsOf (names : List (Str × NameKind)) (args : List (Str × AV)) : List (Str × Option AV) := (cellsFrom 0 names []).map fun p => (p.1, args.lookup p.1)
noncomputable def ForCells : List (Str × Option AV) → (List (Str × Addr) → Ledger → Prop) → Prop
  | [], k => k [] []
  | (x, o) :: r, k => ∀ a : Addr, ForCells r fun cs l => k ((x, a) :: cs) ((a, .cell o) :: l)
theorem ForCells.at {args : List (Str × AV)} : ∀ {cn : List (Str × Option AV)} {k : List (Str × Addr) → Ledger → Prop}, ForCells cn k → ∀ cs : List (Str × Addr), cn = cs.map (fun p => (p.1, args.lookup p.1)) →
    k cs (cs.map fun p => (p.2, .cell (args.lookup p.1)))
  | [], k, h, cs, e => by
    cases cs with
    | nil => exact h
    | cons _ _ => cases e
  | (x, o) :: r, k, h, cs, e => by
    cases cs with
    | nil => cases e
    | cons p cs =>
      obtain ⟨y, a⟩ := p
      rw [List.map_cons, List.cons.injEq] at e
      obtain ⟨e1, e2⟩ := e
      cases e1
      exact (ForCells.at (h a) cs e2)
theorem lookup_map2 {β : Type} {γ : Type} (f : Str → γ) (l : List (Str × β)) (y : Str) : (l.map fun p => (p.1, f p.1)).lookup y = if y ∈ l.map Prod.fst then some (f y) else none := by
  induction l with
  | nil => rfl
  | cons p l ih =>
    rw [List.map_cons, List.lookup_cons]
    by_cases e : y = p.1
    · subst e; simp
    · have : (y == p.1) = false := by simp [e]
      rw [this]
      simp only [ih, List.map_cons, List.mem_cons, e, false_or]
theorem mem_locals {names : List (Str × NameKind)} (nd : (names.map Prod.fst).Nodup) (y : Str) : y ∈ (names.filter (fun p => p.2 == .local)).map Prod.fst ↔ names.lookup y = some .local := by
  induction names with
  | nil => simp
  | cons p r ih =>
    obtain ⟨x, k⟩ := p
    have nd' := List.nodup_cons.mp nd
    rw [List.lookup_cons]
    by_cases e : y = x
    · subst e
      rw [show (y == y) = true from by simp]
      by_cases hk : k = .local
      · subst hk; simp
      · have hk' : (k == NameKind.local) = false := by simp [hk]
        simp only [List.filter_cons, hk', Bool.false_eq_true, if_false]
        refine ⟨fun h => absurd ?_ nd'.1, fun h => absurd (Option.some.inj h) hk⟩
        obtain ⟨q, hq, e⟩ := List.mem_map.mp h
        exact List.mem_map.mpr ⟨q, (List.mem_filter.mp hq).1, e⟩
    · rw [show (y == x) = false from by simp [e]]
      rw [← ih nd'.2]
      by_cases hk : k = .local
      · subst hk; simp [e]
      · have hk' : (k == NameKind.local) = false := by simp [hk]
        simp [hk']
theorem bindL_eq (k : Str → Option NameKind) : ∀ (bs : List (Str × Value)) (m : Str → Option Value) (y : Str), (bs.map Prod.fst).Nodup → bindL k bs m y = if k y = some .local then (bs.lookup y).or (m y) else m y
  | [], m, y, _ => by simp [bindL]
  | (n, v) :: r, m, y, nd => by
    have nd' := List.nodup_cons.mp nd
    rw [bindL, bindL_eq k r _ y nd'.2, List.lookup_cons]
    by_cases e : y = n
    · subst e
      rw [show (y == y) = true from by simp, lookup_not_mem nd'.1]
      by_cases hk : k y = some .local
      · simp [hk]
      · simp [hk]
    · rw [show (y == n) = false from by simp [e]]
      by_cases hk : k y = some .local <;> by_cases hn : k n = some .local <;> simp [hk, hn, e]
theorem bindC_eq (k : Str → Option NameKind) : ∀ (bs : List (Str × Value)) (m : Str → Option Value) (y : Str), (bs.map Prod.fst).Nodup → k y ≠ some .local → bindC k bs m y = (bs.lookup y).or (m y)
  | [], m, y, _, _ => by simp [bindC]
  | (n, v) :: r, m, y, nd, hy => by
    have nd' := List.nodup_cons.mp nd
    rw [bindC, bindC_eq k r _ y nd'.2 hy, List.lookup_cons]
    by_cases e : y = n
    · subst e
      rw [show (y == y) = true from by simp, lookup_not_mem nd'.1]
      simp [hy]
    · rw [show (y == n) = false from by simp [e]]
      by_cases hn : k n = some .local <;> simp [hn, e]
theorem BindIs.at {xs as bs} (h : BindIs xs as bs) (y : Str) : OptIs ((xs.zip as).lookup y) (bs.lookup y) := by
  induction h with
  | nil => rfl
  | cons ha _ ih =>
    rw [List.zip_cons_cons, List.lookup_cons, List.lookup_cons]
    split
    · exact ⟨_, rfl, ha⟩
    · exact ih
theorem kinds_cell : ∀ (names : List (Str × NameKind)) (n : Nat) (acc : List (Str × Addr)) (x : Str) (c : Addr), (x, c) ∈ cellsFrom n names acc → (x, c) ∈ acc ∨ (x, NameKind.cell) ∈ names
  | [], _, _, _, _, h => .inl h
  | (name, kind) :: r, n, acc, x, c, h => by
    unfold cellsFrom at h
    split at h
    · rename_i hk
      have hk' : kind = .cell := by simpa using hk
      rcases kinds_cell r _ _ x c h with h | h
      · rcases List.mem_cons.mp h with e | h
        · cases e; exact .inr (by rw [hk']; exact .head _)
        · exact .inl h
      · exact .inr (.tail _ h)
    · rcases kinds_cell r _ _ x c h with h | h
      · exact .inl h
      · exact .inr (.tail _ h)
theorem lookup_of_mem_nodup' {β : Type} : ∀ {cs : List (Str × β)} {n : Str} {c : β}, (cs.map Prod.fst).Nodup → (n, c) ∈ cs → cs.lookup n = some c := by
  intro cs n c nd hm
  induction cs with
  | nil => cases hm
  | cons p r ih =>
    obtain ⟨x, k⟩ := p
    have nd' := List.nodup_cons.mp nd
    rcases List.mem_cons.mp hm with e | hm
    · cases e; simp
    · have hne : n ≠ x := fun e => nd'.1 (List.mem_map.mpr ⟨_, hm, e⟩)
      rw [List.lookup_cons, show (n == x) = false from by simp [hne]]
      exact ih nd'.2 hm
section
variable {P : Program} {w : World} {K : Frag} {sc : Scope} {C : Ctxt w K sc} {ρ ρ' : Frame} {σ σ' τ : Ledger} {s : Shared}
theorem call_fnC {f : Addr} {name qual : Str} {params : Arguments} {body : List Stmt} {sc' : Scope} {dV kV doc pm cdv ct oc : Value} {an od : Option Addr} {osl : Array (Option Value)} {names : List Str} {args : List AV} {vs : List Value} {ρ₁ : Frame} {cn : List (Str × Option AV)} {Φ : AV → Frame → Ledger → Prop}
    (ho : K.lookup f = some ⟨oc, od, .func (fnX name qual params body sc' [] dV kV doc pm an cdv ct), osl⟩) (hd : 1 ≤ C.d)
    (hb : ∀ (h : Shared), K.In h.heap → ∃ bs, BindsTo h (fnX name qual params body sc' [] dV kV doc pm an cdv ct) ⟨vs, []⟩ bs ∧ BindIs names args bs)
    (hcd : codeIn K cdv qual = true) (hnn : names.Nodup) (nd : (sc'.names.map Prod.fst).Nodup) (hk2 : (names.all fun y => sc'.names.lookup y == some .local || sc'.names.lookup y == some .cell) = true)
    (hρ : ρ₁ = frameOf sc'.names (names.zip args)) (hcn : cn = cellsOf sc'.names (names.zip args)) (hcnd : ((cellsFrom 0 sc'.names []).map (·.1)).Nodup)
    (hco : sc'.isCoroutine = false) (hgen : sc'.isGenerator = false) (hk : sc'.kind = .function)
    (h : ∀ C' : Ctxt w K sc', C'.d + 1 = C.d → ForCells cn fun cs l => C'.env.cells = cs → WF P C' ρ₁ (l ++ σ) (execs body C'.env) fun fl _ σ' => Φ fl.val ρ σ') :
    WV P C ρ σ (call (.ref f) vs) Φ := by
  intro τ s Q E S k
  obtain ⟨bs, hb1, hb2⟩ := hb s S.XH
  have hkb : (bs.all fun y => sc'.names.lookup y.1 == some .local || sc'.names.lookup y.1 == some .cell) = true := by
    refine List.all_eq_true.mpr fun p hp => List.all_eq_true.mp hk2 _ ?_
    rw [← hb2.keys]; exact List.mem_map_of_mem hp
  have hbnd : (bs.map Prod.fst).Nodup := by rw [hb2.keys]; exact hnn
  obtain ⟨m, F, hm⟩ := S.fr
  refine wpAny_call (codeAny_call_function (fd := fnX name qual params body sc' [] dV kV doc pm an cdv ct) (body := body) (by have := C.room; omega) (S.XH _ _ ho) rfl hco hgen rfl (codeRec_of S.XH hcd) (hb1 _ _ _ _ ?_))
  refine wpAny_newFunctionEnv_cells hk (kindsX hkb _) fun env' he s' x => ?_
  subst he
  refine ⟨(C.nolim.keeps F.keep).keeps x.toInCall.keep, codeAny_func ?_⟩
  obtain ⟨h₁, tk, rfl, hk₁⟩ := x.done
  have hkind : ∀ y, Env.kindOf (newEnv sc' s.heap.objs.size mainGlobals (cellsFrom (s.heap.objs.size + 1) sc'.names []) (qual ++ ".<locals>.") (some f) cdv none builtinsNs) y = sc'.names.lookup y := fun y => rfl
  have hmok : mOk ρ₁ (bindL (Env.kindOf (newEnv sc' s.heap.objs.size mainGlobals (cellsFrom (s.heap.objs.size + 1) sc'.names []) (qual ++ ".<locals>.") (some f) cdv none builtinsNs)) bs fun _ => none) := by
    intro y
    rw [bindL_eq _ _ _ _ hbnd, hkind, hρ]
    unfold frameOf
    rw [lookup_map2 (fun x => (names.zip args).lookup x)]
    by_cases hl : sc'.names.lookup y = some .local
    · rw [if_pos ((mem_locals nd y).mpr hl), if_pos hl, Option.or_none]
      have := hb2.at y
      cases e : (names.zip args).lookup y with
      | none => rw [e] at this; exact this
      | some a => rw [e] at this; obtain ⟨v, h1, h2⟩ := this; exact ⟨v, h1, h2⟩
    · rw [if_neg (fun q => hl ((mem_locals nd y).mp q)), if_neg hl]
  have hnd : (ρ₁.map Prod.fst).Nodup := by
    rw [hρ]; unfold frameOf
    rw [List.map_map]
    exact nd.sublist ((List.filter_sublist (l := sc'.names)).map Prod.fst)
  have S₀ := sub_start (hd := hd) (S := S) (sc' := sc') (env := newEnv sc' s.heap.objs.size mainGlobals (cellsFrom (s.heap.objs.size + 1) sc'.names []) (qual ++ ".<locals>.") (some f) cdv none builtinsNs) (h1 := rfl) (h2 := hk) (h3 := rfl) (h4 := rfl) (h5 := rfl) (n := tk) x.toInCall.ns hk₁ hmok hnd
  -- the cells
  have hcells : ∀ n c, (n, c) ∈ cellsFrom (s.heap.objs.size + 1) sc'.names [] → (∃ o, h₁.get? c = some o ∧ (AObj.cell ((names.zip args).lookup n)).is w.params o) ∧ s.heap.objs.size < c := by
    intro n c hmem
    have hnl : sc'.names.lookup n ≠ some .local := by
      intro q
      rcases kinds_cell _ _ _ _ _ hmem with h | h
      · cases h
      · have := (mem_locals nd n).mpr q
        obtain ⟨p, hp, e⟩ := List.mem_map.mp this
        obtain ⟨hp1, hp2⟩ := List.mem_filter.mp hp
        have : p.2 = .local := by simpa using hp2
        have e1 := lookup_of_mem_nodup' nd h
        rw [e1] at q; cases q
    obtain ⟨o, ho, hod⟩ := x.cell n c (lookup_of_mem_nodup (cellsFrom_names sc'.names 0 (s.heap.objs.size + 1) [] [] rfl ▸ hcnd) hmem)
    refine ⟨⟨o, ho, ?_⟩, x.above n c hmem⟩
    rw [bindC_eq _ _ _ _ hbnd (by rw [hkind]; exact hnl), Option.or_none] at hod
    have := hb2.at n
    cases e : (names.zip args).lookup n with
    | none => rw [e] at this; rw [this] at hod; exact hod
    | some a => rw [e] at this; obtain ⟨v, h1, h2⟩ := this; rw [h1] at hod; exact ⟨v, hod, h2⟩
  have S₁ : St (sub C S hd sc' (newEnv sc' s.heap.objs.size mainGlobals (cellsFrom (s.heap.objs.size + 1) sc'.names []) (qual ++ ".<locals>.") (some f) cdv none builtinsNs) rfl hk rfl rfl rfl) ρ₁
      (((cellsFrom (s.heap.objs.size + 1) sc'.names []).map fun p => (p.2, AObj.cell ((names.zip args).lookup p.1))) ++ σ ++ τ) { s with heap := h₁, toks := tk } := by
    rw [List.append_assoc]
    refine ⟨S₀.fr, fun p hp => ?_, ?_, S₀.kn, S₀.os, S₀.gens⟩
    · rcases List.mem_append.mp hp with hp | hp
      · obtain ⟨q, hq, rfl⟩ := List.mem_map.mp hp
        obtain ⟨h1, h2⟩ := hcells q.1 q.2 hq
        refine ⟨h1, Nat.ne_of_gt h2, ?_⟩
        show (hideAll s.heap _).get? q.2 = none
        cases e : (hideAll s.heap ((σ ++ τ).map Prod.fst)).get? q.2 with
        | none => rfl
        | some o' => exact absurd (Heap.lt_size (of_hideAll _ e)) (Nat.lt_asymm h2)
      · exact S₀.led p hp
    · rw [List.map_append, List.nodup_append]
      refine ⟨?_, S₀.nd, ?_⟩
      · rw [List.map_map]
        have := x.apart
        exact List.pairwise_map.mpr this
      · intro a ha b hb' e
        subst e
        obtain ⟨q0, hq0, e0⟩ := List.mem_map.mp ha
        obtain ⟨q, hq, e1⟩ := List.mem_map.mp hq0
        obtain ⟨p, hp, e⟩ := List.mem_map.mp hb'
        have h1 := (hcells q.1 q.2 hq).2
        have h2 := S.lt hp
        have e' : p.1 = q.2 := by rw [e, ← e0, ← e1]
        rw [e'] at h2
        exact Nat.lt_asymm h1 h2
  have hh := (h (sub C S hd sc' (newEnv sc' s.heap.objs.size mainGlobals (cellsFrom (s.heap.objs.size + 1) sc'.names []) (qual ++ ".<locals>.") (some f) cdv none builtinsNs) rfl hk rfl rfl rfl) (by show C.d - 1 + 1 = C.d; omega)).at (args := names.zip args) (cellsFrom (s.heap.objs.size + 1) sc'.names []) (by
    rw [hcn]; unfold cellsOf
    have e := cellsFrom_names sc'.names 0 (s.heap.objs.size + 1) [] [] rfl
    have key : ∀ l l' : List (Str × Addr), l.map (·.1) = l'.map (·.1) → l.map (fun p => (p.1, (names.zip args).lookup p.1)) = l'.map fun p => (p.1, (names.zip args).lookup p.1) := by
      intro l l' q
      have := congrArg (List.map fun x => (x, (names.zip args).lookup x)) q
      simpa [List.map_map, Function.comp_def] using this
    exact key _ _ e)
  refine hh rfl τ _ _ _ S₁ fun fl b ρ' σ' s' r p S' => ?_
  have S'' := sub_back S'
  cases b with
  | ret a => obtain ⟨v, rfl, ha⟩ := r; exact k v a ρ σ' s' ha p S''
  | next => cases r; exact k .none .none ρ σ' s' rfl p S''
  | brk => cases r; exact k .none .none ρ σ' s' rfl p S''
  | cont => cases r; exact k .none .none ρ σ' s' rfl p S''
end
end Mine
end
section -- B10
open PySem PySem.W PySem.Calls PyProof.Rows
set_option Elab.async false
set_option maxRecDepth 100000
set_option linter.unusedVariables false
namespace Mine
/-! comprehensions -/
noncomputable def relabelS (scope sc : Scope) : Scope :=
  { scope with names := scope.names.map fun (n, k) => if (k == .free && sc.kind == .function && sc.names.lookup n == some .cell) then (n, .cell) else (n, k) }
theorem relabel_eq {scope : Scope} {env : Env} {sc : Scope} (h : env.scope = sc) : relabel scope env = relabelS scope sc := by
  subst h; rfl
noncomputable def closOf (cs : List (Str × Addr)) : List (Str × NameKind) → List (Str × Addr) → Option (List (Str × Addr))
  | [], acc => some acc
  | (n, k) :: r, acc => if k == .free then match cs.lookup n with | some a => closOf cs r ((n, a) :: acc) | none => none else closOf cs r acc
theorem closureFor_eq {scope : Scope} {env : Env} {cs cl : List (Str × Addr)} (hc : env.cells = cs) (h : closOf cs scope.names [] = some cl) : closureFor scope env = pure cl := by
  subst hc
  unfold closureFor
  have key : ∀ (names : List (Str × NameKind)) (acc : List (Str × Addr)), closOf env.cells names acc = some cl →
      (forIn names acc fun (x : Str × NameKind) r => match x with | (name, kind) => if (kind == .free) = true then do let __do_lift ← cellOf env name; let cs := (name, __do_lift) :: r; pure PUnit.unit; pure (ForInStep.yield cs) else do pure PUnit.unit; pure (ForInStep.yield r) : Sem (List (Str × Addr))) = pure cl := by
    intro names
    induction names with
    | nil => intro acc e; cases e; rfl
    | cons p r ih =>
      intro acc e
      obtain ⟨n, k⟩ := p
      rw [List.forIn_cons]
      unfold closOf at e
      by_cases hk : (k == NameKind.free) = true
      · rw [if_pos hk] at e
        cases el : env.cells.lookup n with
        | none => rw [el] at e; cases e
        | some a =>
          rw [el] at e
          simp only [hk, if_true]
          have : cellOf env n = pure a := by unfold cellOf; rw [el]
          rw [this]
          exact ih _ e
      · rw [if_neg hk] at e
        simp only [hk, if_false]
        exact ih _ e
  have := key scope.names [] h
  rw [← bind_pure (pure cl : Sem _), ← this]
section
variable {P : Program} {w : World} {K : Frag} {sc : Scope} {C : Ctxt w K sc} {ρ ρ' : Frame} {σ σ' τ : Ledger} {s : Shared}

/-- a context within: the same frames -/
noncomputable def inn (C : Ctxt w K sc) {ρ : Frame} {σ : Ledger} (S : St C ρ σ s) (L' : Addr) (sc' : Scope) (env : Env) (h1 : env.scope = sc') (h2 : sc'.kind = .function) (h3 : env.locals = L') (h4 : env.globals = mainGlobals) (h5 : env.builtins = builtinsNs) : Ctxt w K sc' :=
  have st : ∀ b o, C.h₀.get? b = some o → (hideAll s.heap (σ.map Prod.fst)).get? b = some o := fun b o e => by
    obtain ⟨m, F, _⟩ := S.fr
    refine hideAll_get _ (F.keep b o e) fun q => ?_
    obtain ⟨p, hp, rfl⟩ := List.mem_map.mp q
    rw [(S.led p hp).2.2] at e; cases e
  { A := C.A, h₀ := hideAll s.heap (σ.map Prod.fst), L := L', os := C.os, d := C.d, env := env, hsc := h1, hkind := h2, hL := h3, hG := h4, hB := h5,
    hand := C.hand, X := C.X.keeps st, mg := C.mg, mb := C.mb, G := C.G.keeps st, Bi := C.Bi.keeps st, nolim := C.nolim.keeps st, bi := C.bi,
    room := C.room, units := C.units, bmod := let ⟨bm, o, h1, h2, h3, h4⟩ := C.bmod; ⟨bm, o, h1, h2, st _ _ h3, h4⟩ }
theorem inn_start {env : Env} {L' : Addr} {sc' : Scope} {h1 h2 h3 h4 h5} {S : St C ρ σ s} {m' : Str → Option Value} {h' : Heap} {n : Nat} (hL : s.heap.objs.size ≤ L') (hns : h'.Ns L' m') (hk : ∀ b o, s.heap.get? b = some o → h'.get? b = some o)
    (hm : mOk ρ' m') (nd : (ρ'.map Prod.fst).Nodup) : St (inn C S L' sc' env h1 h2 h3 h4 h5) ρ' σ { s with heap := h', toks := n } := by
  refine ⟨⟨m', ⟨hns, fun b o e => hk b o (of_hideAll _ e), ?_⟩, hm⟩, fun p hp => ?_, S.nd, nd, S.os, S.gens⟩
  · show (hideAll s.heap _).objs.size ≤ L'
    rw [hideAll_size]; exact hL
  obtain ⟨⟨o, e, i⟩, r⟩ := S.led p hp
  exact ⟨⟨o, hk _ _ e, i⟩, Nat.ne_of_lt (Nat.lt_of_lt_of_le (Heap.lt_size e) hL), hideAll_none _ (List.mem_map_of_mem hp)⟩
theorem inn_back {env : Env} {L' : Addr} {sc' : Scope} {h1 h2 h3 h4 h5} {S : St C ρ σ s} {s' : Shared} (hL : s.heap.objs.size ≤ L') (S' : St (inn C S L' sc' env h1 h2 h3 h4 h5) ρ' σ' s') :
    St C ρ ((L', .pred fun o => ∃ m, LCg.NsObj o m) :: σ') s' := by
  obtain ⟨m, F, hm⟩ := S.fr
  obtain ⟨m', F', _⟩ := S'.fr
  have st : ∀ b o, C.h₀.get? b = some o → (hideAll s.heap (σ.map Prod.fst)).get? b = some o := fun b o e => by
    refine hideAll_get _ (F.keep b o e) fun q => ?_
    obtain ⟨p, hp, rfl⟩ := List.mem_map.mp q
    rw [(S.led p hp).2.2] at e; cases e
  obtain ⟨oL, es, ep, hL0, rL⟩ := F.ns
  have hLg : (hideAll s.heap (σ.map Prod.fst)).get? C.L = some oL := hideAll_get _ hL0 fun q => by
    obtain ⟨p, hp, e⟩ := List.mem_map.mp q
    exact (S.led p hp).2.1 e
  have hne : L' ≠ C.L := fun q => by
    have := Heap.lt_size hL0
    rw [← q] at this; exact absurd this (Nat.not_lt.mpr hL)
  refine ⟨⟨m, ⟨⟨oL, es, ep, F'.keep _ _ hLg, rL⟩, fun b o e => F'.keep b o (st b o e), F.above⟩, hm⟩, fun p hp => ?_, ?_, S.kn, S'.os, S'.gens⟩
  · rcases List.mem_cons.mp hp with rfl | hp
    · obtain ⟨o, e, x⟩ := LCg.ns_obj F'.ns
      refine ⟨⟨o, e, _, x⟩, hne, ?_⟩
      cases q : C.h₀.get? L' with
      | none => rfl
      | some o' => exact absurd (Heap.lt_size (F.keep _ _ q)) (Nat.not_lt.mpr hL)
    · obtain ⟨x, _, hn⟩ := S'.led p hp
      refine ⟨x, fun q => ?_, ?_⟩
      · have : (hideAll s.heap (σ.map Prod.fst)).get? p.1 = none := hn
        rw [q, hLg] at this; cases this
      · cases q : C.h₀.get? p.1 with
        | none => rfl
        | some o => have : (hideAll s.heap (σ.map Prod.fst)).get? p.1 = none := hn; rw [st _ _ q] at this; cases this
  · refine List.nodup_cons.mpr ⟨fun q => ?_, S'.nd⟩
    obtain ⟨p, hp, e⟩ := List.mem_map.mp q
    exact (S'.led p hp).2.1 e

/-! tests -/
noncomputable abbrev testsT (ifs : List Expr) (env : Env) : Sem Bool := forIn ifs true fun c r => if r = true then do let ok ← isTrue c env (eval c env); pure (ForInStep.yield ok) else pure (ForInStep.yield r)
theorem t_nil {Φ : Bool → Frame → Ledger → Prop} (h : Φ true ρ σ) : WB P C ρ σ (testsT [] C.env) Φ :=
  fun τ s Q E S k => wpAny_tests_nil (k _ _ ρ σ s rfl h S)
theorem t_one {c : Expr} {Φ : Bool → Frame → Ledger → Prop} (h : WB P C ρ σ (isTrue c C.env (eval c C.env)) Φ) : WB P C ρ σ (testsT [c] C.env) Φ :=
  fun τ s Q E S k => wpAny_tests_one (h τ s Q E S k)

/-- a turn's shape -/
noncomputable def TurnIs (e : Expr) (d : Nat) (x : Str) (px p0 : Pos) (ifs : List Expr) (env : Env) (emit : Value → Sem Unit) : Prop :=
  ∀ it acc, compTurn e d it acc env = (standAt p0 >>= fun _ => pyNext it >>= fun r => match r with
      | none => pure (.done .next)
      | some v => letOwnedTupleGo (.Name x px) it v >>= fun _ => assign (.Name x px) env v >>= fun _ => testsT ifs env >>= fun ok =>
        if ok = true then emit acc >>= fun _ => again (.compLoop e d it acc env) else again (.compLoop e d it acc env))
theorem comp_loop {elt : Expr} {gens : List Comprehension} {scope : Scope} {cpos : Pos} {d : Nat} {x : Str} {px p0 : Pos} {ifs : List Expr} {emit : Value → Sem Unit} {v : Value} {xs : List AV} {src : Ledger → Prop} {io : Nat → Obj → Prop} {it : Addr} {acc : Value} {R : Result → Shared → Prop}
    (ht : TurnIs (.ListComp elt gens scope cpos) d x px p0 ifs C.env emit) (spec : IterSpec P C v xs src io) (I : Nat → Frame → Ledger → Prop) (hIs : ∀ i ρ σ, I i ρ σ → src σ)
    (turn : ∀ i b ρ σ, I i ρ σ → xs[i]? = some b → ∀ vb, b.is vb → WU P C ρ σ (storeName C.env x vb) fun ρ' σ' => WB P C ρ' σ' (testsT ifs C.env) fun ok ρ'' σ'' =>
      if ok then WU P C ρ'' σ'' (emit acc) (I (i + 1)) else I (i + 1) ρ'' σ'')
    (hI : I 0 ρ σ) (S : St C ρ ((it, .pred (io 0)) :: σ ++ τ) s) (fin : ∀ ρ' σ' s', I xs.length ρ' σ' → St C ρ' (σ' ++ τ) s' → R (.ok .next) s') :
    codeAny (model P w) C.A (.compLoop (.ListComp elt gens scope cpos) d (.ref it) acc C.env) R s := by
  refine codeAny_loop rfl (fun n s => ∃ i ρ σ, n = xs.length - i ∧ i ≤ xs.length ∧ I i ρ σ ∧ St C ρ ((it, .pred (io i)) :: σ ++ τ) s) ?_ (xs.length - 0) ⟨0, ρ, σ, rfl, Nat.zero_le _, hI, S⟩
  rintro n s ⟨i, ρ, σ, rfl, hle, hI, S⟩
  show wpAny _ C.A ((compTurn (.ListComp elt gens scope cpos) d (.ref it) acc C.env).onRaise (fun x => do noteFrame x C.env; theTreesLotGoes x)) _ _ s
  refine wpAny_noted ?_
  rw [ht]
  refine wpAny_bind (wpAny_standAt (wpAny_bind ?_))
  rcases Nat.lt_or_ge i xs.length with hlt | hge
  · have hx : xs[i]? = some xs[i] := List.getElem?_eq_getElem hlt
    refine spec.next ρ σ it i xs[i] (fun o ρ' σ' => o = some xs[i] ∧ ρ' = ρ ∧ σ' = (it, .pred (io (i + 1))) :: σ) (hIs _ _ _ hI) hx ⟨rfl, rfl, rfl⟩ τ s _ _ S fun v3 a3 ρ3 σ3 s3 r3 p3 S3 => ?_
    obtain ⟨rfl, rfl, rfl⟩ := p3
    obtain ⟨vb, rfl, hb⟩ := r3
    refine wpAny_bind (wpAny_of_eq (a := ()) rfl ?_)
    refine wpAny_bind (wpAny_assign_Name ?_)
    have S3' : St C ρ3 (σ ++ ((it, .pred (io (i + 1))) :: τ)) s3 := S3.perm (by
      rw [List.cons_append]; exact List.perm_middle.symm)
    have back : ∀ {ρ5 σ5 s5}, I (i + 1) ρ5 σ5 → St C ρ5 (σ5 ++ ((it, .pred (io (i + 1))) :: τ)) s5 → ∃ m, m < xs.length - i ∧ ∃ i' ρ σ, m = xs.length - i' ∧ i' ≤ xs.length ∧ I i' ρ σ ∧ St C ρ ((it, .pred (io i')) :: σ ++ τ) s5 := fun p5 S5 =>
      ⟨xs.length - (i + 1), by omega, i + 1, _, _, rfl, hlt, p5, S5.perm (by rw [List.cons_append]; exact List.perm_middle)⟩
    refine turn i xs[i] ρ3 σ hI hx vb hb _ s3 _ _ S3' fun _ _ ρ4 σ4 s4 _ p4 S4 => ?_
    refine wpAny_bind (p4 _ s4 _ _ S4 fun ok b ρ5 σ5 s5 r5 p5 S5 => ?_)
    cases r5
    cases ok with
    | false => exact wpAny_pure ⟨rfl, back p5 S5⟩
    | true => exact wpAny_bind (p5 _ s5 _ _ S5 fun _ _ ρ6 σ6 s6 _ p6 S6 => wpAny_pure ⟨rfl, back p6 S6⟩)
  · have e1 : i = xs.length := by omega
    subst e1
    refine spec.stop ρ σ it _ (fun o ρ' σ' => o = none ∧ ρ' = ρ ∧ σ' = σ) (hIs _ _ _ hI) (List.getElem?_eq_none (Nat.le_refl _)) ⟨rfl, rfl, rfl⟩ τ s _ _ S fun v3 a3 ρ3 σ3 s3 r3 p3 S3 => ?_
    obtain ⟨rfl, rfl, rfl⟩ := p3
    cases r3
    exact wpAny_pure (fin ρ3 σ3 s3 hI S3)
theorem comp_start {elt : Expr} {gens : List Comprehension} {scope : Scope} {cpos : Pos} {d : Nat} {g : Comprehension} {it acc : Value} {env : Env} {A : Around} {R : Result → Shared → Prop} (hg : gens[d]? = some g) (ha : g.is_async = 0)
    (h0 : codeAny (model P w) A (.compLoop (.ListComp elt gens scope cpos) d it acc env) R s)
    (h : wpAny (model P w) A (pyIter it) (fun it' s' => codeAny (model P w) A (.compLoop (.ListComp elt gens scope cpos) d it' acc env) R s') (notedBy (model P w) A env fun x s' => R (.error x) s') s) :
    codeAny (model P w) A (.compStart (.ListComp elt gens scope cpos) d it acc env) R s := by
  refine codeAny_of_tree ?_
  show wpAny _ _ ((compStart (.ListComp elt gens scope cpos) d it acc env).onRaise (fun x => do noteFrame x env; standAt theWindowsPlace)) _ _ s
  refine wpAny_notedAt ?_
  unfold compStart
  have hg' : (clausesOf (.ListComp elt gens scope cpos))[d]? = some g := hg
  rw [hg']
  simp only [Option.elim, ha]
  show wpAny _ _ (ask >>= _) _ _ s
  refine wpAny_bind (wpAny_askSetting (wpAny_ite ?_))
  split
  · first
      | exact wpAny_bind (wpAny_pure (wpAny_pure (And.intro rfl h0)))
      | exact wpAny_pure (And.intro rfl h0)
  · first
      | exact wpAny_bind (wpAny_rule (wpAny_bind (wpAny_standAt (wpAny_bind (wpAny_mono h (fun it' s' h' => wpAny_pure (And.intro rfl h')) fun _ _ x => x)))))
      | (refine wpAny_bind (wpAny_rule ?_); show wpAny _ _ (standAt _ >>= _) _ _ s; exact wpAny_bind (wpAny_standAt (wpAny_bind (wpAny_mono h (fun it' s' h' => wpAny_pure (And.intro rfl h')) fun _ _ x => x))))
end
end Mine
end
section -- B11
open PySem PySem.W PySem.Calls PyProof.Rows
set_option Elab.async false
set_option maxRecDepth 100000
set_option linter.unusedVariables false
namespace Mine
section
variable {P : Program} {w : World} {K : Frag} {sc : Scope} {C : Ctxt w K sc} {ρ ρ' : Frame} {σ σ' τ : Ledger} {s : Shared}

theorem W.hide {α β : Type} {R : β → α → Prop} {t : Sem α} {p : Addr × AObj} {Φ : β → Frame → Ledger → Prop} (h : W P R C ρ σ t fun b ρ' σ' => Φ b ρ' (p :: σ')) : W P R C ρ (p :: σ) t Φ :=
  fun τ s Q E S k => h (p :: τ) s Q E (S.perm (by rw [List.cons_append]; exact List.perm_middle.symm)) fun a b ρ' σ' s' r q S' =>
    k a b ρ' (p :: σ') s' r q (S'.perm (by rw [List.cons_append]; exact List.perm_middle))

theorem W.hide' {α β : Type} {R : β → α → Prop} {t : Sem α} {p : Addr × AObj} {Φ : β → Frame → Ledger → Prop} (h : W P R C ρ σ t Φ) : W P R C ρ (p :: σ) t fun b ρ' σ' => ∃ σ0, σ' = p :: σ0 ∧ Φ b ρ' σ0 :=
  W.hide (W.mono h fun _ _ σ0 q => ⟨σ0, rfl, q⟩)
/-- the iterator over itself -/
noncomputable def SelfSpec (P : Program) {w : World} {K : Frag} {sc : Scope} (C : Ctxt w K sc) (io : Nat → Obj → Prop) : Prop :=
  ∀ (i : Nat) (ρ : Frame) (σ : Ledger) (it : Addr) (Φ : AV → Frame → Ledger → Prop), Φ (.ref it) ρ ((it, .pred (io i)) :: σ) → WV P C ρ ((it, .pred (io i)) :: σ) (pyIter (.ref it)) Φ
theorem self_list {l : Addr} : SelfSpec P C (fun i o => o.cls = .type "list_iterator" ∧ o.data = .fields #[.ref l, .int i 0]) := by
  intro i ρ σ it Φ h τ s Q E S k
  obtain ⟨o, hg, hc, hd⟩ := S.get (.head _)
  exact wpAny_pyIter_listiter ⟨o, hg, hc, hd⟩ (k _ (.ref it) ρ _ s rfl h S)
theorem self_range {a c n : Int} : SelfSpec P C (fun i o => o = { cls := .type "range_iterator", dict := none, data := .fields #[rawInt (a + i * c), rawInt (n - i), rawInt c], slots := #[] }) := by
  intro i ρ σ it Φ h τ s Q E S k
  obtain ⟨o, hg, ho⟩ := S.get (.head _)
  exact wpAny_pyIter_rangeiter (show IsRangeIter s.heap it (a + i * c) (n - i) c from hg.trans (congrArg some ho)) (k _ (.ref it) ρ _ s rfl h S)
structure Src (P : Program) (w : World) (K : Frag) (v : Value) (xs : List AV) (src : Ledger → Prop) (io : Nat → Obj → Prop) : Prop where
  spec : ∀ {sc : Scope} (C : Ctxt w K sc), IterSpec P C v xs src io
  self : ∀ {sc : Scope} (C : Ctxt w K sc), SelfSpec P C io
  cons : ∀ p σ, src σ → src (p :: σ)
theorem src_list {l : Addr} {xs : List AV} : Src P w K (.ref l) xs (fun σ => (l, .list xs) ∈ σ) (fun i o => o.cls = .type "list_iterator" ∧ o.data = .fields #[.ref l, .int i 0]) :=
  ⟨fun C => spec_list, fun C => self_list, fun _ _ h => .tail _ h⟩
theorem src_range {r : Addr} {a b c : Int} {n : Nat} (hsm : Builtin.Range.small a b c = true) (hn : Builtin.Range.rangeSize a b c = (n : Int)) :
    Src P w K (.ref r) ((List.range n).map fun (i : Nat) => AV.int (a + i * c)) (fun σ => (r, .range a b c) ∈ σ) (fun i o => o = { cls := .type "range_iterator", dict := none, data := .fields #[rawInt (a + i * c), rawInt ((n : Int) - i), rawInt c], slots := #[] }) :=
  ⟨fun C => spec_range hsm hn, fun C => self_range, fun _ _ h => .tail _ h⟩

noncomputable abbrev EmitT := List AV → Frame → Ledger → (List AV → Frame → Ledger → Prop) → Prop
noncomputable def Loop1 (P : Program) {w : World} {K : Frag} {sc : Scope} (C : Ctxt w K sc) (x : Str) (ifs : List Expr) (xs : List AV) (src : Ledger → Prop) (Emit : EmitT) : EmitT := fun ys₀ ρ₀ σ₀ Ψ =>
  ∃ I : Nat → List AV → Frame → Ledger → Prop, I 0 ys₀ ρ₀ σ₀ ∧ (∀ i ys ρ σ, I i ys ρ σ → src σ) ∧
    (∀ i b ys ρ σ, I i ys ρ σ → xs[i]? = some b → ∀ vb, b.is vb → WU P C ρ σ (storeName C.env x vb) fun ρ' σ' => WB P C ρ' σ' (testsT ifs C.env) fun ok ρ2 σ2 =>
      (ok = true → Emit ys ρ2 σ2 (fun ys' ρ' σ' => ∃ σ'', σ''.Sublist σ' ∧ I (i + 1) ys' ρ' σ'')) ∧ (ok = false → ∃ σ'', σ''.Sublist σ2 ∧ I (i + 1) ys ρ2 σ'')) ∧ ∀ ys ρ σ, I xs.length ys ρ σ → Ψ ys ρ σ
noncomputable def Emit1 (P : Program) {w : World} {K : Frag} {sc : Scope} (C : Ctxt w K sc) (elt : Expr) : EmitT := fun ys ρ σ Ψ =>
  WV P C ρ σ (eval elt C.env) fun a ρ3 σ3 => ys.length ≤ sizeLine ∧ Ψ (ys ++ [a]) ρ3 σ3
noncomputable def EmitOk (P : Program) {w : World} {K : Frag} {sc : Scope} (C : Ctxt w K sc) (D : Addr) (emit : Value → Sem Unit) (Emit : EmitT) : Prop :=
  ∀ ys ρ σ (Ψ : List AV → Frame → Ledger → Prop), Emit ys ρ σ Ψ → WU P C ρ ((D, .list ys) :: σ) (emit (.ref D)) fun ρ' σ' => ∃ ys' σ0, σ' = (D, .list ys') :: σ0 ∧ Ψ ys' ρ' σ0
noncomputable abbrev emitT1 (elt : Expr) (env : Env) : Value → Sem Unit := fun acc => do let _ ← call (.builtin "list.append") [acc, ← eval elt env]
theorem emit1_ok {D : Addr} {elt : Expr} : EmitOk P C D (emitT1 elt C.env) (Emit1 P C elt) := by
  intro ys ρ σ Ψ h τ s Q E S k
  refine wpAny_bind (W.hide' h τ s _ E S fun v a ρ3 σ3 s3 r p S3 => ?_)
  · obtain ⟨σ0, rfl, hz, hΨ⟩ := p
    exact wpAny_bind (call_append (xs := ys) (Φ := fun _ ρ' σ' => ρ' = ρ3 ∧ σ' = (D, .list (ys ++ [a])) :: σ0) .head hz ⟨rfl, rfl⟩ [v] (.cons r .nil) τ s3 _ E S3 fun _ _ ρ4 σ4 s4 _ p4 S4 => by
      obtain ⟨rfl, rfl⟩ := p4
      exact wpAny_pure (k () () _ _ s4 trivial ⟨_, _, rfl, hΨ⟩ S4))
theorem loop1_ok {elt : Expr} {gens : List Comprehension} {scope : Scope} {cpos : Pos} {d : Nat} {x : Str} {px p0 : Pos} {ifs : List Expr} {emit : Value → Sem Unit} {Emit : EmitT} {v : Value} {xs : List AV} {src : Ledger → Prop} {io : Nat → Obj → Prop} {it D : Addr} {R : Result → Shared → Prop} {ys : List AV} {Ψ : List AV → Frame → Ledger → Prop}
    (ht : TurnIs (.ListComp elt gens scope cpos) d x px p0 ifs C.env emit) (spec : Src P w K v xs src io) (he : EmitOk P C D emit Emit) (h : Loop1 P C x ifs xs src Emit ys ρ σ Ψ)
    (S : St C ρ ((it, .pred (io 0)) :: (D, .list ys) :: σ ++ τ) s) (fin : ∀ ys' ρ' σ' s', Ψ ys' ρ' σ' → St C ρ' ((D, .list ys') :: σ' ++ τ) s' → R (.ok .next) s') :
    codeAny (model P w) C.A (.compLoop (.ListComp elt gens scope cpos) d (.ref it) (.ref D) C.env) R s := by
  obtain ⟨I, hI, hIs, turn, hfin⟩ := h
  refine comp_loop ht (spec.spec C) (σ := (D, .list ys) :: σ) (fun i ρ σ => ∃ ys σ0, σ = (D, .list ys) :: σ0 ∧ I i ys ρ σ0) ?_ ?_ ⟨ys, σ, rfl, hI⟩ S ?_
  · rintro i ρ _ ⟨ys, σ0, rfl, hI⟩; exact spec.cons _ _ (hIs _ _ _ _ hI)
  · rintro i b ρ _ ⟨ys, σ0, rfl, hI⟩ hx vb hb
    refine W.mono (Φ := fun _ ρ' σ' => WB P C ρ' σ' (testsT ifs C.env) fun ok ρ'' σ'' => ∃ σ3, σ3.Sublist σ'' ∧ if ok then WU P C ρ'' σ3 (emit (.ref D)) (fun ρ σ => ∃ ys σ0, σ = (D, .list ys) :: σ0 ∧ I (i + 1) ys ρ σ0) else ∃ ys σ0, σ3 = (D, .list ys) :: σ0 ∧ I (i + 1) ys ρ'' σ0) ?_ fun _ ρ' σ' h => W.sub (W.mono h fun _ _ _ h => h)
    refine W.hide (W.mono (turn i b ys ρ σ0 hI hx vb hb) fun _ ρ' σ' h => ?_)
    refine W.hide (W.mono h fun ok ρ2 σ2 h => ?_)
    cases ok with
    | false => obtain ⟨σ3, hs, hI'⟩ := h.2 rfl; exact ⟨_, .cons_cons _ hs, ys, σ3, rfl, hI'⟩
    | true =>
      refine ⟨_, .refl _, W.sub (W.mono (he _ _ _ _ (h.1 rfl)) ?_)⟩
      rintro _ ρ3 _ ⟨ys', σ0, rfl, σ3, hs, hI'⟩
      exact ⟨_, .cons_cons _ hs, ys', σ3, rfl, hI'⟩
  · rintro ρ' _ s' ⟨ys', σ0, rfl, hI⟩ S'
    exact fin ys' ρ' σ0 s' (hfin _ _ _ hI) S'
end
end Mine
end
section -- B12
open PySem PySem.W PySem.Calls PyProof.Rows
set_option Elab.async false
set_option maxRecDepth 100000
set_option linter.unusedVariables false
namespace Mine
section
variable {P : Program} {w : World} {K : Frag} {sc : Scope} {C : Ctxt w K sc} {ρ ρ' : Frame} {σ σ' τ : Ledger} {s : Shared}
theorem mOk_empty {ρ₀ : Frame} (h : (ρ₀.all fun p => p.2.isNone) = true) : mOk ρ₀ (fun x => ([] : List (Str × Value)).reverse.lookup x) := by
  intro y
  have : ρ₀.lookup y = none ∨ ρ₀.lookup y = some none := by
    induction ρ₀ with
    | nil => exact .inl rfl
    | cons p r ih =>
      obtain ⟨k, v⟩ := p
      rw [List.all_cons, Bool.and_eq_true] at h
      rw [List.lookup_cons]
      cases y == k
      · exact ih h.2
      · cases v with
        | none => exact .inr rfl
        | some _ => cases h.1
  rcases this with e | e <;> rw [e] <;> rfl
noncomputable abbrev CompH (P : Program) {w : World} {K : Frag} {sc : Scope} (C : Ctxt w K sc) (scope : Scope) (cl : List (Str × Addr)) (x : Str) (ifs : List Expr) (Em : Ctxt w K (relabelS scope sc) → EmitT) (ρ₀ : Frame) (Fin : Addr → Frame → Ledger → Prop) : AV → Frame → Ledger → Prop := fun a ρ1 σ1 =>
  ∃ v xs src io, a.is v ∧ (∀ v', a.is v' → v' = v) ∧ Src P w K v xs src io ∧ src σ1 ∧ ∀ C' : Ctxt w K (relabelS scope sc), C'.d = C.d → C'.env.cells = cl →
    Loop1 P C' x ifs xs src (Em C') [] ρ₀ σ1 fun ys _ σ' => ∀ D, Fin D ρ1 ((D, .list ys) :: σ')
structure CompIs (P : Program) {w : World} {K : Frag} {sc : Scope} (C : Ctxt w K sc) (elt : Expr) (gens : List Comprehension) (scope : Scope) (cpos : Pos) (x : Str) (ifs : List Expr) (iter : Expr) (cl : List (Str × Addr)) (Em : Ctxt w K (relabelS scope sc) → EmitT) (ρ₀ : Frame) : Prop where
  clauses : ∃ px rest, gens = ⟨.Name x px, iter, ifs, 0⟩ :: rest
  clos : closureFor scope C.env = pure cl
  kind : scope.kind = .function
  nocell : ∀ y ∈ scope.names, y.2 ≠ .cell
  names : ∀ y ∈ scope.names, y.2 = .local → scope.names.lookup y.1 = some .local
  turn : ∃ emit : Env → Value → Sem Unit, (∃ px p0, ∀ env, TurnIs (.ListComp elt gens scope cpos) 0 x px p0 ifs env (emit env)) ∧ ∀ (C' : Ctxt w K (relabelS scope sc)) D, EmitOk P C' D (emit C'.env) (Em C')
  fold : ∀ x, foldedSetIterable iter C.env x = pure x
  start : (ρ₀.all fun p => p.2.isNone) = true
  nodup : (ρ₀.map Prod.fst).Nodup
theorem comp_run {elt : Expr} {gens : List Comprehension} {scope : Scope} {cpos pos : Pos} {x : Str} {ifs : List Expr} {iter : Expr} {cl : List (Str × Addr)} {Em : Ctxt w K (relabelS scope sc) → EmitT} {ρ₀ : Frame} {use : Option (Value → Sem Unit)} {Fin : Addr → Frame → Ledger → Prop} {Q : Value → Shared → Prop} {E : Value → Shared → Prop}
    (c : CompIs P C elt gens scope cpos x ifs iter cl Em ρ₀) (h : WV P C ρ σ (eval iter C.env) (CompH P C scope cl x ifs Em ρ₀ Fin)) (S : St C ρ (σ ++ τ) s)
    (hpost : ∀ D L' ρ1 σ' s', Fin D ρ1 σ' → St C ρ1 (σ' ++ (L', .pred fun o => ∃ m, LCg.NsObj o m) :: τ) s' → compPost (model P w) C.A E use Q (.ref D) L' (.ok .next) s') :
    wpAny (model P w) C.A (comprehension (.ListComp elt gens scope cpos) scope C.env pos (newList []) false (eval iter C.env) use) Q E s := by
  obtain ⟨px0, rest, hg⟩ := c.clauses
  obtain ⟨emit, ⟨px, p0, ht⟩, he⟩ := c.turn
  refine wpAny_comprehension_free (g := ⟨.Name x px0, iter, ifs, 0⟩) (gs := rest) (by rw [← hg]; rfl) c.fold c.clos c.kind c.names ?_
  refine h τ s _ E S fun v a ρ1 σ1 s1 r p S1 => ?_
  obtain ⟨v', xs, src, io, h1, h2, hS, hsrc, hL⟩ := p
  obtain rfl := h2 v r
  refine (hS.spec C).start ρ1 σ1 (fun a ρ' σ' => ∃ it, a = .ref it ∧ ρ' = ρ1 ∧ σ' = (it, .pred (io 0)) :: σ1) hsrc (fun it => ⟨it, rfl, rfl, rfl⟩) τ s1 _ E S1 fun v2 a2 ρ2 σ2 s2 r2 p2 S2 => ?_
  obtain ⟨it, rfl, rfl, rfl⟩ := p2
  cases r2
  refine wpAny_newObj_type ?_
  refine wpAny_newFunctionEnv c.nocell (by intro y hy; simp at hy) (fun h₁ hns₁ hsb₁ => ?_) c.kind
  generalize hs3 : ({ s2 with heap := s2.heap.push { cls := .type "list", data := .seq ([] : List Value).toArray } } : Shared) = s3 at hns₁ hsb₁ ⊢
  have S3 : St C ρ2 ((s2.heap.objs.size, .list []) :: ((it, .pred (io 0)) :: σ1 ++ τ)) s3 := hs3 ▸ S2.push ⟨[], 0, rfl, .nil⟩ rfl
  have hkeep : ∀ b o, s3.heap.get? b = some o → h₁.get? b = some o := fun b o e => hsb₁.extBut b o (Nat.ne_of_lt (Heap.lt_size e)) (Heap.get?_push_of_some _ e)
  have S4 := inn_start (S := S3) (L' := s3.heap.objs.size) (sc' := relabelS scope sc) (env := compEnvC scope cl s3.heap.objs.size C.env) (h1 := relabel_eq C.hsc) (h2 := c.kind) (h3 := rfl) (h4 := C.hG) (h5 := C.hB) (n := s3.toks + ([] : List (Str × Value)).length) (Nat.le_refl _) hns₁ hkeep (mOk_empty c.start) c.nodup
  have S5 := S4.perm (σ' := (it, .pred (io 0)) :: (s2.heap.objs.size, .list []) :: σ1 ++ τ) (by
    rw [List.cons_append, List.cons_append, List.cons_append]
    exact List.Perm.swap _ _ _)
  have done : ∀ ys' ρ' σ' s', (∀ D, Fin D ρ2 ((D, .list ys') :: σ')) → St (inn C S3 s3.heap.objs.size (relabelS scope sc) (compEnvC scope cl s3.heap.objs.size C.env) (relabel_eq C.hsc) c.kind rfl C.hG C.hB) ρ' ((s2.heap.objs.size, .list ys') :: σ' ++ τ) s' →
      compPost (model P w) C.A E use Q (.ref s2.heap.objs.size) s3.heap.objs.size (.ok .next) s' := fun ys' ρ' σ' s' hF S' => by
    refine hpost _ _ ρ2 _ s' (hF s2.heap.objs.size) ((inn_back (Nat.le_refl _) S').perm ?_)
    exact List.perm_middle.symm
  have hL' := hL (inn C S3 s3.heap.objs.size (relabelS scope sc) (compEnvC scope cl s3.heap.objs.size C.env) (relabel_eq C.hsc) c.kind rfl C.hG C.hB) rfl rfl
  have hloop : ∀ s' : Shared, St (inn C S3 s3.heap.objs.size (relabelS scope sc) (compEnvC scope cl s3.heap.objs.size C.env) (relabel_eq C.hsc) c.kind rfl C.hG C.hB) ρ₀ ((it, .pred (io 0)) :: (s2.heap.objs.size, .list []) :: σ1 ++ τ) s' →
      codeAny (model P w) C.A (.compLoop (.ListComp elt gens scope cpos) 0 (.ref it) (.ref s2.heap.objs.size) (compEnvC scope cl s3.heap.objs.size C.env)) (compPost (model P w) C.A E use Q (.ref s2.heap.objs.size) s3.heap.objs.size) s' :=
    fun s' S' => loop1_ok (C := inn C S3 s3.heap.objs.size (relabelS scope sc) (compEnvC scope cl s3.heap.objs.size C.env) (relabel_eq C.hsc) c.kind rfl C.hG C.hB) (ht _) hS (he _ _) hL' S' done
  refine comp_start (g := ⟨.Name x px0, iter, ifs, 0⟩) (by rw [hg]; rfl) rfl (hloop _ S5) ?_
  refine hS.self (inn C S3 s3.heap.objs.size (relabelS scope sc) (compEnvC scope cl s3.heap.objs.size C.env) (relabel_eq C.hsc) c.kind rfl C.hG C.hB) 0 ρ₀ ((s2.heap.objs.size, .list []) :: σ1) it (fun a ρ' σ' => a = .ref it ∧ ρ' = ρ₀ ∧ σ' = (it, .pred (io 0)) :: (s2.heap.objs.size, .list []) :: σ1) ⟨rfl, rfl, rfl⟩ τ _ _ _ S5 fun v4 a4 ρ4 σ4 s4 r4 p4 S4 => ?_
  obtain ⟨rfl, rfl, rfl⟩ := p4
  cases r4
  exact hloop _ S4
theorem ev_comp {elt : Expr} {g : Comprehension} {gs : List Comprehension} {scope : Scope} {cpos : Pos} {x : Str} {ifs : List Expr} {iter : Expr} {cl : List (Str × Addr)} {Em : Ctxt w K (relabelS scope sc) → EmitT} {ρ₀ : Frame} {Φ : AV → Frame → Ledger → Prop}
    (c : CompIs P C elt (g :: gs) scope cpos x ifs iter cl Em ρ₀) (h : WV P C ρ σ (eval iter C.env) (CompH P C scope cl x ifs Em ρ₀ fun D ρ1 σ1 => Φ (.ref D) ρ1 σ1)) :
    WV P C ρ σ (eval (.ListComp elt (g :: gs) scope cpos) C.env) Φ := by
  intro τ s Q E S k
  rw [eval_ListComp]
  have ha : firstAsync (g :: gs) = false := by
    obtain ⟨px, rest, e⟩ := c.clauses
    rw [e]; rfl
  have hi : firstIter (g :: gs) C.env = eval iter C.env := by
    obtain ⟨px, rest, e⟩ := c.clauses
    rw [e]; rfl
  rw [ha, hi]
  refine comp_run c h S fun D L' ρ1 σ' s' hF S' => ?_
  obtain ⟨⟨o, e, m, hn⟩, -⟩ := S'.led (L', _) (List.mem_append_right _ (.head _))
  refine ⟨m, hn.ns e, fun h' hs => k _ (.ref D) ρ1 σ' _ rfl hF ?_⟩
  have S'' : St C ρ1 ((L', .pred fun o => ∃ m, LCg.NsObj o m) :: (σ' ++ τ)) s' := S'.perm List.perm_middle
  exact St.but (n := s'.toks) S'' hs.extBut
theorem x_asgC {t : Str} {p1 pos : Pos} {elt : Expr} {g : Comprehension} {gs : List Comprehension} {scope : Scope} {cpos : Pos} {x : Str} {ifs : List Expr} {iter : Expr} {cl : List (Str × Addr)} {Em : Ctxt w K (relabelS scope sc) → EmitT} {ρ₀ : Frame} {Φ : AFlow → Frame → Ledger → Prop}
    (c : CompIs P C elt (g :: gs) scope cpos x ifs iter cl Em ρ₀) (hk : sc.names.lookup t = some .local) (hl : (p1.line == cpos.line) = true) (hn : (scope.names.any fun (n, k) => n == t && (k == .local || k == .cell)) = false)
    (h : WV P C ρ σ (eval iter C.env) (CompH P C scope cl x ifs Em ρ₀ fun D ρ1 σ1 => ∃ ρ2, PutF t (.ref D) ρ1 ρ2 ∧ Φ .next ρ2 σ1)) :
    WF P C ρ σ (exec (.Assign [.Name t p1] (.ListComp elt (g :: gs) scope cpos) pos) C.env) Φ := by
  intro τ s Q E S k
  have hs : swapsWith (.ListComp elt (g :: gs) scope cpos) (some (.Name t p1)) pos.line C.env = pure true := by
    unfold swapsWith
    have h1 : C.env.blockKind = .function := by unfold Env.blockKind; rw [C.kind]; rfl
    simp only [h1, C.kindOf hk]
    show pure (((ScopeKind.function == ScopeKind.function) && ((some NameKind.local) == some NameKind.local) && (p1.line == cpos.line) && !(scope.names.any fun (n, k) => n == t && (k == .local || k == .cell)))) = _
    rw [hl, hn]; rfl
  rw [exec_Assign_Name_used _ _ _ _ hs]
  refine wpAny_bind (wpAny_standAt (wpAny_bind ?_))
  have ha : firstAsync (g :: gs) = false := by
    obtain ⟨px, rest, e⟩ := c.clauses
    rw [e]; rfl
  have hi : firstIter (g :: gs) C.env = eval iter C.env := by
    obtain ⟨px, rest, e⟩ := c.clauses
    rw [e]; rfl
  show wpAny _ _ (comprehension _ _ _ _ _ _ _ _ >>= _) _ _ _
  rw [ha, hi]
  refine wpAny_bind (comp_run c h S fun D L' ρ1 σ' s' hF S' => ?_)
  obtain ⟨ρ2, U, hΦ⟩ := hF
  show wpAny _ _ (assign _ _ _) _ _ _
  refine wpAny_assign_Name ?_
  refine st_loc (P := P) U (v := .ref D) rfl (Φ := fun ρ' σ'' => ρ' = ρ2 ∧ σ'' = σ') ⟨rfl, rfl⟩ hk _ s' _ _ S' fun _ _ ρ3 σ3 s3 _ p3 S3 => ?_
  obtain ⟨rfl, rfl⟩ := p3
  obtain ⟨⟨o, e, m, hn'⟩, -⟩ := S3.led (L', _) (List.mem_append_right _ (.head _))
  refine ⟨m, hn'.ns e, fun h' hs => wpAny_pure (wpAny_pure (k _ .next _ _ _ rfl hΦ ?_))⟩
  have S'' : St C ρ3 ((L', .pred fun o => ∃ m, LCg.NsObj o m) :: (σ3 ++ τ)) s3 := S3.perm List.perm_middle
  exact St.but (n := s3.toks) S'' hs.extBut
/-! the two shapes -/
theorem comp_is1 {elt iter : Expr} {scope : Scope} {cpos px : Pos} {x : Str} {ifs : List Expr} {cs cl : List (Str × Addr)}
    (hc : C.env.cells = cs) (hcl : closOf cs scope.names [] = some cl) (hk : scope.kind = .function) (h1 : ∀ y ∈ scope.names, y.2 ≠ .cell) (h2 : ∀ y ∈ scope.names, y.2 = .local → scope.names.lookup y.1 = some .local)
    (hs : ∀ x, foldedSetIterable iter C.env x = pure x := by intro _; rfl) :
    CompIs P C elt [⟨.Name x px, iter, ifs, 0⟩] scope cpos x ifs iter cl (fun C' => Emit1 P C' elt) [(x, none)] :=
  ⟨⟨px, [], rfl⟩, closureFor_eq hc hcl, hk, h1, h2, ⟨fun env => emitT1 elt env, ⟨px, iter.pos, fun env it acc => by rfl⟩, fun C' D => emit1_ok⟩, hs, rfl, by simp⟩
end
end Mine
end
section -- B13
open PySem PySem.W PySem.Calls PyProof.Rows
set_option Elab.async false
set_option maxRecDepth 100000
set_option linter.unusedVariables false
namespace Mine
section
variable {P : Program} {w : World} {K : Frag} {sc : Scope} {C : Ctxt w K sc} {ρ ρ' : Frame} {σ σ' τ : Ledger} {s : Shared}
/-- as St.via, with one new object at the head -/
theorem St.via1 (S : St C ρ σ s) : ∃ m news, Fr C.h₀ C.L s.heap m ∧ News C.h₀ C.L s.heap news ∧ (∀ p ∈ news, p.1 < s.heap.objs.size) ∧
    (∀ s' : Shared, Fr C.h₀ C.L s'.heap m → News C.h₀ C.L s'.heap news → s'.os = s.os → AllBare s'.gens → St C ρ σ s') ∧
    ∀ (s' : Shared) (a : Addr) (o : AObj) (ob : Obj), Fr C.h₀ C.L s'.heap m → News C.h₀ C.L s'.heap ((a, ob) :: news) → (∀ p ∈ news, p.1 < a) → o.is w.params ob → s'.os = s.os → AllBare s'.gens → St C ρ ((a, o) :: σ) s' := by
  obtain ⟨m, F, hm⟩ := S.fr
  have key : ∀ l : Ledger, (∀ p ∈ l, p ∈ σ) → ∃ news, News C.h₀ C.L s.heap news ∧ (∀ p ∈ l, ∃ o, (p.1, o) ∈ news ∧ p.2.is w.params o) ∧ ∀ p ∈ news, p.1 < s.heap.objs.size := by
    intro l
    induction l with
    | nil => exact fun _ => ⟨[], News.nil, fun p hp => (nomatch hp), fun p hp => nomatch hp⟩
    | cons p l ih =>
      intro hl
      obtain ⟨news, N, h, hlt⟩ := ih fun q hq => hl q (.tail _ hq)
      obtain ⟨⟨o, e, i⟩, r⟩ := S.led p (hl p (.head _))
      refine ⟨(p.1, o) :: news, fun q hq => ?_, fun q hq => ?_, fun q hq => ?_⟩
      · rcases List.mem_cons.mp hq with rfl | hq
        · exact ⟨e, r⟩
        · exact N q hq
      · rcases List.mem_cons.mp hq with rfl | hq
        · exact ⟨o, .head _, i⟩
        · obtain ⟨o', h1, h2⟩ := h q hq
          exact ⟨o', .tail _ h1, h2⟩
      · rcases List.mem_cons.mp hq with rfl | hq
        · exact Heap.lt_size e
        · exact hlt q hq
  obtain ⟨news, N, hl, hlt⟩ := key σ fun _ hp => hp
  have base : ∀ s' : Shared, Fr C.h₀ C.L s'.heap m → News C.h₀ C.L s'.heap news → s'.os = s.os → AllBare s'.gens → St C ρ σ s' := fun s' F' N' hos hg => ⟨⟨m, F', hm⟩, fun p hp => by
    obtain ⟨o, h1, h2⟩ := hl p hp
    have z := N' _ h1
    exact ⟨⟨o, z.1, h2⟩, z.2⟩, S.nd, S.kn, hos.trans S.os, hg⟩
  refine ⟨m, news, F, N, hlt, base, fun s' a o ob F' N' ha hi hos hg => ?_⟩
  have S' := base s' F' (fun p hp => N' p (.tail _ hp)) hos hg
  have z := N' _ (.head _)
  refine ⟨S'.fr, fun p hp => ?_, ?_, S'.kn, S'.os, S'.gens⟩
  · rcases List.mem_cons.mp hp with rfl | hp
    · exact ⟨⟨ob, z.1, hi⟩, z.2⟩
    · exact S'.led p hp
  · refine List.nodup_cons.mpr ⟨fun hm => ?_, S'.nd⟩
    obtain ⟨p, hp, e⟩ := List.mem_map.mp hm
    obtain ⟨o', h1, h2⟩ := hl p hp
    have := ha _ h1
    exact absurd this (by rw [show p.1 = a from e]; exact Nat.lt_irrefl _)

/-! tests of two -/
theorem tst_and {x y : Expr} {pos : Pos} {whole : Sem Value} {Φ : Bool → Frame → Ledger → Prop}
    (h : WB P C ρ σ (isTrue x C.env (eval x C.env)) fun b ρ1 σ1 => (b = true → WB P C ρ1 σ1 (isTrue y C.env (eval y C.env)) Φ) ∧ (b = false → Φ false ρ1 σ1)) : WB P C ρ σ (isTrue (.BoolOp .And [x, y] pos) C.env whole) Φ :=
  fun τ s Q E S k => isTrue_and (h τ s _ E S fun b b' ρ1 σ1 s1 r p S1 => by
    cases r
    cases b
    · exact k _ _ ρ1 σ1 s1 rfl (p.2 rfl) S1
    · exact isTrue_and (p.1 rfl τ s1 _ E S1 fun c c' ρ2 σ2 s2 r2 p2 S2 => by
        cases r2
        cases c
        · exact k _ _ ρ2 σ2 s2 rfl p2 S2
        · exact isTrue_and_nil (k _ _ ρ2 σ2 s2 rfl p2 S2)))
theorem tst_or {x y : Expr} {pos : Pos} {whole : Sem Value} {Φ : Bool → Frame → Ledger → Prop}
    (h : WB P C ρ σ (isTrue x C.env (eval x C.env)) fun b ρ1 σ1 => (b = true → Φ true ρ1 σ1) ∧ (b = false → WB P C ρ1 σ1 (isTrue y C.env (eval y C.env)) Φ)) : WB P C ρ σ (isTrue (.BoolOp .Or [x, y] pos) C.env whole) Φ :=
  fun τ s Q E S k => isTrue_or (h τ s _ E S fun b b' ρ1 σ1 s1 r p S1 => by
    cases r
    cases b
    · exact isTrue_or (p.2 rfl τ s1 _ E S1 fun c c' ρ2 σ2 s2 r2 p2 S2 => by
        cases r2
        cases c
        · exact isTrue_or_nil (k _ _ ρ2 σ2 s2 rfl p2 S2)
        · exact k _ _ ρ2 σ2 s2 rfl p2 S2)
    · exact k _ _ ρ1 σ1 s1 rfl (p.1 rfl) S1)
/-! lists of ints -/
theorem St.isInts (S : St C ρ (σ ++ τ) s) {l : Addr} {ns : List Int} (h : (l, .list (ns.map AV.int)) ∈ σ) : ∃ vs, s.heap.IsList l vs.toArray ∧ IntsAre vs ns := by
  obtain ⟨vs, h1, h2⟩ := S.isList h
  exact ⟨vs, by simpa using h1, h2.ints⟩
theorem cmp_notin_ints {l : Addr} {ns : List Int} {k : Int} {Φ : AV → Frame → Ledger → Prop} (hm : (l, .list (ns.map AV.int)) ∈ σ) (h : Φ (.bool (!(ns.any (· == k)))) ρ σ) : OpV P C ρ σ (compareOp .NotIn) (.int k) (.ref l) Φ := by
  rintro _ _ ⟨t, rfl⟩ rfl τ s Q E S kk
  obtain ⟨vs, hl, hi⟩ := S.isInts hm
  exact notin_list_ints hl hi (kk _ (.bool _) ρ σ _ rfl h S)
theorem Ctxt.un (C : Ctxt w K sc) (hd : 2 ≤ C.d) : C.A.units + 64 < cLine := by have := C.units; omega
theorem cmp_eq_ints {l r : Addr} {ns ms : List Int} {Φ : AV → Frame → Ledger → Prop} (hd : 2 ≤ C.d) (hl : (l, .list (ns.map AV.int)) ∈ σ) (hr : (r, .list (ms.map AV.int)) ∈ σ) (h : Φ (.bool (decide (ns = ms))) ρ σ) : OpV P C ρ σ (compareOp .Eq) (.ref l) (.ref r) Φ := by
  rintro _ _ rfl rfl τ s Q E S kk
  obtain ⟨vs, h1, h2⟩ := S.isInts hl
  obtain ⟨us, h3, h4⟩ := S.isInts hr
  exact eq_intsK h1 h2 h3 h4 (C.un hd) (kk _ (.bool _) ρ σ _ rfl h S)
theorem call_tuple {l : Addr} {xs : List AV} {Φ : AV → Frame → Ledger → Prop} (hm : (l, .list xs) ∈ σ) (hz : xs.length ≤ sizeLine) (h : ∀ a, Φ (.ref a) ρ ((a, .tuple xs) :: σ)) : Then P C (fun vs => call (.type "tuple") vs) Φ [.ref l] ρ σ := by
  intro vs rs τ s Q E S k
  cases rs with | cons h1 h2 => cases h2; cases h1; exact (by
    obtain ⟨us, hl, hA⟩ := S.isList hm
    refine PySem.call_tuple_list hl (fun h' hk => ?_) (by show us.length ≤ _; rw [← hA.length]; exact hz)
    exact k _ (.ref h'.objs.size) ρ _ _ rfl (h _) ((S.ext (n := s.toks) hk).push ⟨us, 0, rfl, hA⟩ rfl))
theorem call_len_list {l : Addr} {xs : List AV} {Φ : AV → Frame → Ledger → Prop} (hm : (l, .list xs) ∈ σ) (hz : xs.length ≤ sizeLine) (h : Φ (.int xs.length) ρ σ) : Then P C (fun vs => call (.builtin "len") vs) Φ [.ref l] ρ σ := by
  intro vs rs τ s Q E S k
  cases rs with | cons h1 h2 => cases h2; cases h1; exact (by
    obtain ⟨us, hl, hA⟩ := S.isList hm
    have := hA.length
    have := sizeLine_eq
    refine Calls.call_len_list hl (by show (us.length : Int) < _; omega) (k _ (.int xs.length) ρ σ _ ⟨s.toks + 1, ?_⟩ h (S.toks _))
    rw [hA.length]; rfl)
theorem call_len_str {x : Str} {Φ : AV → Frame → Ledger → Prop} (hz : x.length ≤ sizeLine) (h : Φ (.int x.length) ρ σ) : Then P C (fun vs => call (.builtin "len") vs) Φ [.str x] ρ σ := by
  intro vs rs τ s Q E S k
  cases rs with | cons h1 h2 => cases h2; obtain ⟨t, rfl⟩ := h1; exact (by
    have := sizeLine_eq
    exact PySem.P.len_str (by omega) (k _ (.int x.length) ρ σ _ ⟨_, rfl⟩ h (S.toks _)))
theorem call_sum_ints {l : Addr} {ns : List Int} {Φ : AV → Frame → Ledger → Prop} (hm : (l, .list (ns.map AV.int)) ∈ σ) (h : Φ (.int ns.sum) ρ σ) : Then P C (fun vs => call (.builtin "sum") vs) Φ [.ref l] ρ σ := by
  intro vs rs τ s Q E S k
  cases rs with | cons h1 h2 => cases h2; cases h1; exact (by
    obtain ⟨us, hl, hi⟩ := S.isInts hm
    obtain ⟨m, news, F, N, hback⟩ := S.via
    exact LSm.sum_ints F N C.hand hl hi fun h' tk t' F' N' => k _ (.int ns.sum) ρ σ _ ⟨_, rfl⟩ h (hback _ F' N' rfl S.gens))
theorem op_mul_li {l : Addr} {xs : List AV} {n : Int} {Φ : AV → Frame → Ledger → Prop} (hm : (l, .list xs) ∈ σ) (h0 : -(2 ^ 63) ≤ n) (h1 : n < 2 ^ 63) (hz : xs.length * n.toNat ≤ 256) (h : ∀ a, Φ (.ref a) ρ ((a, .list (List.replicate n.toNat xs).flatten) :: σ)) : OpV P C ρ σ (binaryOp .Mult) (.ref l) (.int n) Φ := by
  rintro _ _ rfl ⟨u, rfl⟩ τ s Q E S k
  obtain ⟨us, hl, hA⟩ := S.isList hm
  obtain ⟨m, news, F, N, hlt, -, hback⟩ := S.via1
  refine KMa.mul F N (by simpa using hl) h0 h1 (by rw [← hA.length]; exact hz) rfl fun D h' F' N' hD => ?_
  refine k _ (.ref D) ρ _ _ rfl (h D) (hback _ _ _ _ F' N' hD ⟨_, _, rfl, ?_⟩ rfl S.gens)
  generalize n.toNat = j
  induction j with
  | zero => exact .nil
  | succ j ih => rw [List.replicate_succ, List.replicate_succ, List.flatten_cons, List.flatten_cons]; exact hA.app ih
/-! list.index -/
end
end Mine
end
section -- B14
open PySem PySem.W PySem.Calls PyProof.Rows
set_option Elab.async false
set_option maxRecDepth 100000
set_option linter.unusedVariables false
namespace Mine
section
variable {P : Program} {w : World} {K : Frag} {sc : Scope} {C : Ctxt w K sc} {ρ ρ' : Frame} {σ σ' τ : Ledger} {s : Shared}
/-- a loop of a comprehension that leaves the ledger -/
theorem loop_filterG {α : Type} {x : Str} {ifs : List Expr} {elt : Expr} {xs : List AV} {src : Ledger → Prop} {Ψ : List AV → Frame → Ledger → Prop} {ys₀ : List AV} {z₀ : Option AV} {us : List α} (g : α → AV) (p : α → Bool) (f : α → AV) (hxs : xs = us.map g)
    (fr : Option AV → Frame) (hput : ∀ z a, PutF x a (fr z) (fr (some a))) (hsrc : src σ) (hz : ys₀.length + us.length ≤ sizeLine) (hk : sc.names.lookup x = some .local)
    (h : ∀ (i : Nat) (u : α), us[i]? = some u → WB P C (fr (some (g u))) σ (testsT ifs C.env) fun ok ρ' σ' => ok = p u ∧ ρ' = fr (some (g u)) ∧ σ.Sublist σ' ∧
      (p u = true → WV P C ρ' σ (eval elt C.env) fun a ρ'' σ'' => a = f u ∧ (∃ z, ρ'' = fr z) ∧ σ.Sublist σ''))
    (fin : ∀ z, Ψ (ys₀ ++ (us.filter p).map f) (fr z) σ) : Loop1 P C x ifs xs src (Emit1 P C elt) ys₀ (fr z₀) σ Ψ := by
  subst hxs
  refine ⟨fun i ys ρ σ' => ys = ys₀ ++ ((us.take i).filter p).map f ∧ (∃ z, ρ = fr z) ∧ σ' = σ, ⟨by simp, ⟨_, rfl⟩, rfl⟩, ?_, ?_, ?_⟩
  · rintro i ys ρ _ ⟨_, _, rfl⟩; exact hsrc
  · rintro i b ys ρ _ ⟨rfl, ⟨z, rfl⟩, rfl⟩ hx vb hb
    rw [List.getElem?_map, Option.map_eq_some_iff] at hx
    obtain ⟨u, hu, rfl⟩ := hx
    refine st_loc (hput _ _) hb ?_ hk
    have hlen : i < us.length := (List.getElem?_eq_some_iff.mp hu).1
    have htake : us.take (i + 1) = us.take i ++ [u] := by rw [List.take_add_one, hu]; rfl
    refine W.sub (W.mono (h i u hu) fun ok ρ' σ' q => ?_)
    obtain ⟨rfl, rfl, hs, he⟩ := q
    refine ⟨_, hs, fun hp => ?_, fun hp => ?_⟩
    · refine W.sub (W.mono (he hp) fun a ρ'' σ'' q => ?_)
      obtain ⟨rfl, hz', hs'⟩ := q
      refine ⟨_, .refl _, ?_, _, hs', ?_, hz', rfl⟩
      · have h1 := List.length_filter_le p (us.take i)
        rw [List.length_append, List.length_map]
        rw [List.length_take] at h1
        omega
      · rw [htake, List.filter_append, List.map_append]
        simp [hp]
    · exact ⟨_, .refl _, by rw [htake, List.filter_append, List.map_append]; simp [hp], ⟨_, rfl⟩, rfl⟩
  · rintro ys ρ _ ⟨rfl, ⟨z, rfl⟩, rfl⟩
    rw [List.length_map, List.take_length]
    exact fin z
theorem loop_filter {α : Type} {x : Str} {ifs : List Expr} {elt : Expr} {xs : List AV} {src : Ledger → Prop} {Ψ : List AV → Frame → Ledger → Prop} {ys₀ : List AV} {z₀ : Option AV} {us : List α} (g : α → AV) (p : α → Bool) (f : α → AV) (hxs : xs = us.map g)
    (hsrc : src σ) (hz : ys₀.length + us.length ≤ sizeLine) (hk : sc.names.lookup x = some .local)
    (h : ∀ (i : Nat) (u : α), us[i]? = some u → WB P C [(x, some (g u))] σ (testsT ifs C.env) fun ok ρ' σ' => ok = p u ∧ ρ' = [(x, some (g u))] ∧ σ.Sublist σ' ∧
      (p u = true → WV P C ρ' σ (eval elt C.env) fun a ρ'' σ'' => a = f u ∧ (∃ z, ρ'' = [(x, z)]) ∧ σ.Sublist σ''))
    (fin : ∀ z, Ψ (ys₀ ++ (us.filter p).map f) [(x, z)] σ) : Loop1 P C x ifs xs src (Emit1 P C elt) ys₀ [(x, z₀)] σ Ψ :=
  loop_filterG g p f hxs (fun z => [(x, z)]) (fun _ _ => .head) hsrc hz hk h fin
end
end Mine
end
section -- B15
open PySem PySem.W PySem.Calls PyProof.Rows
set_option Elab.async false
set_option maxRecDepth 100000
set_option linter.unusedVariables false
namespace Mine
section
variable {P : Program} {w : World} {K : Frag} {sc : Scope} {C : Ctxt w K sc} {ρ ρ' : Frame} {σ σ' τ : Ledger} {s : Shared}
/-! items set -/
noncomputable abbrev SetV (P : Program) {w : World} {K : Frag} {sc : Scope} (C : Ctxt w K sc) (ρ : Frame) (σ : Ledger) (o i v : AV) (Φ : Frame → Ledger → Prop) : Prop := ∀ vo vi va, o.is vo → i.is vi → v.is va → WU P C ρ σ (setItem vo vi va) Φ
theorem x_setitem {o i value : Expr} {p1 pos : Pos} {Φ : AFlow → Frame → Ledger → Prop}
    (h : WV P C ρ σ (eval value C.env) fun v ρ1 σ1 => WV P C ρ1 σ1 (eval o C.env) fun ov ρ2 σ2 => WV P C ρ2 σ2 (eval i C.env) fun iv ρ3 σ3 => SetV P C ρ3 σ3 ov iv v fun ρ4 σ4 => Φ .next ρ4 σ4)
    (hs : swapsWith value (some (.Subscript o i p1)) pos.line C.env = pure false := by rfl) : WF P C ρ σ (exec (.Assign [.Subscript o i p1] value pos) C.env) Φ :=
  fun τ s Q E S k => wpAny_Assign_Subscript (h τ s _ E S fun va v ρ1 σ1 s1 r1 p1 S1 => p1 τ s1 _ E S1 fun vo ov ρ2 σ2 s2 r2 p2 S2 => p2 τ s2 _ E S2 fun vi iv ρ3 σ3 s3 r3 p3 S3 =>
    p3 vo vi va r2 r3 r1 τ s3 _ E S3 fun _ _ ρ4 σ4 s4 _ p4 S4 => k _ .next ρ4 σ4 s4 rfl p4 S4) hs
theorem x_augitem {o i value : Expr} {op : Operator} {p1 pos : Pos} {Φ : AFlow → Frame → Ledger → Prop}
    (h : WV P C ρ σ (eval o C.env) fun ov ρ1 σ1 => WV P C ρ1 σ1 (eval i C.env) fun iv ρ2 σ2 => OpV P C ρ2 σ2 getItem ov iv fun old ρ3 σ3 => WV P C ρ3 σ3 (eval value C.env) fun v ρ4 σ4 => OpV P C ρ4 σ4 (inplaceOp op) old v fun new ρ5 σ5 => SetV P C ρ5 σ5 ov iv new fun ρ6 σ6 => Φ .next ρ6 σ6)
    (hi : ∀ ov iv new, augStore i ov iv new = (do holding [new, ov, iv] (setItem ov iv new); release [new, ov, iv] []; pure .next) := by intros; rfl) : WF P C ρ σ (exec (.AugAssign (.Subscript o i p1) op value pos) C.env) Φ :=
  fun τ s Q E S k => wpAny_AugAssign_SubscriptAny (h τ s _ E S fun vo ov ρ1 σ1 s1 r1 p1 S1 => p1 τ s1 _ E S1 fun vi iv ρ2 σ2 s2 r2 p2 S2 => p2 vo vi r1 r2 τ s2 _ E S2 fun vold old ρ3 σ3 s3 r3 p3 S3 =>
    p3 τ s3 _ E S3 fun va v ρ4 σ4 s4 r4 p4 S4 => p4 vold va r3 r4 τ s4 _ E S4 fun vn new ρ5 σ5 s5 r5 p5 S5 => p5 vo vi vn r1 r2 r5 τ s5 _ E S5 fun _ _ ρ6 σ6 s6 _ p6 S6 => k _ .next ρ6 σ6 s6 rfl p6 S6) hi
theorem All2.set {α β : Type} {R : α → β → Prop} {l : List α} {m : List β} (h : All2 R l m) {a : α} {b : β} (r : R a b) : ∀ i, All2 R (l.set i a) (m.set i b) := by
  induction h with
  | nil => intro i; exact .nil
  | cons h1 _ ih =>
    intro i
    cases i with
    | zero => exact .cons r (by assumption)
    | succ i => exact .cons h1 (ih i)
theorem get_list {l : Addr} {xs : List AV} {k : Int} {a : AV} {Φ : AV → Frame → Ledger → Prop} (hm : (l, .list xs) ∈ σ) (h0 : 0 ≤ k) (h1 : k < 2 ^ 63) (hx : xs[k.toNat]? = some a) (h : Φ a ρ σ) : OpV P C ρ σ getItem (.ref l) (.int k) Φ := by
  rintro _ _ rfl ⟨u, rfl⟩ τ s Q E S kk
  obtain ⟨vs, hl, hA⟩ := S.isList hm
  obtain ⟨v, hv, ha⟩ := hA.get hx
  exact wpAny_getItem_list hl h0 h1 (by simpa using hv) (kk v a ρ σ s ha h S)
theorem setItem_exact {A : Around} {E : Value → Shared → Prop} {l : Addr} {items : List Value} {n : Nat} {k : Int} {t : Tok} {v : Value} {Q : Unit → Shared → Prop} (ho : s.heap.get? l = some { cls := .type "list", data := .seq ⟨items⟩ n })
    (h0 : 0 ≤ k) (hfit : k < 2 ^ 63) (hn : k < (items.length : Int))
    (hQ : ∀ h', h'.get? l = some { cls := .type "list", data := .seq ⟨items.set k.toNat v⟩ n } → Heap.SameBut l s.heap h' → Q () { s with heap := h' }) :
    wpAny (model P w) A (setItem (.ref l) (.int k t) v) Q E s := by
  have hl : s.heap.IsList l ⟨items⟩ := ⟨_, ho, rfl, n, rfl⟩
  unfold setItem
  try with_reducible refine wpAny_holding ?_
  first | refine wpAny_bind (wpAny_pure ?_) | skip
  refine wpAny_bind (wpAny_sequenceKey hl.typeIs (by decide) ?_)
  refine wpAny_bind (wpAny_callSpecial?_slot (name := Str.ofString "__setitem__") hl.typeIs slot_list_setitem
    (wpAny_call_entry slot_list_setitem hl.typeIs entry_list_setitem ?_ (args_list_setitem _ _ _)))
  show wpAny _ _ (Builtin.List.listSubscript? (.int k t) >>= _) _ _ s
  refine wpAny_bind (wpAny_listSubscript_int (fitsIndex_of h0 hfit) ?_)
  clear hfit
  obtain ⟨j, rfl⟩ := Int.eq_ofNat_of_zero_le h0
  have hj' : j < (⟨items⟩ : Array Value).size := by show j < items.length; omega
  have hx' : (⟨items⟩ : Array Value)[j]? = some (⟨items⟩ : Array Value)[j] := Array.getElem?_eq_getElem hj'
  show wpAny _ _ ((seqItemAt l j >>= fun r => pure (r.map (j, ·))) >>= _) _ _ s
  refine wpAny_bind (wpAny_bind (wpAny_seqItemAt ho rfl (wpAny_pure ?_)))
  rw [hx']
  show wpAny _ _ (setSeqItemAt l j v >>= _) _ _ s
  have hfin : (s.heap.update l (Obj.mapSeq (·.setIfInBounds j v))).get? l = some { cls := .type "list", data := .seq ⟨items.set j v⟩ n } :=
    (Heap.get?_update_self _ ho rfl).trans (by simp [Obj.mapSeq])
  refine wpAny_bind (wpAny_setSeqItemAt ho rfl ?_)
  first
    | exact wpAny_bind (wpAny_pure (wpAny_pure ⟨.none, rfl, wpAny_pure (hQ _ hfin (Heap.SameBut.update ..))⟩))
    | exact wpAny_pure ⟨.none, rfl, wpAny_pure (hQ _ hfin (Heap.SameBut.update ..))⟩
theorem set_list {l : Addr} {xs : List AV} {k : Int} {a : AV} {Φ : Frame → Ledger → Prop} (U : PutL l (.list xs) (.list (xs.set k.toNat a)) σ σ') (h0 : 0 ≤ k) (h1 : k < 2 ^ 63) (hx : k.toNat < xs.length) (h : Φ ρ σ') : SetV P C ρ σ (.ref l) (.int k) a Φ := by
  rintro _ _ va rfl ⟨u, rfl⟩ ha τ s Q E S kk
  obtain ⟨ob, hg, vs, n, rfl, hA⟩ := S.get U.mem
  have hlen := hA.length
  refine setItem_exact hg h0 h1 (by omega) fun h' hl' hs => ?_
  exact kk () () ρ σ' _ trivial h (S.put (n := s.toks) (U.app τ) hs hl' ⟨_, n, rfl, hA.set ha k.toNat⟩)
/-! is -/
theorem cmp_is_bb {b c : Bool} {Φ : AV → Frame → Ledger → Prop} (h : Φ (.bool (b == c)) ρ σ) : OpV P C ρ σ (compareOp .Is) (.bool b) (.bool c) Φ := by
  rintro _ _ rfl rfl τ s Q E S k
  exact is_bool (k _ (.bool _) ρ σ s rfl h S)
theorem cmp_isnot_bb {b c : Bool} {Φ : AV → Frame → Ledger → Prop} (h : Φ (.bool (b != c)) ρ σ) : OpV P C ρ σ (compareOp .IsNot) (.bool b) (.bool c) Φ := by
  rintro _ _ rfl rfl τ s Q E S k
  exact isnot_bool (k _ (.bool _) ρ σ s rfl h S)
end
end Mine
end
section -- B16
open PySem PySem.W PySem.Calls PyProof.Rows
set_option Elab.async false
set_option maxRecDepth 100000
set_option linter.unusedVariables false
namespace Mine
section
variable {P : Program} {w : World} {K : Frag} {sc : Scope} {C : Ctxt w K sc} {ρ ρ' : Frame} {σ σ' τ : Ledger} {s : Shared}
theorem strsAre_map {l : List (Str × Tok)} {xs : List Str} (e : l.map (·.1) = xs) : All2 AV.is (xs.map AV.str) (strValues l) := by
  subst e
  induction l with
  | nil => exact .nil
  | cons p r ih => exact .cons ⟨p.2, rfl⟩ ih
theorem call_split0 {x : Str} {t : Tok} {Φ : AV → Frame → Ledger → Prop} (hz : x.length + 2 ≤ sizeLine) (h : ∀ a, Φ (.ref a) ρ ((a, .list ((Txt.words x).map AV.str)) :: σ)) : WV P C ρ σ (call (.builtin "str.split") [.str x t]) Φ := by
  intro τ s Q E S k
  obtain ⟨m, news, F, N, hlt, -, hback⟩ := S.via1
  exact KSpl.split0 F N (fun D l h' kk e _ F' N' hD => k _ (.ref D) ρ _ _ rfl (h D) (hback _ _ _ _ F' N' hD ⟨strValues l, 0, rfl, strsAre_map e⟩ rfl S.gens)) hz
theorem call_split1 {x y : Str} {t : Tok} {Φ : AV → Frame → Ledger → Prop} (hy : (y.length == 0) = false) (hz : x.length + 2 ≤ sizeLine) (h : ∀ a, Φ (.ref a) ρ ((a, .list ((Txt.split x y).map AV.str)) :: σ)) :
    Then P C (fun vs => call (.builtin "str.split") ([.str x t] ++ vs)) Φ [.str y] ρ σ := by
  intro vs rs τ s Q E S k
  cases rs with | cons h1 h2 => cases h2; obtain ⟨u, rfl⟩ := h1; exact (by
    obtain ⟨m, news, F, N, hlt, -, hback⟩ := S.via1
    exact KSpl.split1 F N hy (fun D l h' kk e _ F' N' hD => k _ (.ref D) ρ _ _ rfl (h D) (hback _ _ _ _ F' N' hD ⟨strValues l, 0, rfl, strsAre_map e⟩ rfl S.gens)) hz)
theorem rsize1 {a b : Int} {n : Nat} (h : b = a + n) : Builtin.Range.rangeSize a b 1 = (n : Int) := by
  subst h
  rw [rangeSize_one]
  split <;> omega
noncomputable abbrev rio (a : Int) (n : Nat) : Nat → Obj → Prop := fun i o => o = { cls := .type "range_iterator", dict := none, data := .fields #[rawInt (a + i), rawInt ((n : Int) - i), rawInt 1], slots := #[] }
theorem src_range1 {r : Addr} {a b : Int} {n : Nat} (ha : -1000000 ≤ a ∧ a ≤ 1000000) (hn : n ≤ 1000000) (h : b = a + n) : Src P w K (.ref r) ((List.range n).map fun (i : Nat) => AV.int (a + i)) (fun σ => (r, .range a b 1) ∈ σ) (rio a n) := by
  have := src_range (P := P) (w := w) (K := K) (r := r) (small_one (a := a) (b := b) (by omega) (by omega) (by omega) (by omega)) (rsize1 h)
  simp only [Int.mul_one] at this
  exact this
theorem src_range0 {r : Addr} {b : Int} {n : Nat} (hn : n ≤ 1000000) (h : b = n) : Src P w K (.ref r) ((List.range n).map fun (i : Nat) => AV.int i) (fun σ => (r, .range 0 b 1) ∈ σ) (rio 0 n) := by
  have := src_range1 (P := P) (w := w) (K := K) (r := r) (a := 0) (b := b) (by omega) hn (by omega)
  simp only [Int.zero_add] at this ⊢
  simpa only [rio, Int.zero_add] using this
end
end Mine
end
section -- B17
open PySem PySem.W PySem.Calls PyProof.Rows Builtin Builtin.ObjectAttr
set_option Elab.async false
set_option maxRecDepth 100000
set_option linter.unusedVariables false
namespace Mine
/-! attributes -/
noncomputable def putA (name : Str) (a : AV) : List (Str × AV) → List (Str × AV)
  | [] => [(name, a)]
  | (k, v) :: r => if k = name then (k, a) :: r else (k, v) :: putA name a r
theorem isStr_of {d : DictEntry} {k name : Str} (h : ∃ t, d.key = .str k t) : d.key.isStr name = (k == name) := by
  obtain ⟨t, e⟩ := h
  rw [e]; rfl
theorem getL_some {p : Params} {es : List (Str × AV)} {ds : List DictEntry} (h : All2 (entryIs p) es ds) {name : Str} {a : AV} (e : es.lookup name = some a) : ∃ v, getL name ds = some (some v) ∧ a.is v := by
  induction h with
  | nil => cases e
  | cons h1 h2 ih =>
    rename_i e1 d1 es ds
    obtain ⟨k, v⟩ := e1
    have hk := isStr_of (name := name) h1.2.1
    rw [List.lookup_cons] at e
    unfold getL
    rw [List.find?_cons, hk]
    cases q : name == k with
    | true =>
      rw [q] at e; cases e
      have : (k == name) = true := by simpa using (beq_iff_eq.mp q).symm
      rw [show ((k, a).fst == name) = true from this]
      exact ⟨_, rfl, h1.2.2⟩
    | false =>
      rw [q] at e
      have : (k == name) = false := by
        simp only [beq_eq_false_iff_ne, ne_eq] at q ⊢
        exact fun e => q e.symm
      rw [show ((k, v).fst == name) = false from this]
      obtain ⟨v', h3, h4⟩ := ih e
      refine ⟨v', ?_, h4⟩
      unfold getL at h3
      dsimp only
      cases hf : ds.find? (·.key.isStr name) with
      | some d => rw [hf] at h3; exact h3
      | none =>
        rw [hf] at h3
        dsimp only at h3
        split at h3 <;> cases h3
theorem noRef_of {p : Params} {es : List (Str × AV)} {ds : List DictEntry} (h : All2 (entryIs p) es ds) : ds.any (·.refKey) = false := by
  induction h with
  | nil => rfl
  | cons h1 _ ih =>
    obtain ⟨_, ⟨t, e⟩, _⟩ := h1
    rw [List.any_cons, ih, Bool.or_false]
    unfold DictEntry.refKey; rw [e]
theorem getL_none {p : Params} {es : List (Str × AV)} {ds : List DictEntry} (h : All2 (entryIs p) es ds) {name : Str} (e : es.lookup name = none) : getL name ds = some none := by
  have hf : ds.find? (·.key.isStr name) = none := by
    induction h with
    | nil => rfl
    | cons h1 h2 ih =>
      rename_i e1 d1 es ds
      obtain ⟨k, v⟩ := e1
      have hk := isStr_of (name := name) h1.2.1
      rw [List.lookup_cons] at e
      rw [List.find?_cons, hk]
      cases q : name == k with
      | true => rw [q] at e; cases e
      | false =>
        rw [q] at e
        have : (k == name) = false := by
          simp only [beq_eq_false_iff_ne, ne_eq] at q ⊢
          exact fun e => q e.symm
        rw [show ((k, v).fst == name) = false from this]
        exact ih e
  unfold getL
  rw [hf, noRef_of h]; rfl
theorem putL_is {p : Params} {es : List (Str × AV)} {ds : List DictEntry} (h : All2 (entryIs p) es ds) {name : Str} {a : AV} {v : Value} (t : Tok) (ha : a.is v) : All2 (entryIs p) (putA name a es) (putL name (PyData.keyHash p name) (.str name t) v ds) := by
  induction h with
  | nil => exact .cons ⟨rfl, ⟨t, rfl⟩, ha⟩ .nil
  | cons h1 h2 ih =>
    rename_i e1 d1 es ds
    obtain ⟨k, v'⟩ := e1
    have hk := isStr_of (name := name) h1.2.1
    unfold putA putL
    rw [hk]
    by_cases e : k = name
    · subst e
      rw [if_pos rfl, if_pos (by simp)]
      exact .cons ⟨h1.1, h1.2.1, ha⟩ h2
    · rw [if_neg e, if_neg (by simpa using e)]
      exact .cons h1 ih
theorem putA_len (name : Str) (a : AV) : ∀ es : List (Str × AV), (putA name a es).length ≤ es.length + 1
  | [] => Nat.le_refl _
  | (k, v) :: r => by unfold putA; split <;> simp [putA_len name a r]
noncomputable def AV.plain : AV → Bool
  | .builtin _ => false
  | _ => true
theorem AV.handed {a : AV} {v : Value} (hp : a.plain = true) (h : a.is v) : handedIn v = true := by
  cases a with
  | none => cases h; rfl
  | bool b => cases h; rfl
  | int i => obtain ⟨t, rfl⟩ := h; rfl
  | str x => obtain ⟨t, rfl⟩ := h; rfl
  | ref a => cases h; rfl
  | type n => cases h; rfl
  | builtin i => cases hp
/-- an object of a class of the text's own, with its dict -/
inductive ObjAt (σ : Ledger) (x Cc d : Addr) : Prop
  | inst : (x, .inst Cc d) ∈ σ → ObjAt σ x Cc d
  | acc {xs : List AV} : (x, .acc Cc d xs) ∈ σ → ObjAt σ x Cc d
/-- an attribute of its own -/
noncomputable def ownOk (K : Frag) (Cc : Addr) (name : Str) : Bool := plainGet K Cc name && hasDictIn K Cc && (match findIn K (.ref Cc) name with | some attr => noGet K attr | none => false)
/-- a method of the class -/
noncomputable def methOk (K : Frag) (Cc : Addr) (name : Str) (f : Addr) : Bool := plainGet K Cc name && findIn K (.ref Cc) name == some (some (.ref f)) && isFn K (.ref f)
theorem passes_list (self : Value) : refuseLoop self "__setattr__" [.type "list", .type "object"] = pure () := by kernel_rfl
section
variable {P : Program} {w : World} {K : Frag} {sc : Scope} {C : Ctxt w K sc} {ρ ρ' : Frame} {σ σ' τ : Ledger} {s : Shared}
theorem ev_attr {e : Expr} {name : Str} {pos : Pos} {Φ : AV → Frame → Ledger → Prop} (h : WV P C ρ σ (eval e C.env) fun a ρ1 σ1 => ∀ v, a.is v → WV P C ρ1 σ1 (getAttr v name true) Φ)
    (hb : attributeBase e name C.env (eval e C.env) = eval e C.env := by rfl) (hl : ∀ o r, letTemporaryGo e o r = pure () := by intro _ _; rfl) : WV P C ρ σ (eval (.Attribute e name pos) C.env) Φ := by
  intro τ s Q E S k
  rw [arm_eval_Attribute, hb]
  refine wpAny_bind (h τ s _ E S fun v a ρ1 σ1 s1 r p S1 => wpAny_bind (wpAny_standAt (wpAny_bind (wpAny_holding (p v r τ s1 _ E S1 fun v2 a2 ρ2 σ2 s2 r2 p2 S2 => ?_)))))
  exact wpAny_bind (wpAny_of_eq (a := ()) (hl _ _) (wpAny_pure (k v2 a2 ρ2 σ2 s2 r2 p2 S2)))
theorem St.inst (S : St C ρ (σ ++ τ) s) {x Cc d : Addr} {es : List (Str × AV)} (hx : ObjAt σ x Cc d) (hd : (d, .dict es) ∈ σ) :
    ∃ ds n ox, InstAt s.heap x ox Cc (some (dictOf ds n)) ∧ ox.dict = some d ∧ All2 (entryIs w.params) es ds ∧ s.heap.get? d = some (dictOf ds n) := by
  obtain ⟨od, hgd, ds, n, rfl, hA⟩ := S.get hd
  cases hx with
  | inst hx =>
    obtain ⟨ox, hgx, rfl⟩ := S.get hx
    exact ⟨ds, n, _, ⟨hgx, rfl, rfl, hgd⟩, rfl, hA, hgd⟩
  | acc hx =>
    obtain ⟨ox, hgx, vs, m, rfl, _⟩ := S.get hx
    exact ⟨ds, n, _, ⟨hgx, rfl, rfl, hgd⟩, rfl, hA, hgd⟩
theorem ga_own {x Cc d : Addr} {es : List (Str × AV)} {name : Str} {ex : Bool} {a : AV} {Φ : AV → Frame → Ledger → Prop} (hx : ObjAt σ x Cc d) (hd : (d, .dict es) ∈ σ) (hk : ownOk K Cc name = true) (ha : es.lookup name = some a) (hp : a.plain = true) (h : Φ a ρ σ) :
    ∀ v, (AV.ref x).is v → WV P C ρ σ (getAttr v name ex) Φ := by
  rintro _ rfl τ s Q E S k
  obtain ⟨ds, n, ox, I, -, hA, -⟩ := S.inst hx hd
  obtain ⟨m, F, -⟩ := S.fr
  unfold ownOk at hk
  simp only [Bool.and_eq_true] at hk
  obtain ⟨⟨h1, h2⟩, h3⟩ := hk
  obtain ⟨v, hl, hv⟩ := getL_some hA ha
  cases hf : findIn K (.ref Cc) name with
  | none => rw [hf] at h3; cases h3
  | some attr =>
    rw [hf] at h3
    exact get_own F C.X I h1 h2 hf h3 hl (AV.handed hp hv) (k v a ρ σ _ hv h (S.toks _))
theorem tm_own {x Cc d f : Addr} {es : List (Str × AV)} {name : Str} {pos : Pos} {args : List Expr} {pl : Sem Bool} {Φ : AV → Frame → Ledger → Prop} (hx : ObjAt σ x Cc d) (hd : (d, .dict es) ∈ σ) (hk : methOk K Cc name f = true) (hn : es.lookup name = none)
    (h : WV P C ρ σ (callWith pos (.ref f) [.ref x] (backTo pos (starEach args C.env)) []) Φ) : ThenM P C pos args name pl Φ (.ref x) ρ σ := by
  rintro _ rfl τ s Q E S k
  obtain ⟨ds, n, ox, I, -, hA, -⟩ := S.inst hx hd
  obtain ⟨m, F, -⟩ := S.fr
  unfold methOk at hk
  simp only [Bool.and_eq_true, beq_iff_eq] at hk
  obtain ⟨⟨h1, h2⟩, h3⟩ := hk
  exact method_inst F C.X I h1 h2 h3 (getL_none hA hn) (k _ _ ρ σ s rfl h S)
/-- an attribute of the class, read from the class -/
theorem ga_cls {Cc : Addr} {name : Str} {ex : Bool} {mc a : Value} {av : AV} {Φ : AV → Frame → Ledger → Prop} (hm : typeIn K (.ref Cc) = some mc) (hr : readsIn K Cc mc = true) (e : findCls K (.ref Cc) mc name = some (.val a)) (hh : handedIn a = true) (ha : av.is a) (h : Φ av ρ σ) :
    ∀ v, (AV.ref Cc).is v → WV P C ρ σ (getAttr v name ex) Φ := by
  rintro _ rfl τ s Q E S k
  obtain ⟨m, F, -⟩ := S.fr
  exact cls_val F C.X hm hr e hh (k a av ρ σ _ ha h (S.toks _))
end
end Mine
end
section -- B18
open PySem PySem.W PySem.Calls PyProof.Rows Builtin Builtin.ObjectAttr
set_option Elab.async false
set_option maxRecDepth 100000
set_option linter.unusedVariables false
namespace Mine
noncomputable def ovL : List Value → Bool
  | .ref _ :: r => ovL r
  | [.type n] => n == "object"
  | [.type n, .type m] => n == "list" && m == "object"
  | _ => false
theorem ovL_refuse (self : Value) : ∀ {l : List Value}, ovL l = true → refuseLoop self "__setattr__" l = pure ()
  | .ref c :: r, e => by rw [refuseLoop_ref]; exact ovL_refuse self e
  | [.type n], e => by rw [show n = "object" from beq_iff_eq.mp e]; exact PySem.F.store_object.passes self
  | [.type n, .type m], e => by
    have e' : (n == "list" && m == "object") = true := e
    simp only [Bool.and_eq_true, beq_iff_eq] at e'
    rw [e'.1, e'.2]; exact passes_list self
theorem ovL_has : ∀ {l : List Value}, ovL l = true → l.contains (.type "object") = true
  | .ref c :: r, e => by rw [List.contains_cons, ovL_has (l := r) e, Bool.or_true]
  | [.type n], e => by rw [show n = "object" from beq_iff_eq.mp e]; simp
  | [.type n, .type m], e => by
    have e' : (n == "list" && m == "object") = true := e
    simp only [Bool.and_eq_true, beq_iff_eq] at e'
    rw [e'.1, e'.2]; decide
noncomputable def overOk (K : Frag) (C : Addr) : Bool := (clsIn K C).any fun cd => ovL cd.mro
noncomputable def setOk (K : Frag) (Cc : Addr) (name : Str) : Bool := findIn K (.ref Cc) "__setattr__" == some (some (.builtin "object.__setattr__")) && overOk K Cc && hasDictIn K Cc && (match takerIn K Cc name with | some none => true | _ => false)
section
variable {P : Program} {w : World} {K : Frag} {A : Around} {s : Shared} {R : Result → Shared → Prop}
theorem osa_mine {x Cc dx : Addr} {ox : Obj} {name : Str} {tk : Tok} {v : Value} {ds : List DictEntry} {n : Nat} (X : K.In s.heap)
    (I : InstAt s.heap x ox Cc (some (dictOf ds n))) (hd : ox.dict = some dx) (hp : overOk K Cc = true) (ht : takerIn K Cc name = some none) (hh : hasDictIn K Cc = true)
    (hl : (getL name ds).isSome = true) (hz : (putL name (PyData.keyHash w.params name) (.str name s.toks) v ds).length ≤ 1000)
    (h : ∀ h', h'.get? dx = some (dictOf (putL name (PyData.keyHash w.params name) (.str name s.toks) v ds) (putN name ds n)) → Heap.SameBut dx s.heap h' → R (.ok (.ret .none)) { s with heap := h', toks := s.toks + 1 }) :
    codeAny (model P w) A (.call (.builtin "object.__setattr__") ⟨[.ref x, .str name tk, v], []⟩) R s := by
  have SF := PySem.F.store_object
  obtain ⟨cd, hc, ho⟩ := any_some hp
  have ne : cd.mro.isEmpty = false := by cases q : cd.mro with | nil => rw [q] at ho; cases ho | cons _ _ => rfl
  have sub : Looks (model P w) s.heap (isInstance (.ref x) (.type "object")) true := I.type.andThen (looks_mroIn X (by unfold mroIn; rw [hc, Option.bind_some, if_neg (by rw [ne]; decide), ovL_has ho]))
  refine codeAny_call_builtin SF.slot.plain SF.entry (@check_slot (model P w) _ _ s "object.__setattr__" "object" "__setattr__" (.ref x) [.str name tk, v] [] _ SF.kind SF.split sub (SF.args (.ref x) (.str name tk) v) ?_)
  obtain ⟨attr, ha, hr⟩ := Option.bind_eq_some_iff.mp ht
  have hm : Looks (model P w) s.heap (mroOf (.ref Cc)) cd.mro := (looks_clsIn X hc).andThen .now
  have L3 : Looks (model P w) s.heap (storeTaker? attr) none := by
    cases attr with
    | none => exact .now
    | some a =>
      obtain ⟨b, hb, e⟩ := Option.map_eq_some_iff.mp hr
      refine (looks_takesIn X hb).andThen ?_
      cases b with
      | false => exact .now
      | true => cases e
  rw [osa_eq, refuse_eq]
  refine wpAny_bind (wpAny_bind (I.type.here (wpAny_bind (hm.here ?_))))
  rw [ovL_refuse _ ho]
  refine wpAny_pure (wpAny_bind (I.type.here (wpAny_bind ((looks_findIn X ha).here (wpAny_bind (L3.here ?_))))))
  obtain ⟨cd2, hc2, hd'⟩ := any_some hh
  obtain ⟨hx, hcl, hn, hdx⟩ := I
  rw [hd] at hdx
  have D : s.heap.get? dx = some (dictOf ds n) := hdx
  obtain ⟨oc, odi, oda, osl⟩ := ox
  dsimp only at hcl hd
  subst hcl hd
  refine wpAny_bind (wpAny_pure (wpAny_bind (wpAny_bind (wpAny_loadPart hx (wpAny_bind ((looks_clsIn X hc2).here ?_))))))
  rw [hd']
  refine wpAny_pure (a := some dx) (wpAny_bind (wpAny_pure (wpAny_bind ?_)))
  unfold nsSet
  refine wpAny_bind (wpAny_bind (wpAny_askSetting (wpAny_pure (wpAny_bind (wpAny_mkText (wpAny_bind (wpAny_loadPart D ?_)))))))
  dsimp only [dictOf]
  have c : (!ds.toArray.any (·.key.isStr name) && ds.toArray.any (·.refKey)) = false := by
    rw [← Array.any_toList, ← Array.any_toList]
    unfold getL at hl
    split at hl
    · rename_i en he
      have := List.any_eq_true.mpr ⟨en, List.mem_of_find?_eq_some he, List.find?_some he⟩
      simp only [this]; rfl
    · split at hl
      · cases hl
      · rename_i z; rw [Bool.not_eq_true] at z; simp only [z, Bool.and_false]
  rw [aRefKeyMayBeTheName_at, c]
  have e1 := putName_dict name (PyData.keyHash w.params name) (.str name s.toks) v ds n
  have D' : (s.heap.update dx (Obj.putName name (PyData.keyHash w.params name) (.str name s.toks) v)).get? dx = some (dictOf (putL name (PyData.keyHash w.params name) (.str name s.toks) v ds) (putN name ds n)) := by
    rw [Heap.get?_update_self _ D (by rw [e1]; rfl), e1]
  refine wpAny_updatePart D ?_
  refine wpAny_bind (wpAny_lookBehind D' (pastItsLine_dict (by rw [List.size_toArray, sizeLine_eq]; omega)) ?_)
  exact wpAny_pure (h _ D' (Heap.SameBut.update ..))
end
section
variable {P : Program} {w : World} {K : Frag} {sc : Scope} {C : Ctxt w K sc} {ρ ρ' : Frame} {σ σ' τ : Ledger} {s : Shared}
theorem sa_own {x Cc d : Addr} {es : List (Str × AV)} {name : Str} {a : AV} {v : Value} {Φ : Frame → Ledger → Prop} (hx : ObjAt σ x Cc d) (U : PutL d (.dict es) (.dict (putA name a es)) σ σ') (hk : setOk K Cc name = true) (hz : es.length ≤ 900) (ha : a.is v) (h : Φ ρ σ') :
    WU P C ρ σ (setAttr (.ref x) name v) Φ := by
  intro τ s Q E S k
  obtain ⟨ds, n, ox, I, hdx, hA, hgd⟩ := S.inst hx U.mem
  unfold setOk at hk
  simp only [Bool.and_eq_true, beq_iff_eq] at hk
  obtain ⟨⟨⟨h1, h2⟩, h3⟩, h4⟩ := hk
  have h4' : takerIn K Cc name = some none := by
    split at h4
    · assumption
    · cases h4
  have hput := putL_is (p := w.params) hA (name := name) (s.toks + 1) ha
  have hlen := putA_len name a es
  refine set_plain S.XH I h1 (osa_mine (s := { s with toks := s.toks + 1 }) S.XH I hdx h2 h4' h3 ?_ ?_ fun h' hg hs => ?_)
  · cases e : es.lookup name with
    | none => rw [getL_none hA e]; rfl
    | some b => obtain ⟨v', h5, _⟩ := getL_some hA e; rw [h5]; rfl
  · have := hput.length
    show (putL name (PyData.keyHash w.params name) (.str name (s.toks + 1)) v ds).length ≤ 1000
    omega
  · exact k () () ρ σ' _ trivial h (S.put (n := s.toks + 2) (U.app τ) hs hg ⟨_, _, rfl, hput⟩)
theorem x_asgattr {e value : Expr} {name : Str} {p1 pos : Pos} {Φ : AFlow → Frame → Ledger → Prop}
    (h : WV P C ρ σ (eval value C.env) fun a ρ1 σ1 => WV P C ρ1 σ1 (eval e C.env) fun o ρ2 σ2 => ∀ v vo, a.is v → o.is vo → WU P C ρ2 σ2 (setAttr vo name v) fun ρ3 σ3 => Φ .next ρ3 σ3)
    (hs : swapsWith value (some (.Attribute e name p1)) pos.line C.env = pure false := by rfl) : WF P C ρ σ (exec (.Assign [.Attribute e name p1] value pos) C.env) Φ :=
  fun τ s Q E S k => plainObj_wpAny_Assign_Attribute (h τ s _ E S fun v a ρ1 σ1 s1 r p S1 => p τ s1 _ E S1 fun vo o ρ2 σ2 s2 r2 p2 S2 => p2 v vo r r2 τ s2 _ E S2 fun _ _ ρ3 σ3 s3 _ p3 S3 => k _ .next ρ3 σ3 s3 rfl p3 S3) hs
theorem sa_self {x Cc d : Addr} {es : List (Str × AV)} {name : Str} {a : AV} {Φ : AFlow → Frame → Ledger → Prop} (hx : ObjAt σ x Cc d) (U : PutL d (.dict es) (.dict (putA name a es)) σ σ') (hk : setOk K Cc name = true) (hz : decide (es.length ≤ 900) = true) (h : Φ .next ρ σ') :
    ∀ v vo, a.is v → (AV.ref x).is vo → WU P C ρ σ (setAttr vo name v) fun ρ3 σ3 => Φ .next ρ3 σ3 := by
  rintro v _ ha rfl
  exact sa_own hx U hk (of_decide_eq_true hz) ha h
/-! codes -/
noncomputable def WC (P : Program) {w : World} {K : Frag} {sc : Scope} (C : Ctxt w K sc) (ρ : Frame) (σ : Ledger) (c : Code) (Φ : AV → Frame → Ledger → Prop) : Prop :=
  ∀ (τ : Ledger) (s : Shared) (R : Result → Shared → Prop), St C ρ (σ ++ τ) s →
    (∀ v b ρ' σ' s', b.is v → Φ b ρ' σ' → St C ρ' (σ' ++ τ) s' → R (.ok (.ret v)) s') → codeAny (model P w) C.A c R s
theorem WC.call {f : Value} {vs : List Value} {Φ : AV → Frame → Ledger → Prop} (h : WC P C ρ σ (.call f ⟨vs, []⟩) Φ) : WV P C ρ σ (call f vs) Φ :=
  fun τ s Q E S k => wpAny_call (h τ s _ S fun v b ρ' σ' s' hb hΦ S' => k v b ρ' σ' s' hb hΦ S')
theorem WC.sub {c : Code} {Φ : AV → Frame → Ledger → Prop} (h : WC P C ρ σ c fun b ρ' σ' => ∃ σ'', σ''.Sublist σ' ∧ Φ b ρ' σ'') : WC P C ρ σ c Φ :=
  fun τ s R S k => h τ s R S fun v b ρ' σ' s' hb ⟨σ'', hs, p⟩ S' => k v b ρ' σ'' s' hb p (S'.sub hs)
theorem code_fn {f : Addr} {name qual : Str} {params : Arguments} {body : List Stmt} {sc' : Scope} {cl : List (Str × Addr)} {dV kV doc pm cdv ct oc : Value} {an od : Option Addr} {osl : Array (Option Value)} {args : List AV} {vs : List Value} {names others : List Str} {Φ : AV → Frame → Ledger → Prop}
    (ho : K.lookup f = some ⟨oc, od, .func (fnX name qual params body sc' cl dV kV doc pm an cdv ct), osl⟩) (hd : 1 ≤ C.d)
    (hb : ∀ (h : Shared), K.In h.heap → ∃ bs, BindsTo h (fnX name qual params body sc' cl dV kV doc pm an cdv ct) ⟨vs, []⟩ bs ∧ BindIs names args bs)
    (hcd : codeIn K cdv qual = true) (nd : (names ++ others).Nodup) (hloc : ∀ y ∈ names, sc'.names.lookup y = some .local)
    (hcell : ∀ x ∈ sc'.names, x.2 ≠ .cell) (hco : sc'.isCoroutine = false) (hgen : sc'.isGenerator = false) (hk : sc'.kind = .function)
    (h : ∀ C' : Ctxt w K sc', C'.d + 1 = C.d → C'.env.cells = cl → WF P C' (argFrame names args others) σ (execs body C'.env) fun fl _ σ' => Φ fl.val ρ σ') :
    WC P C ρ σ (.call (.ref f) ⟨vs, []⟩) Φ := by
  intro τ s R S k
  obtain ⟨bs, hb1, hb2⟩ := hb s S.XH
  have hlen := hb2.len
  obtain ⟨m, F, hm⟩ := S.fr
  have nd' : ((argFrame names args others).map Prod.fst).Nodup := by
    have e : (argFrame names args others).map Prod.fst = names ++ others := by
      rw [List.map_append, List.map_map]
      congr 1
      · rw [List.map_fst_zip]; simp [hlen]
      · exact List.map_id' _
    rw [e]; exact nd
  refine codeAny_call_def (fd := fnX name qual params body sc' cl dV kV doc pm an cdv ct) (body := body) (binds := bs) (by have := C.room; omega) (S.XH _ _ ho) rfl (C.nolim.keeps F.keep) (codeRec_of S.XH hcd) rfl hb1 hcell (fun x hx => hloc _ (by rw [← hb2.keys]; exact List.mem_map_of_mem hx)) (fun h₁ hns hk₁ => ?_) hco hgen hk
  have S₁ := sub_start (hd := hd) (S := S) (sc' := sc') (env := callEnv (fnX name qual params body sc' cl dV kV doc pm an cdv ct) s.heap.objs.size f) (h1 := rfl) (h2 := hk) (h3 := rfl) (h4 := rfl) (h5 := rfl) (n := s.toks + bs.length) hns hk₁ (hb2.mOk others nd) nd'
  refine h _ (by show C.d - 1 + 1 = C.d; omega) rfl τ _ _ _ S₁ fun fl b ρ' σ' s' r p S' => ?_
  have S'' := sub_back S'
  cases b with
  | ret a => obtain ⟨v, rfl, ha⟩ := r; exact k v a ρ σ' s' ha p S''
  | next => cases r; exact k .none .none ρ σ' s' rfl p S''
  | brk => cases r; exact k .none .none ρ σ' s' rfl p S''
  | cont => cases r; exact k .none .none ρ σ' s' rfl p S''
/-! classes called -/
theorem weight_made (Cc : Addr) (rest : List Value) : (Code.builtin "type.__call__" ⟨.ref Cc :: rest, []⟩).weight = 1 := by kernel_rfl
noncomputable def made (C : Ctxt w K sc) (hd : 1 ≤ C.d) (Cc : Addr) (rest : List Value) : Ctxt w K sc :=
  { A := C.A.under (.builtin "type.__call__" ⟨.ref Cc :: rest, []⟩), h₀ := C.h₀, L := C.L, os := C.os, d := C.d - 1, env := C.env, hsc := C.hsc, hkind := C.hkind, hL := C.hL, hG := C.hG, hB := C.hB,
    hand := C.hand, X := C.X, mg := C.mg, mb := C.mb, G := C.G, Bi := C.Bi, nolim := C.nolim, bi := C.bi, bmod := C.bmod,
    room := (by have := C.room; show C.A.depth + (Code.builtin "type.__call__" ⟨.ref Cc :: rest, []⟩).weight + (C.d - 1) < _; rw [weight_made]; omega)
    units := (by have := C.units; show C.A.units + 1 + 60 * (C.d - 1) < _; omega) }
theorem made_St (C : Ctxt w K sc) {hd : 1 ≤ C.d} {Cc : Addr} {rest : List Value} : St (made C hd Cc rest) ρ σ s ↔ St C ρ σ s := ⟨fun S => ⟨S.fr, S.led, S.nd, S.kn, S.os, S.gens⟩, fun S => ⟨S.fr, S.led, S.nd, S.kn, S.os, S.gens⟩⟩
theorem call_cls {Cc fI : Addr} {vs : List Value} {Φ : AV → Frame → Ledger → Prop} (hd : 1 ≤ C.d) (hm : makesIn K Cc = true) (hi : findIn K (.ref Cc) "__init__" = some (some (.ref fI))) (hf : typeIn K (.ref fI) = some (.type "function"))
    (h : ∀ (C' : Ctxt w K sc) x d, C'.d + 1 = C.d → WC P C' ρ ((x, .inst Cc d) :: (d, .dict []) :: σ) (.call (.ref fI) ⟨.ref x :: vs, []⟩) fun a ρ' σ' => a = .none ∧ Φ (.ref x) ρ' σ') : WV P C ρ σ (call (.ref Cc) vs) Φ := by
  intro τ s Q E S k
  refine wpAny_call ?_
  obtain ⟨hh, g, dd, t, os⟩ := s
  have S1 : St C ρ ((hh.objs.size, .dict []) :: (σ ++ τ)) { heap := hh.push emptyDict, gens := g, drawn := dd, toks := t, os := os } := S.push (n := t) (ob := emptyDict) ⟨[], 0, rfl, .nil⟩ rfl
  have S2 : St C ρ (((hh.push emptyDict).objs.size, .inst Cc hh.objs.size) :: (hh.objs.size, .dict []) :: (σ ++ τ)) { heap := (hh.push emptyDict).push (instObj Cc hh.objs.size), gens := g, drawn := dd, toks := t, os := os } := S1.push (n := t) rfl rfl
  rw [Heap.size_push] at S2
  refine make_core (makes_of S.XH hm) (looks_findIn S.XH hi) (fun self => bind_fn S.XH self hf) (.inl rfl) ?_
  refine h (made C hd Cc vs) (hh.objs.size + 1) hh.objs.size (by show C.d - 1 + 1 = C.d; omega) τ _ _ ((made_St C).mpr S2) fun v b ρ' σ' s' hb hΦ S' => ?_
  obtain ⟨rfl, hΦ⟩ := hΦ
  cases hb
  exact ⟨rfl, k _ (.ref _) ρ' σ' s' rfl hΦ ((made_St C).mp S')⟩
end
end Mine
end
section -- B19
open PySem PySem.W PySem.Calls PyProof.Rows
set_option Elab.async false
set_option maxRecDepth 100000
set_option linter.unusedVariables false
namespace Mine
section
variable {P : Program} {w : World} {K : Frag} {sc : Scope} {C : Ctxt w K sc} {ρ ρ' : Frame} {σ σ' τ : Ledger} {s : Shared}
theorem spec_str {x : Str} {t : Tok} (ha : x.cps.all (· < 128) = true) : IterSpec P C (.str x t) (x.cps.toList.map fun c => AV.str ⟨#[c]⟩) (fun _ => True) (fun i o => o.cls = .type "str_ascii_iterator" ∧ o.data = .fields #[.str x t, .int i 0]) where
  start := fun ρ σ Φ hsrc h τ s Q E S k => wpAny_pyIter_ascii ha (k _ (.ref s.heap.objs.size) ρ _ _ rfl (h _) (S.push ⟨rfl, rfl⟩ rfl))
  next := fun ρ σ it i x' Φ hsrc hx h τ s Q E S k => by
    obtain ⟨o, hg, hc, hd⟩ := S.get (.head _)
    rw [List.getElem?_map, Option.map_eq_some_iff] at hx
    obtain ⟨c, hc', rfl⟩ := hx
    refine wpAny_pyNext_ascii_item (c := c) ⟨o, hg, hc, hd⟩ (by simpa using hc') fun h' hit' hs' => ?_
    obtain ⟨o', hg', hc2, hd2⟩ := hit'
    exact k _ (some (.str ⟨#[c]⟩)) ρ _ _ ⟨_, rfl, _, rfl⟩ h (S.put (n := s.toks + 1) .head hs' hg' ⟨hc2, hd2⟩)
  stop := fun ρ σ it i Φ hsrc hx h τ s Q E S k => by
    obtain ⟨o, hg, hc, hd⟩ := S.get (.head _)
    refine wpAny_pyNext_ascii_end C.hand ⟨o, hg, hc, hd⟩ ?_ fun h' he' => k none none ρ σ _ rfl h (St.but (n := s.toks) S he')
    rw [List.getElem?_map, Option.map_eq_none_iff] at hx
    simpa using hx
theorem All2.two {α β : Type} {R : α → β → Prop} {b c : α} {l : List β} (h : All2 R [b, c] l) : ∃ x y, l = [x, y] ∧ R b x ∧ R c y := by
  cases h with | cons h1 h => cases h with | cons h2 h => cases h; exact ⟨_, _, rfl, h1, h2⟩
/-! targets -/
theorem St.extBut (S : St C ρ σ s) {h' : Heap} {n : Nat} (he : Heap.ExtBut s.heap.objs.size s.heap h') : St C ρ σ { s with heap := h', toks := n } := by
  obtain ⟨m, F, hm⟩ := S.fr
  exact ⟨⟨m, F.extBut he (Nat.le_refl _), hm⟩, fun p hp => let ⟨⟨o, e, i⟩, r⟩ := S.led p hp; ⟨⟨o, he _ _ (Nat.ne_of_lt (Heap.lt_size e)) e, i⟩, r⟩, S.nd, S.kn, S.os, S.gens⟩
/-- x, y = value, the value a tuple that stands in the ledger -/
theorem x_unpack2 {x y : Str} {p q tp pos : Pos} {k : Nat} {value : Expr} {Φ : AFlow → Frame → Ledger → Prop}
    (h : WV P C ρ σ (eval value C.env) fun a ρ1 σ1 => ∃ t b c, a = .ref t ∧ (t, .tuple [b, c]) ∈ σ1 ∧ ∀ vb vc, b.is vb → c.is vc → WU P C ρ1 σ1 (storeName C.env x vb) fun ρ2 σ2 => WU P C ρ2 σ2 (storeName C.env y vc) fun ρ3 σ3 => Φ .next ρ3 σ3)
    (hs : swapsWithSole [.Tuple [.Name x p, .Name y q] k tp] value pos.line C.env = pure false := by rfl)
    (hw : swappedStores [.Tuple [.Name x p, .Name y q] k tp] value C.env = pure none := by rfl) : WF P C ρ σ (exec (.Assign [.Tuple [.Name x p, .Name y q] k tp] value pos) C.env) Φ := by
  intro τ s Q E S kk
  refine Assign_Tuple (h τ s _ E S fun v a ρ1 σ1 s1 r p1 S1 => ?_) hs hw
  obtain ⟨t, b, c, rfl, hm, hst⟩ := p1
  cases r
  obtain ⟨vs, ht, hA⟩ := S1.isTup hm
  cases hA with | cons hb hA => cases hA with | cons hc hA => cases hA; exact (by
    refine assign_Tuple_tuple C.hand ht rfl (by rfl) fun h' he => ?_
    have S2 := S1.extBut (n := s1.toks) he
    refine assignInOrder_cons (wpAny_assign_Name (hst _ _ hb hc τ _ _ _ S2 fun _ _ ρ2 σ2 s2 _ p2 S2 => ?_))
    refine assignInOrder_cons (wpAny_assign_Name (p2 τ _ _ _ S2 fun _ _ ρ3 σ3 s3 _ p3 S3 => ?_))
    exact assignInOrder_nil (kk _ .next ρ3 σ3 s3 rfl p3 S3))
/-- x, y = v1, v2: the second is stored first -/
theorem x_unpack2s {x y : Str} {p q tp vp pos : Pos} {k k2 : Nat} {v1 v2 : Expr} {Φ : AFlow → Frame → Ledger → Prop}
    (h : WV P C ρ σ (eval (.Tuple [v1, v2] k2 vp) C.env) fun a ρ1 σ1 => ∃ t b c, a = .ref t ∧ (t, .tuple [b, c]) ∈ σ1 ∧ ∀ vb vc, b.is vb → c.is vc → WU P C ρ1 σ1 (storeName C.env y vc) fun ρ2 σ2 => WU P C ρ2 σ2 (storeName C.env x vb) fun ρ3 σ3 => Φ .next ρ3 σ3)
    (hw : swappedStores [.Tuple [.Name x p, .Name y q] k tp] (.Tuple [v1, v2] k2 vp) C.env = pure (some [x, y])) : WF P C ρ σ (exec (.Assign [.Tuple [.Name x p, .Name y q] k tp] (.Tuple [v1, v2] k2 vp) pos) C.env) Φ := by
  intro τ s Q E S kk
  refine Assign_Tuple_swapped (h τ s _ E S fun v a ρ1 σ1 s1 r p1 S1 => ?_) rfl hw
  obtain ⟨t, b, c, rfl, hm, hst⟩ := p1
  cases r
  obtain ⟨vs, ht, hA⟩ := S1.isTup hm
  obtain ⟨vb, vc, rfl, hb, hc⟩ := hA.two
  have e : ([x, y] : List Str).length = (⟨[vb, vc]⟩ : Array Value).size := by simp
  rw [e]
  refine unpackItems_tuple C.hand ht fun h' he => ?_
  have S2 := S1.extBut (n := s1.toks) he
  show wpAny _ _ (assignInOrder [fun v => bindName C.env y v, fun v => bindName C.env x v] [vc, vb]) _ _ _
  refine assignInOrder_cons (bindName_ (hst _ _ hb hc τ _ _ _ S2 fun _ _ ρ2 σ2 s2 _ p2 S2 => ?_))
  refine assignInOrder_cons (bindName_ (p2 τ _ _ _ S2 fun _ _ ρ3 σ3 s3 _ p3 S3 => ?_))
  exact assignInOrder_nil (kk _ .next ρ3 σ3 s3 rfl p3 S3)
theorem swapped2 {x y : Str} {p q tp vp : Pos} {k k2 : Nat} {v1 v2 : Expr} (hx : sc.names.lookup x = some .local) (hy : sc.names.lookup y = some .local) (hl : (q.line == p.line) = true) (hxy : ([x, y].eraseDups.length == 2) = true)
    (h1 : ([v1, v2].any fun | .Starred .. => true | _ => false) = false) (h2 : [v1, v2].all (foldedForSure 8) = false) (h3 : [v1, v2].all (constantsAlone 8) = false) :
    swappedStores [.Tuple [.Name x p, .Name y q] k tp] (.Tuple [v1, v2] k2 vp) C.env = pure (some [x, y]) := by
  have hb : C.env.blockKind = .function := by unfold Env.blockKind; rw [C.kind]; rfl
  unfold swappedStores
  have e1 : C.env.kindOf x = some .local := C.kindOf hx
  have e2 : C.env.kindOf y = some .local := C.kindOf hy
  have hn : List.filterMap (fun x => match x with | Expr.Name id pos => if (C.env.kindOf id == some NameKind.local && pos.line == p.line) = true then some id else none | x => none) [Expr.Name x p, Expr.Name y q] = [x, y] := by
    have z1 : (C.env.kindOf x == some NameKind.local && p.line == p.line) = true := by rw [e1]; simp
    have z2 : (C.env.kindOf y == some NameKind.local && q.line == p.line) = true := by rw [e2, hl]; rfl
    simp only [List.filterMap_cons, List.filterMap_nil, z1, z2, if_true]
  show (if (!(true || false) || false || C.env.blockKind != ScopeKind.function) = true then pure none else
    if ([v1, v2].any fun | .Starred .. => true | _ => false) = true then pure none else
    if ((List.filterMap (fun x => match x with | Expr.Name id pos => if (C.env.kindOf id == some NameKind.local && pos.line == p.line) = true then some id else none | x => none) [Expr.Name x p, Expr.Name y q]).length != 2 || (List.filterMap (fun x => match x with | Expr.Name id pos => if (C.env.kindOf id == some NameKind.local && pos.line == p.line) = true then some id else none | x => none) [Expr.Name x p, Expr.Name y q]).eraseDups.length != (List.filterMap (fun x => match x with | Expr.Name id pos => if (C.env.kindOf id == some NameKind.local && pos.line == p.line) = true then some id else none | x => none) [Expr.Name x p, Expr.Name y q]).length) = true then pure none else
    if [v1, v2].all (foldedForSure 8) = true then pure none else
    if [v1, v2].all (constantsAlone 8) = true then (unsupported "assign.tuple-of-constant-expressions:order-of-the-stores" >>= fun _ => pure (some (List.filterMap (fun x => match x with | Expr.Name id pos => if (C.env.kindOf id == some NameKind.local && pos.line == p.line) = true then some id else none | x => none) [Expr.Name x p, Expr.Name y q]))) else pure (some (List.filterMap (fun x => match x with | Expr.Name id pos => if (C.env.kindOf id == some NameKind.local && pos.line == p.line) = true then some id else none | x => none) [Expr.Name x p, Expr.Name y q]))) = _
  rw [hn, hb, h1, h2, h3]
  have hxy' : ([x, y].eraseDups.length != [x, y].length) = false := by
    have := beq_iff_eq.mp hxy
    rw [this]; rfl
  rw [hxy']
  rfl
theorem x_asg3 {x y z : Str} {p q r pos : Pos} {value : Expr} {Φ : AFlow → Frame → Ledger → Prop}
    (h : WV P C ρ σ (eval value C.env) fun a ρ1 σ1 => ∀ v, a.is v → WU P C ρ1 σ1 (storeName C.env x v) fun ρ2 σ2 => WU P C ρ2 σ2 (storeName C.env y v) fun ρ3 σ3 => WU P C ρ3 σ3 (storeName C.env z v) fun ρ4 σ4 => Φ .next ρ4 σ4) : WF P C ρ σ (exec (.Assign [.Name x p, .Name y q, .Name z r] value pos) C.env) Φ :=
  fun τ s Q E S k => wpAny_Assign_three (h τ s _ E S fun v a ρ1 σ1 s1 r p1 S1 => wpAny_assign_Name (p1 v r τ s1 _ E S1 fun _ _ ρ2 σ2 s2 _ p2 S2 => wpAny_assign_Name (p2 τ s2 _ E S2 fun _ _ ρ3 σ3 s3 _ p3 S3 => wpAny_assign_Name (p3 τ s3 _ E S3 fun _ _ ρ4 σ4 s4 _ p4 S4 => k _ .next ρ4 σ4 s4 rfl p4 S4))))
/-! more of lists and numbers -/
theorem op_add_ll {l r : Addr} {xs ys : List AV} {Φ : AV → Frame → Ledger → Prop} (hl : (l, .list xs) ∈ σ) (hr : (r, .list ys) ∈ σ) (hz : xs.length + ys.length ≤ sizeLine) (h : ∀ a, Φ (.ref a) ρ ((a, .list (xs ++ ys)) :: σ)) : OpV P C ρ σ (binaryOp .Add) (.ref l) (.ref r) Φ := by
  rintro _ _ rfl rfl τ s Q E S k
  obtain ⟨vs, h1, h2⟩ := S.isList hl
  obtain ⟨us, h3, h4⟩ := S.isList hr
  obtain ⟨m, news, F, N, hlt, -, hback⟩ := S.via1
  refine add_lists F N (by simpa using h1) (by simpa using h3) (fun h' F' N' => k _ (.ref s.heap.objs.size) ρ _ _ rfl (h _) (hback _ _ _ _ F' N' hlt ⟨_, 0, rfl, h2.app h4⟩ rfl S.gens)) ?_
  have e1 := h2.length
  have e2 := h4.length
  omega
theorem call_max2 {x y : Int} {Φ : AV → Frame → Ledger → Prop} (h : Φ (.int (if y > x then y else x)) ρ σ) : Then P C (fun vs => call (.builtin "max") vs) Φ [.int x, .int y] ρ σ := by
  intro vs rs τ s Q E S k
  cases rs with | cons h1 h2 => cases h2 with | cons h3 h4 =>
    cases h4; obtain ⟨t, rfl⟩ := h1; obtain ⟨u, rfl⟩ := h3
    obtain ⟨m, news, F, N, hback⟩ := S.via
    exact max_two_N C.hand F N fun h' tk F' N' => k _ (.int (if y > x then y else x)) ρ σ _ ⟨_, rfl⟩ h (hback _ F' N' rfl S.gens)
end
end Mine
end
section -- B20
open PySem PySem.W PySem.Calls PyProof.Rows
set_option Elab.async false
set_option maxRecDepth 100000
set_option linter.unusedVariables false
namespace Mine
noncomputable def clsStr (K : Frag) (Cc : Addr) (mc : Value) (name x : Str) : Bool := (match findCls K (.ref Cc) mc name with | some (.val (.str y _)) => y == x | _ => false)
section
variable {P : Program} {w : World} {K : Frag} {sc : Scope} {C : Ctxt w K sc} {ρ ρ' : Frame} {σ σ' τ : Ledger} {s : Shared}
theorem ga_clsS {Cc : Addr} {name x : Str} {ex : Bool} {mc : Value} {Φ : AV → Frame → Ledger → Prop} (hm : typeIn K (.ref Cc) = some mc) (hr : readsIn K Cc mc = true) (e : clsStr K Cc mc name x = true) (h : Φ (.str x) ρ σ) :
    ∀ v, (AV.ref Cc).is v → WV P C ρ σ (getAttr v name ex) Φ := by
  unfold clsStr at e
  split at e
  · rename_i y t hy
    have : y = x := beq_iff_eq.mp e
    subst this
    exact ga_cls (av := .str y) hm hr hy rfl ⟨t, rfl⟩ h
  · cases e
end
end Mine
end
section -- B21
open PySem PySem.W PySem.Calls PyProof.Rows PySem.SeqAt
set_option Elab.async false
set_option maxRecDepth 100000
set_option linter.unusedVariables false
namespace Mine
mutual
inductive ADat (σ : Ledger) : AV → PyData → Prop
  | none : ADat σ .none .none
  | bool (b : Bool) : ADat σ (.bool b) (.bool b)
  | int (i : Int) : ADat σ (.int i) (.int i)
  | str (x : Str) : ADat σ (.str x) (.str x)
  | list {l : Addr} {xs : List AV} {ds : List PyData} : (l, .list xs) ∈ σ → ADats σ xs ds → ADat σ (.ref l) (.list ds)
  | tuple {l : Addr} {xs : List AV} {ds : List PyData} : (l, .tuple xs) ∈ σ → ADats σ xs ds → ADat σ (.ref l) (.tuple ds)
inductive ADats (σ : Ledger) : List AV → List PyData → Prop
  | nil : ADats σ [] []
  | cons {a d xs ds} : ADat σ a d → ADats σ xs ds → ADats σ (a :: xs) (d :: ds)
end
theorem ADats.ints {σ : Ledger} : ∀ ns : List Int, ADats σ (ns.map AV.int) (ns.map PyData.int)
  | [] => .nil
  | n :: r => .cons (.int n) (ADats.ints r)
theorem ADats.strs {σ : Ledger} : ∀ ns : List Str, ADats σ (ns.map AV.str) (ns.map PyData.str)
  | [] => .nil
  | n :: r => .cons (.str n) (ADats.strs r)
section
variable {P : Program} {w : World} {K : Frag} {sc : Scope} {C : Ctxt w K sc} {ρ ρ' : Frame} {σ σ' τ : Ledger} {s : Shared}
mutual
theorem ADat.reads (S : St C ρ (σ ++ τ) s) {a : AV} {d : PyData} {v : Value} (h : ADat σ a d) (hv : a.is v) : ∃ as, Reads s.heap v d as := by
  cases h with
  | none => cases hv; exact ⟨_, .none⟩
  | bool b => cases hv; exact ⟨_, .bool b⟩
  | int i => obtain ⟨t, rfl⟩ := hv; exact ⟨_, .int i t⟩
  | str x => obtain ⟨t, rfl⟩ := hv; exact ⟨_, .str x t⟩
  | list hm hs =>
    cases hv
    obtain ⟨ob, hg, vs, n, rfl, hA⟩ := S.get hm
    obtain ⟨as, hr⟩ := ADats.reads S hs hA
    exact ⟨_, .list hg rfl rfl hr⟩
  | tuple hm hs =>
    cases hv
    obtain ⟨ob, hg, vs, n, rfl, hA⟩ := S.get hm
    obtain ⟨as, hr⟩ := ADats.reads S hs hA
    exact ⟨_, .tuple hg rfl rfl hr⟩
theorem ADats.reads (S : St C ρ (σ ++ τ) s) {xs : List AV} {ds : List PyData} {vs : List Value} (h : ADats σ xs ds) (hv : All2 AV.is xs vs) : ∃ as, ReadsAll s.heap vs ds as := by
  cases h with
  | nil => cases hv; exact ⟨_, .nil⟩
  | cons h1 h2 =>
    cases hv with
    | cons g1 g2 =>
      obtain ⟨as, r1⟩ := ADat.reads S h1 g1
      obtain ⟨bs, r2⟩ := ADats.reads S h2 g2
      exact ⟨_, .cons r1 r2⟩
end
theorem cmp_eq_data {a b : AV} {da db : PyData} {r : Bool} {Φ : AV → Frame → Ledger → Prop} (hd : 2 ≤ C.d) (ha : ADat σ a da) (hb : ADat σ b db) (h1 : shaped da = true) (h2 : shaped db = true) (hm : noMix da db = true) (hr : PySem.Spec.same da db = r)
    (h : Φ (.bool r) ρ σ) : OpV P C ρ σ (compareOp .Eq) a b Φ := by
  intro va vb r1 r2 τ s Q E S k
  obtain ⟨as, ra⟩ := ha.reads S r1
  obtain ⟨bs, rb⟩ := hb.reads S r2
  exact eq_dataH_same ra rb h1 h2 (C.un hd) hm (by rw [hr]; exact k _ (.bool r) ρ σ _ rfl h S)
theorem cmp_ne_data {a b : AV} {da db : PyData} {r : Bool} {Φ : AV → Frame → Ledger → Prop} (hd : 2 ≤ C.d) (ha : ADat σ a da) (hb : ADat σ b db) (h1 : shaped da = true) (h2 : shaped db = true) (hm : noMix da db = true) (hr : PySem.Spec.same da db = r)
    (h : Φ (.bool (!r)) ρ σ) : OpV P C ρ σ (compareOp .NotEq) a b Φ := by
  intro va vb r1 r2 τ s Q E S k
  obtain ⟨as, ra⟩ := ha.reads S r1
  obtain ⟨bs, rb⟩ := hb.reads S r2
  exact ne_dataH_same ra rb h1 h2 (C.un hd) hm (by rw [hr]; exact k _ (.bool (!r)) ρ σ _ rfl h S)
theorem call_len_tuple {l : Addr} {xs : List AV} {Φ : AV → Frame → Ledger → Prop} (hm : (l, .tuple xs) ∈ σ) (hz : xs.length ≤ sizeLine) (h : Φ (.int xs.length) ρ σ) : Then P C (fun vs => call (.builtin "len") vs) Φ [.ref l] ρ σ := by
  intro vs rs τ s Q E S k
  cases rs with | cons h1 h2 => cases h2; cases h1; exact (by
    obtain ⟨us, hl, hA⟩ := S.isTup hm
    have := hA.length
    have := sizeLine_eq
    refine PyProof.Rows.len_tuple hl (by show (us.length : Int) < _; omega) (k _ (.int xs.length) ρ σ _ ⟨s.toks + 1, ?_⟩ h (S.toks _))
    rw [hA.length]; rfl)
end
end Mine
end
section -- B22
open PySem PySem.W PySem.Calls PyProof.Rows
set_option Elab.async false
set_option maxRecDepth 100000
set_option linter.unusedVariables false
namespace Mine
/-! built-in methods on an object of a list subclass -/
theorem check_li {M : Model} {A : Around} {E : Value → Shared → Prop} {s : Shared} {i owner n : String} {self : Value} {rest : List Value} {kw : List (Str × Value)} {Q : Unit → Shared → Prop}
    (hk : builtinKind i = some .slot ∨ builtinKind i = some .method) (hs : splitId i = some (owner, n)) (hi : Looks M s.heap (isInstance self (.type owner)) true) (ha : argsOk i ⟨self :: rest, kw⟩) (q : Q () s) :
    wpAny M A (checkBuiltinCall i ⟨self :: rest, kw⟩) Q E s := by
  rcases hk with hk | hk
  · exact check_slot hk hs hi ha q
  · simp only [checkBuiltinCall, hk, hs]
    refine wpAny_bind (hi.here ?_)
    simp only [Bool.not_true, Bool.false_eq_true, if_false]
    cases hsig : Manifest.signature? i with
    | none => exact wpAny_pure q
    | some sig =>
      simp only [argsOk, hsig] at ha
      have h2 : Bind.checkArgs i sig ⟨self :: rest, kw⟩ = pure () := ha
      show wpAny M A (Bind.checkArgs i sig ⟨self :: rest, kw⟩) Q E s
      rw [h2]; exact wpAny_pure q
section
variable {P : Program} {w : World} {K : Frag} {sc : Scope} {C : Ctxt w K sc} {ρ ρ' : Frame} {σ σ' τ : Ledger} {s : Shared} {A : Around} {E : Value → Shared → Prop}
theorem call_biI {id n : String} {b : Builtin} {x Cc : Addr} {ox : Obj} {od : Option Obj} {rest : List Value} {Q : Value → Shared → Prop} (hp : plainId id = true) (he : entryFor table id = some b) (hk : builtinKind id = some .slot ∨ builtinKind id = some .method)
    (hs : splitId id = some ("list", n)) (X : K.In s.heap) (I : InstAt s.heap x ox Cc od) (hm : mroIn K Cc (.type "list") = some true) (ha : argsOk id ⟨.ref x :: rest, []⟩)
    (h : wpAny (model P w) A.in1 (b ⟨.ref x :: rest, []⟩) (fun fin s' => ∃ v, fin = .done (.ret v) ∧ Q v s') E s) : wpAny (model P w) A (call (.builtin id) (.ref x :: rest)) Q E s := by
  refine wpAny_call (codeAny_call_builtin hp he (check_li hk hs (I.type.andThen (looks_mroIn X hm)) ha (wpAny_mono h (fun fin s' h' => ?_) fun _ _ h' => h')))
  obtain ⟨v, rfl, hv⟩ := h'; exact hv
theorem special_bi {id : String} {name : Str} {x Cc : Addr} {ox : Obj} {od : Option Obj} {args : List Value} {Q : Option Value → Shared → Prop} (X : K.In s.heap) (I : InstAt s.heap x ox Cc od)
    (hs : findIn K (.ref Cc) name = some (some (.builtin id))) (hb : bindSpecial (.builtin id) (.ref x) = pure (.builtin id, [.ref x])) (h : wpAny (model P w) A (call (.builtin id) (.ref x :: args)) (fun v => Q (some v)) E s) :
    wpAny (model P w) A (callSpecial? (.ref x) name args) Q E s :=
  wpAny_bind (wpAny_bind (I.type.here ((looks_findIn X hs).here (wpAny_holding (wpAny_bind (wpAny_of_eq hb (wpAny_bind (wpAny_mono h (fun _ _ z => wpAny_pure z) fun _ _ z => z))))))))
/-- an object of the list subclass in the ledger -/
theorem St.acc (S : St C ρ (σ ++ τ) s) {x Cc d : Addr} {xs : List AV} {es : List (Str × AV)} (hx : (x, .acc Cc d xs) ∈ σ) (hd : (d, .dict es) ∈ σ) :
    ∃ vs n ds m, InstAt s.heap x { cls := .ref Cc, dict := some d, data := .seq ⟨vs⟩ n } Cc (some (dictOf ds m)) ∧ All2 AV.is xs vs ∧ All2 (entryIs w.params) es ds := by
  obtain ⟨od, hgd, ds, m, rfl, hA⟩ := S.get hd
  obtain ⟨ox, hgx, vs, n, rfl, hB⟩ := S.get hx
  exact ⟨vs, n, ds, m, ⟨hgx, rfl, rfl, hgd⟩, hB, hA⟩
theorem acc_append {x Cc d : Addr} {xs : List AV} {es : List (Str × AV)} {a : AV} {Φ : AV → Frame → Ledger → Prop} (hm : mroIn K Cc (.type "list") = some true) (hd : (d, .dict es) ∈ σ) (U : PutL x (.acc Cc d xs) (.acc Cc d (xs ++ [a])) σ σ') (hz : xs.length ≤ sizeLine) (h : Φ .none ρ σ') :
    Then P C (fun vs => call (.builtin "list.append") ([.ref x] ++ vs)) Φ [a] ρ σ := by
  intro vs rs τ s Q E S k
  cases rs with | cons h1 h2 => cases h2; exact (by
    rename_i v
    obtain ⟨us, n, ds, m, I, hA, -⟩ := S.acc U.mem hd
    refine call_biI (n := "append") (by decide +kernel) entry_list_append (.inr (by decide +kernel)) (by decide +kernel) S.XH I hm (args_list_append _ _) ?_
    show wpAny _ _ (updateSeq x (·.push v) >>= fun _ => ret .none) _ _ s
    refine wpAny_bind (wpAny_updateSeq I.at_ rfl (wpAny_pure ⟨.none, rfl, ?_⟩) (by show us.length ≤ _; rw [← hA.length]; exact hz) (by show (us.toArray.push v).size ≤ _; simp; rw [← hA.length]; exact hz))
    refine k .none .none ρ σ' _ rfl h (S.put (n := s.toks) (U.app τ) (Heap.SameBut.update ..) ((Heap.get?_update_self _ I.at_ rfl).trans rfl) ⟨us ++ [v], n + 1, ?_, hA.app (.cons h1 .nil)⟩)
    simp [Obj.mapSeq])
end
end Mine
end
section -- B23
open PySem PySem.W PySem.Calls PyProof.Rows Builtin
set_option Elab.async false
set_option maxRecDepth 100000
set_option linter.unusedVariables false
namespace Mine
section
variable {P : Program} {w : World} {K : Frag} {sc : Scope} {C : Ctxt w K sc} {ρ ρ' : Frame} {σ σ' τ : Ledger} {s : Shared} {A : Around} {E : Value → Shared → Prop}
/-- within a built-in -/
noncomputable def inB (C : Ctxt w K sc) (hd : 1 ≤ C.d) : Ctxt w K sc :=
  { A := C.A.in1, h₀ := C.h₀, L := C.L, os := C.os, d := C.d - 1, env := C.env, hsc := C.hsc, hkind := C.hkind, hL := C.hL, hG := C.hG, hB := C.hB,
    hand := C.hand, X := C.X, mg := C.mg, mb := C.mb, G := C.G, Bi := C.Bi, nolim := C.nolim, bi := C.bi, bmod := C.bmod,
    room := (by have := C.room; show C.A.depth + (C.d - 1) < _; omega)
    units := (by have := C.units; show C.A.units + 1 + 60 * (C.d - 1) < _; omega) }
theorem inB_St (C : Ctxt w K sc) {hd : 1 ≤ C.d} : St (inB C hd) ρ σ s ↔ St C ρ σ s := ⟨fun S => ⟨S.fr, S.led, S.nd, S.kn, S.os, S.gens⟩, fun S => ⟨S.fr, S.led, S.nd, S.kn, S.os, S.gens⟩⟩
noncomputable def fnOk (K : Frag) (Cc : Addr) (name : Str) (f : Addr) : Bool := findIn K (.ref Cc) name == some (some (.ref f)) && isFn K (.ref f)
theorem call_len_own {x Cc d f : Addr} {es : List (Str × AV)} {Φ : AV → Frame → Ledger → Prop} (hd1 : 1 ≤ C.d) (hx : ObjAt σ x Cc d) (hd : (d, .dict es) ∈ σ) (hk : fnOk K Cc "__len__" f = true)
    (h : ∀ C' : Ctxt w K sc, C'.d + 1 = C.d → WV P C' ρ σ (call (.ref f) [.ref x]) fun a ρ' σ' => ∃ n, a = .int n ∧ 0 ≤ n ∧ n < 2 ^ 63 ∧ Φ (.int n) ρ' σ') : Then P C (fun vs => call (.builtin "len") vs) Φ [.ref x] ρ σ := by
  intro vs rs τ s Q E S k
  cases rs with | cons h1 h2 => cases h2; cases h1; exact (by
    obtain ⟨ds, n, ox, I, -, hA, -⟩ := S.inst hx hd
    obtain ⟨m, F, -⟩ := S.fr
    unfold fnOk at hk
    simp only [Bool.and_eq_true, beq_iff_eq] at hk
    refine len_K F C.X I hk.1 hk.2 ?_
    refine h (inB C hd1) (by show C.d - 1 + 1 = C.d; omega) τ s _ _ ((inB_St C).mpr S) fun v a ρ1 σ1 s1 r p S1 => ?_
    obtain ⟨n, rfl, h0, h1, hΦ⟩ := p
    obtain ⟨t, rfl⟩ := r
    exact ⟨⟨h0, h1⟩, k _ (.int n) ρ1 σ1 _ ⟨_, rfl⟩ hΦ (((inB_St C).mp S1).toks _)⟩)
theorem call_str_own {x Cc d f : Addr} {es : List (Str × AV)} {Φ : AV → Frame → Ledger → Prop} (hd1 : 2 ≤ C.d) (hx : ObjAt σ x Cc d) (hd : (d, .dict es) ∈ σ) (hk : fnOk K Cc "__str__" f = true)
    (h : ∀ C' : Ctxt w K sc, C'.d + 2 = C.d → WV P C' ρ σ (call (.ref f) [.ref x]) fun a ρ' σ' => ∃ y, a = .str y ∧ Φ (.str y) ρ' σ') : Then P C (fun vs => call (.type "str") vs) Φ [.ref x] ρ σ := by
  intro vs rs τ s Q E S k
  cases rs with | cons h1 h2 => cases h2; cases h1; exact (by
    obtain ⟨ds, n, ox, I, -, hA, -⟩ := S.inst hx hd
    unfold fnOk at hk
    simp only [Bool.and_eq_true, beq_iff_eq] at hk
    refine kso_call (by have := C.units; show C.A.units + 1 + 1 < _; omega) S.XH I hk.1 (by simpa using hk.2) ?_
    refine h (inB (inB C (by omega)) (by show 1 ≤ C.d - 1; omega)) (by show C.d - 1 - 1 + 2 = C.d; omega) τ s _ _ ((inB_St _).mpr ((inB_St C).mpr S)) fun v a ρ1 σ1 s1 r p S1 => ?_
    obtain ⟨y, rfl, hΦ⟩ := p
    obtain ⟨t, rfl⟩ := r
    exact k _ (.str y) ρ1 σ1 _ ⟨_, rfl⟩ hΦ ((inB_St C).mp ((inB_St _).mp S1)))
theorem tr_own {x Cc d f : Addr} {es : List (Str × AV)} {Φ : Bool → Frame → Ledger → Prop} (hd1 : 1 ≤ C.d) (hx : ObjAt σ x Cc d) (hd : (d, .dict es) ∈ σ) (hk : fnOk K Cc "__len__" f = true) (hb : findIn K (.ref Cc) "__bool__" = some none)
    (h : ∀ C' : Ctxt w K sc, C'.d + 1 = C.d → WV P C' ρ σ (call (.ref f) [.ref x]) fun a ρ' σ' => ∃ n, a = .int n ∧ 0 ≤ n ∧ n < 2 ^ 63 ∧ Φ (n != 0) ρ' σ') : TruthA P C Φ (.ref x) ρ σ := by
  rintro _ rfl τ s Q E S k
  obtain ⟨ds, n, ox, I, -, hA, -⟩ := S.inst hx hd
  unfold fnOk at hk
  simp only [Bool.and_eq_true, beq_iff_eq] at hk
  unfold truthy
  refine wpAny_bind (m := callSpecial? (.ref x) (Str.ofString "__bool__")) (wpAny_bind (wpAny_bind (I.type.here ((looks_findIn S.XH hb).here (wpAny_pure ?_)))))
  refine wpAny_bind (wpAny_bind (I.type.here ((looks_findIn S.XH hk.1).here ?_)))
  refine wpAny_bind (m := runValue _) (wpAny_runValue (codeAny_builtin entry_len ?_))
  rw [Around.under_plainId plain_len _]
  unfold Builtin.«len»
  refine wpAny_bind (m := oneArg "len" _) (wpAny_pure ?_)
  refine wpAny_bind (m := callSpecial? (.ref x) (Str.ofString "__len__")) (special_fn S.XH I hk.1 (beq_iff_eq.mp hk.2) ?_)
  refine h (inB C hd1) (by show C.d - 1 + 1 = C.d; omega) τ s _ _ ((inB_St C).mpr S) fun v a ρ1 σ1 s1 r p S1 => ?_
  obtain ⟨n, rfl, h0, h1, hΦ⟩ := p
  obtain ⟨t, rfl⟩ := r
  refine wpAny_bind (wpAny_holding (wpAny_pure ?_))
  refine wpAny_bind (wpAny_letGo ?_)
  show wpAny _ _ (if n < 0 then _ else _) _ _ _
  rw [if_neg (by omega)]
  show wpAny _ _ (if n ≥ 2 ^ 63 then _ else _) _ _ _
  rw [if_neg (by omega)]
  exact wpAny_bind (wpAny_mkInt (wpAny_pure (wpAny_pure (k _ _ ρ1 σ1 _ rfl hΦ (((inB_St C).mp S1).toks _)))))
end
end Mine
end
section -- B24
open PySem PySem.W PySem.Calls PyProof.Rows
set_option Elab.async false
set_option maxRecDepth 100000
set_option linter.unusedVariables false
namespace Mine
/-- the class gives list's items -/
noncomputable def itemOk (K : Frag) (Cc : Addr) (name id : String) : Bool := findIn K (.ref Cc) (Str.ofString name) == some (some (.builtin id)) && (seqItemTypes.all fun n => subIn K (.ref Cc) (.type n) == some false) && mroIn K Cc (.type "list") == some true
section
variable {P : Program} {w : World} {K : Frag} {sc : Scope} {C : Ctxt w K sc} {ρ ρ' : Frame} {σ σ' τ : Ledger} {s : Shared} {A : Around} {E : Value → Shared → Prop}
theorem key_acc {x Cc : Addr} {ox : Obj} {od : Option Obj} {k : Value} {name : Str} {Q : Value → Shared → Prop} (X : K.In s.heap) (I : InstAt s.heap x ox Cc od) (hq : (seqItemTypes.all fun n => subIn K (.ref Cc) (.type n) == some false) = true) (h : Q k s) :
    wpAny (model P w) A (sequenceKey (.ref x) k name) Q E s := by
  unfold sequenceKey
  refine wpAny_bind (I.type.here ?_)
  refine wpAny_bind ((anyM_none X hq).here ?_)
  rw [if_pos (show (!false) = true from rfl)]
  exact wpAny_pure h
theorem getItem_acc {x Cc : Addr} {ox : Obj} {od : Option Obj} {vs : List Value} {n : Nat} {k : Int} {t : Tok} {v : Value} {Q : Value → Shared → Prop} (X : K.In s.heap) (I : InstAt s.heap x ox Cc od) (hox : ox.data = .seq ⟨vs⟩ n) (hk : itemOk K Cc "__getitem__" "list.__getitem__" = true)
    (h0 : 0 ≤ k) (hfit : k < 2 ^ 63) (hx : vs[k.toNat]? = some v) (h : Q v s) : wpAny (model P w) A (getItem (.ref x) (.int k t)) Q E s := by
  unfold itemOk at hk
  simp only [Bool.and_eq_true, beq_iff_eq] at hk
  obtain ⟨⟨hk1, hk2⟩, hk3⟩ := hk
  unfold getItem
  refine wpAny_holding (wpAny_bind (key_acc X I hk2 ?_))
  refine wpAny_bind (m := callSpecial? (.ref x) (Str.ofString "__getitem__") _) (special_bi X I hk1 (slot_list_getitem.bind _) ?_)
  refine call_biI (n := "__getitem__") slot_list_getitem.plain entry_list_getitem (by first | exact .inl (by decide +kernel) | exact .inr (by decide +kernel)) (by decide +kernel) X I hk3 (args_list_getitem _ _) ?_
  show wpAny _ _ (Builtin.List.listSubscript? (.int k t) >>= _) _ _ s
  refine wpAny_bind (wpAny_listSubscript_int (fitsIndex_of h0 hfit) ?_)
  clear hfit
  obtain ⟨j, rfl⟩ := Int.eq_ofNat_of_zero_le h0
  have hx' : (⟨vs⟩ : Array Value)[j]? = some v := by simpa using hx
  show wpAny _ _ ((seqItemAt x j >>= fun r => pure (r.map (j, ·))) >>= _) _ _ s
  refine wpAny_bind (wpAny_bind (wpAny_seqItemAt I.at_ hox (wpAny_pure ?_)))
  rw [hx']
  first
    | exact wpAny_bind (wpAny_pure (wpAny_pure ⟨v, rfl, wpAny_pure h⟩))
    | exact wpAny_pure ⟨v, rfl, wpAny_pure h⟩
theorem sub_acc {e sl : Expr} {x Cc d : Addr} {es : List (Str × AV)} {xs : List AV} {k : Int} {a : AV} {Φ : AV → Frame → Ledger → Prop} (hm : (x, .acc Cc d xs) ∈ σ) (hd : (d, .dict es) ∈ σ) (hk : itemOk K Cc "__getitem__" "list.__getitem__" = true) (h0 : 0 ≤ k) (h1 : k < 2 ^ 63) (hx : xs[k.toNat]? = some a) (h : Φ a ρ σ)
    (hs : ∀ u, subscripted sl false (.ref x) (.int k u) = operate [.ref x, .int k u] (getItem (.ref x) (.int k u)) := by intro u; with_unfolding_all rfl) :
    OpV P C ρ σ (subscriptTail e sl) (.ref x) (.int k) Φ := by
  rintro _ _ rfl ⟨u, rfl⟩ τ s Q E S kk
  obtain ⟨vs, n, ds, m, I, hA, -⟩ := S.acc hm hd
  obtain ⟨v, hv, ha⟩ := hA.get hx
  have hk' := hk
  unfold itemOk at hk'
  simp only [Bool.and_eq_true, beq_iff_eq] at hk'
  unfold subscriptTail
  refine wpAny_bind ?_
  rw [getitemInPython_of_ne (by intro q; cases q)]
  refine wpAny_bind (wpAny_bind (I.type.here ((looks_findIn S.XH hk'.1.1).here ?_)))
  have fin : wpAny (model P w) C.A (subscripted sl false (.ref x) (.int k u)) (fun r s₃ => wpAny (model P w) C.A (letTemporaryGo e (.ref x) r >>= fun _ => pure r) Q E s₃) E s := by
    rw [hs]
    exact wpAny_operating (wpAny_mono (getItem_acc S.XH I rfl hk h0 h1 hv (kk v a ρ σ s ha h S)) (fun r s₃ h₃ => wpAny_bind (wpAny_letTemporaryGo (wpAny_pure h₃))) fun _ _ x => x)
  first
    | exact wpAny_pure (wpAny_bind fin)
    | exact wpAny_bind (wpAny_pure (wpAny_bind fin))
    | exact wpAny_bind fin
end
end Mine
end
section -- B25
open PySem PySem.W PySem.Calls PyProof.Rows
set_option Elab.async false
set_option maxRecDepth 100000
set_option linter.unusedVariables false
namespace Mine
/-- an object with a sequence of items, of any class -/
noncomputable def IsSeq (h : Heap) (l : Addr) (items : Array Value) : Prop := ∃ o, h.get? l = some o ∧ ∃ n, o.data = .seq items n
theorem IsSeq.at {h h' : Heap} {l : Addr} {items : Array Value} (x : IsSeq h l items) (k : ∀ o, h.get? l = some o → h'.get? l = some o) : IsSeq h' l items := let ⟨o, e, r⟩ := x; ⟨o, k o e, r⟩
section
variable {P : Program} {w : World} {A : Around} {E : Value → Shared → Prop} {s : Shared}
theorem next_seq_item {it l : Addr} {i : Nat} {items} {x : Value} {Q : Option Value → Shared → Prop} (hit : s.heap.IsListIter it l i)
    (hl : IsSeq s.heap l items) (hx : items[i]? = some x)
    (hQ : ∀ h', h'.IsListIter it l (i + 1) → Heap.SameBut it s.heap h' → Q (some x) { s with heap := h' }) :
    wpAny (model P w) A (pyNext (.ref it)) Q E s := by
  obtain ⟨o, ho, hc, hd⟩ := id hit
  obtain ⟨ol, hol, nl, hdl⟩ := hl
  unfold pyNext
  refine wpAny_bind (wpAny_attempt (wpAny_callSpecial?_slot (name := Str.ofString "__next__") hit.typeIs slot_listiter_next
    (wpAny_call_entry slot_listiter_next hit.typeIs entry_listiter_next ?_ (args_listiter_next _))))
  show wpAny _ _ (field (.ref it) 0 >>= _) _ _ s
  refine wpAny_bind (wpAny_field ho hd (x := .ref l) rfl ?_)
  show wpAny _ _ (if (Value.ref l == Value.none) = true then _ else _) _ _ s
  rw [if_neg (show ¬ ((Value.ref l == Value.none) = true) from Bool.false_ne_true)]
  show wpAny _ _ (field (.ref it) 1 >>= _) _ _ s
  refine wpAny_bind (wpAny_field ho hd (x := .int i 0) rfl ?_)
  show wpAny _ _ (seqItems? (.ref l) >>= _) _ _ s
  refine wpAny_bind (wpAny_seqItems hol hdl ?_)
  simp only [Int.toNat_natCast, hx]
  refine wpAny_bind (wpAny_setField ho hd (by simp) (wpAny_pure ⟨x, rfl, wpAny_pure (hQ _ ?_ (Heap.SameBut.update ..))⟩))
  exact ⟨_, Heap.get?_update_self _ ho (Obj.isFreed_of_fields (Obj.data_mapFields hd _)), (Obj.cls_mapFields ..).trans hc, by
    rw [Obj.data_mapFields hd]; simp [rawInt]⟩

theorem next_seq_end {it l : Addr} {i : Nat} {items} {Q : Option Value → Shared → Prop} (hh : A.handled = none)
    (hit : s.heap.IsListIter it l i) (hl : IsSeq s.heap l items) (hx : items[i]? = none)
    (hQ : ∀ h', Heap.ExtBut it s.heap h' → Q none { s with heap := h' }) : wpAny (model P w) A (pyNext (.ref it)) Q E s := by
  obtain ⟨o, ho, hc, hd⟩ := id hit
  obtain ⟨ol, hol, nl, hdl⟩ := hl
  unfold pyNext
  refine wpAny_bind (wpAny_attempt (wpAny_callSpecial?_slot (name := Str.ofString "__next__") hit.typeIs slot_listiter_next
    (wpAny_call_entry slot_listiter_next hit.typeIs entry_listiter_next ?_ (args_listiter_next _))))
  show wpAny _ _ (field (.ref it) 0 >>= _) _ _ s
  refine wpAny_bind (wpAny_field ho hd (x := .ref l) rfl ?_)
  show wpAny _ _ (if (Value.ref l == Value.none) = true then _ else _) _ _ s
  rw [if_neg (show ¬ ((Value.ref l == Value.none) = true) from Bool.false_ne_true)]
  show wpAny _ _ (field (.ref it) 1 >>= _) _ _ s
  refine wpAny_bind (wpAny_field ho hd (x := .int i 0) rfl ?_)
  show wpAny _ _ (seqItems? (.ref l) >>= _) _ _ s
  refine wpAny_bind (wpAny_seqItems hol hdl ?_)
  simp only [Int.toNat_natCast, hx]
  refine wpAny_bind (wpAny_rule (wpAny_bind (wpAny_setField ho hd (by simp) ?_)))
  show wpAny _ _ (newExc (.type "StopIteration") [] >>= _) _ _ _
  refine wpAny_bind ?_
  simp only [newExc, newTuple]
  refine wpAny_bind (wpAny_newObj_type ?_ (by size_fits))
  refine wpAny_bind (m := firstArgMember _ _) (wpAny_of_eq (a := Value.none) (by first | rfl | (simp only [firstArgMember]; rfl)) ?_)
  refine wpAny_newObj_type ?_ (by size_fits)
  simp only [raiseNew]
  refine wpAny_bind (wpAny_handled ?_)
  rw [show A.in1.handled = none from hh]
  refine wpAny_bind (wpAny_pure (wpAny_throw ?_))
  refine wpAny_bind (wpAny_isInstance (T := "StopIteration") (b := true) ⟨_, Heap.get?_push_size _ rfl, rfl⟩ isSubtype_stop ?_)
  exact wpAny_pure (hQ _ (((Heap.SameBut.update ..).extBut.push _).push _))

end
theorem seq_walksU {P : Program} {w : World} {A : Around} (hh : A.handled = none) (I ax : Addr) (hne : ax ≠ I) (items : Array Value) (Ts : Nat → Addr) (vals : Nat → Array Value)
    (hit : ∀ j, j < items.size → items[j]? = some (.ref (Ts j))) (hTI : ∀ j, j < items.size → Ts j ≠ I) :
    WalksU P w A I (I :: ax :: (List.range items.size).map Ts) [I] items.size (fun j v => v = vals j)
      (fun j h => h.IsListIter I ax j ∧ IsSeq h ax items ∧ ∀ k, k < items.size → h.IsTuple (Ts k) (vals k))
      (fun j T h => (j < items.size ∧ T = Ts j) ∧ h.IsListIter I ax (j + 1) ∧ IsSeq h ax items ∧ ∀ k, k < items.size → h.IsTuple (Ts k) (vals k)) where
  sub := fun b hb => by simp at hb; simp [hb]
  frame := fun _ _ _ st hk => ⟨st.1.at fun o e => hk I (by simp) o e, st.2.1.at fun o e => hk ax (by simp) o e,
    fun k hk' => (st.2.2 k hk').at fun o e => hk (Ts k) (List.mem_cons_of_mem _ (List.mem_cons_of_mem _ (List.mem_map.mpr ⟨k, List.mem_range.mpr hk', rfl⟩))) o e⟩
  item := fun i s Q E hi st hQ => by
    refine next_seq_item st.1 st.2.1 (x := .ref (Ts i)) (hit i hi) fun h' hit' hs' => ?_
    have tup : ∀ k, k < items.size → h'.IsTuple (Ts k) (vals k) := fun k hk' => (st.2.2 k hk').extBut hs'.extBut (hTI k hk')
    exact hQ (Ts i) (vals i) h' s.toks rfl (tup i hi) ⟨⟨hi, rfl⟩, hit', st.2.1.at (fun o e => hs'.extBut _ o hne e), tup⟩ fun b o hb e => hs'.extBut b o (fun h => hb (by simp [h])) e
  go := fun _ _ _ _ _ s Q _ hm hQ => wpAny_letOwnedTupleGo_listiter hm.2.1 (hQ s.heap hm.2 fun _ _ _ e => e)
  apart := fun j T _ hm hmem => by
    rcases List.mem_cons.mp hmem with e | e
    · exact hTI j hm.1.1 (hm.1.2 ▸ e)
    · cases e
  done := fun s Q E st hQ => next_seq_end hh st.1 st.2.1 (by simp) fun h' he' => hQ h' s.toks fun b o hb e => he' b o (fun h => hb (by simp [h])) e
  self := fun _ _ _ _ st hQ => wpAny_pyIter_listiter st.1 hQ
section
variable {P : Program} {w : World} {K : Frag} {A : Around} {E : Value → Shared → Prop} {s : Shared}
theorem unlessNone_bi {id : String} {name : Str} {x Cc : Addr} {ox : Obj} {od : Option Obj} {refuse : Sem Value} {Q : Option Value → Shared → Prop} (X : K.In s.heap) (I : InstAt s.heap x ox Cc od) (hk : findIn K (.ref Cc) name = some (some (.builtin id)))
    (hb : bindSpecial (.builtin id) (.ref x) = pure (.builtin id, [.ref x])) (hc : wpAny (model P w) A (call (.builtin id) [.ref x]) (fun v => Q (some v)) E s) : wpAny (model P w) A (callSpecialIfBoundUnlessNone? (.ref x) name refuse) Q E s := by
  simp only [callSpecialIfBoundUnlessNone?, bindSpecialIfBound?]
  refine wpAny_holding (wpAny_bind (wpAny_bind (wpAny_bind (I.type.here ((looks_findIn X hk).here ?_)))))
  simp only [hb]
  refine wpAny_bind (wpAny_askSetting (wpAny_ite ?_))
  have fin : wpAny (model P w) A (if (Value.builtin id == Value.none) = true then (refuse >>= fun v => pure (some v)) else (call (.builtin id) [.ref x] >>= fun v => pure (some v))) Q E s := by
    simp only [builtin_beq_none, Bool.false_eq_true, if_false]
    exact wpAny_bind (wpAny_mono hc (fun v s' h' => wpAny_pure h') fun _ _ h' => h')
  split
  · exact wpAny_bind (wpAny_pure (wpAny_pure fin))
  · exact wpAny_tryCatch (wpAny_bind (wpAny_pure (wpAny_pure fin)))
theorem iter_acc {x Cc : Addr} {ox : Obj} {od : Option Obj} {Q : Value → Shared → Prop} (X : K.In s.heap) (I : InstAt s.heap x ox Cc od) (hk : findIn K (.ref Cc) "__iter__" = some (some (.builtin "list.__iter__"))) (hm : mroIn K Cc (.type "list") = some true)
    (hQ : Q (.ref s.heap.objs.size) { s with heap := s.heap.push { cls := .type "list_iterator", data := .fields #[.ref x, .int 0 0] } }) : wpAny (model P w) A (pyIter (.ref x)) Q E s := by
  have hc : wpAny (model P w) A (call (.builtin "list.__iter__") [.ref x]) (fun it s' => ∃ T' r, s'.TypeIs it T' ∧ typeLookup (.type T') "__next__" = pure (some r) ∧ Q it s') E s := by
    refine call_biI (n := "__iter__") slot_list_iter.plain entry_list_iter (by first | exact .inl (by decide +kernel) | exact .inr (by decide +kernel)) (by decide +kernel) X I hm (args_list_iter _) ?_
    show wpAny _ _ (do ret (← newFields "list_iterator" [.ref x, rawInt 0])) _ _ s
    exact wpAny_bind (wpAny_newObj_type (wpAny_pure ⟨_, rfl, "list_iterator", _, ⟨_, Heap.get?_push_size _ rfl, rfl⟩, slot_listiter_next.lookup, hQ⟩))
  unfold pyIter
  refine wpAny_bind (wpAny_bind (I.type.here ((looks_findIn X hk).here ?_)))
  show wpAny _ A (callSpecialIfBoundUnlessNone? (.ref x) "__iter__" _ >>= _) Q E s
  refine wpAny_bind (unlessNone_bi X I hk (slot_list_iter.bind _) (wpAny_mono hc (fun it s' h' => ?_) fun _ _ x => x))
  obtain ⟨T', r, hT', hl, hQ⟩ := h'
  exact wpAny_bind (wpAny_specialOf hT' hl (wpAny_pure hQ))
end
end Mine
end
section -- B26
open PySem PySem.W PySem.Calls PyProof.Rows
set_option Elab.async false
set_option maxRecDepth 100000
set_option linter.unusedVariables false
namespace Mine
/-- the code object c of the top, whose table of inner codes is P -/
noncomputable def codeTab (K : Frag) (c P : Addr) : Bool := match K.lookup c with
  | some ⟨cls, _, .fields vs, _⟩ => cls == .type "code" && vs.getD 11 .none == .ref P && vs[11]? == some (.ref P) && (match vs.getD 18 .none with | .str _ _ => true | _ => false) && (match vs.getD 7 .none with | .int _ _ => true | _ => false) &&
      (match vs.getD 9 .none with | .bool _ => true | _ => false) && (match vs.getD 10 .none with | .int _ _ => true | _ => false)
  | _ => false
section
variable {P : Program} {w : World} {K : Frag} {sc : Scope} {C : Ctxt w K sc} {ρ ρ' : Frame} {σ σ' τ : Ledger} {s : Shared} {A : Around} {E : Value → Shared → Prop}
theorem St.tab (S : St C ρ σ s) {T : Addr} {ps : Array Value} {h' : Heap} {n : Nat} (hm : (T, .table) ∈ σ) (he : Heap.ExtBut T s.heap h') (hg : h'.get? T = some (AObj.is.tableObj' ps)) (ht : TriplesOk ps.toList) : St C ρ σ { s with heap := h', toks := n } := by
  obtain ⟨m, F, hmo⟩ := S.fr
  have z := S.led _ hm
  refine ⟨⟨m, ⟨F.ns.extBut he (Ne.symm z.2.1), fun b o e => he b o (fun q => ?_) (F.keep b o e), F.above⟩, hmo⟩, fun p hp => ?_, S.nd, S.kn, S.os, S.gens⟩
  · have := z.2.2; rw [← q, e] at this; cases this
  · obtain ⟨⟨o, e, i⟩, r⟩ := S.led p hp
    by_cases q : p.1 = T
    · have hp2 : p = (T, AObj.table) := by
        have nd := S.nd
        obtain ⟨p1, p2⟩ := p
        cases q
        by_cases q2 : p2 = .table
        · rw [q2]
        · exfalso
          obtain ⟨i, hi, ei⟩ := List.mem_iff_getElem.mp hp
          obtain ⟨j, hj, ej⟩ := List.mem_iff_getElem.mp hm
          have h1 : (σ.map Prod.fst)[i]'(by simpa using hi) = (σ.map Prod.fst)[j]'(by simpa using hj) := by simp [ei, ej]
          have := (List.getElem_inj nd).mp h1
          subst this
          rw [ei] at ej
          exact q2 (by cases ej; rfl)
      subst hp2
      exact ⟨⟨_, hg, ps, rfl, ht⟩, r⟩
    · exact ⟨⟨o, he _ _ q e, i⟩, r⟩
theorem gen_code {c T : Addr} {pos : Pos} {qual : Str} {scope : Scope} {Q : Value → Shared → Prop} (S : St C ρ (σ ++ τ) s) (hc : C.env.code = .ref c) (hK : codeTab K c T = true) (hm : (T, .table) ∈ σ) (h : ∀ code h' n, St C ρ (σ ++ τ) { s with heap := h', toks := n } → Q code { s with heap := h', toks := n }) :
    wpAny (model P w) A (genexprCode C.env pos qual scope) Q E s := by
  obtain ⟨op, hop, ps, rfl, ht⟩ := S.get hm
  have z := S.led _ (List.mem_append_left τ hm)
  unfold codeTab at hK
  split at hK
  · rename_i cls dd vs sl hl
    simp only [Bool.and_eq_true, beq_iff_eq] at hK
    obtain ⟨⟨⟨⟨⟨⟨h1, h2⟩, h3⟩, h4⟩, h5⟩, h6⟩, h7⟩ := hK
    have hcg := S.XH _ _ hl
    have hne : c ≠ T := fun e => by
      have := C.X _ _ hl
      rw [e, z.2.2] at this; cases this
    obtain ⟨file, tf, e4⟩ : ∃ a b, vs.getD 18 .none = .str a b := by split at h4 <;> first | exact ⟨_, _, by assumption⟩ | cases h4
    obtain ⟨fl, tg, e5⟩ : ∃ a b, vs.getD 7 .none = .int a b := by split at h5 <;> first | exact ⟨_, _, by assumption⟩ | cases h5
    obtain ⟨inF, e6⟩ : ∃ a, vs.getD 9 .none = .bool a := by split at h6 <;> first | exact ⟨_, by assumption⟩ | cases h6
    obtain ⟨tx, tt, e7⟩ : ∃ a b, vs.getD 10 .none = .int a b := by split at h7 <;> first | exact ⟨_, _, by assumption⟩ | cases h7
    have hok : s.heap.IsCode c T ps := ⟨_, vs, file, tf, fl, tg, inF, tx, tt, _, hcg, rfl, h2, e4, e5, e6, e7, hop, rfl, ht, hne⟩
    cases hca : codeAmong pos ps.toList with
    | some c' => exact wpAny_genexprCode_hit hc hok hca (h c' s.heap s.toks S)
    | none =>
      have htab : s.heap.TableAt c T ps := ⟨⟨_, vs, hcg, h1, rfl, h3⟩, hop⟩
      refine wpAny_genexprCodeX hc hok htab hca fun c' h' tk hx _ _ hok' _ htab' _ => h (.ref c') h' tk (S.tab (List.mem_append_left τ hm) hx htab'.2 ?_)
      obtain ⟨o, vs', _, _, _, _, _, _, _, op', _, _, _, _, _, _, _, hp', hd', ht', _⟩ := hok'
      exact ht'
  · cases hK
end
end Mine
end
section -- B27
open PySem PySem.W PySem.Calls PyProof.Rows
set_option Elab.async false
set_option maxRecDepth 100000
set_option linter.unusedVariables false
namespace Mine
section
variable {P : Program} {w : World} {K : Frag} {sc : Scope} {C : Ctxt w K sc} {ρ ρ' : Frame} {σ σ' τ : Ledger} {s : Shared}
/-- a call of a def of the text's own, by place, no cells; the frame's own record is handed out -/
theorem call_fnE {f : Addr} {name qual : Str} {params : Arguments} {body : List Stmt} {sc' : Scope} {cl : List (Str × Addr)} {dV kV doc pm cdv ct oc : Value} {an od : Option Addr} {osl : Array (Option Value)} {args : List AV} {vs : List Value} {names others : List Str} {Φ : AV → Frame → Ledger → Prop}
    (ho : K.lookup f = some ⟨oc, od, .func (fnX name qual params body sc' cl dV kV doc pm an cdv ct), osl⟩) (hd : 1 ≤ C.d)
    (hb : ∀ (h : Shared), K.In h.heap → ∃ bs, BindsTo h (fnX name qual params body sc' cl dV kV doc pm an cdv ct) ⟨vs, []⟩ bs ∧ BindIs names args bs)
    (hcd : codeIn K cdv qual = true) (nd : (names ++ others).Nodup) (hloc : ∀ y ∈ names, sc'.names.lookup y = some .local)
    (hcell : ∀ x ∈ sc'.names, x.2 ≠ .cell) (hco : sc'.isCoroutine = false) (hgen : sc'.isGenerator = false) (hk : sc'.kind = .function)
    (h : ∀ C' : Ctxt w K sc', C'.d + 1 = C.d → C'.env = callEnv (fnX name qual params body sc' cl dV kV doc pm an cdv ct) C'.L f → WF P C' (argFrame names args others) σ (execs body C'.env) fun fl _ σ' => Φ fl.val ρ σ') :
    WV P C ρ σ (call (.ref f) vs) Φ := by
  intro τ s Q E S k
  obtain ⟨bs, hb1, hb2⟩ := hb s S.XH
  have hlen := hb2.len
  obtain ⟨m, F, hm⟩ := S.fr
  have nd' : ((argFrame names args others).map Prod.fst).Nodup := by
    have e : (argFrame names args others).map Prod.fst = names ++ others := by
      rw [List.map_append, List.map_map]
      congr 1
      · rw [List.map_fst_zip]; simp [hlen]
      · exact List.map_id' _
    rw [e]; exact nd
  refine wpAny_call (codeAny_call_def (fd := fnX name qual params body sc' cl dV kV doc pm an cdv ct) (body := body) (binds := bs) (by have := C.room; omega) (S.XH _ _ ho) rfl (C.nolim.keeps F.keep) (codeRec_of S.XH hcd) rfl hb1 hcell (fun x hx => hloc _ (by rw [← hb2.keys]; exact List.mem_map_of_mem hx)) (fun h₁ hns hk₁ => ?_) hco hgen hk)
  have S₁ := sub_start (hd := hd) (S := S) (sc' := sc') (env := callEnv (fnX name qual params body sc' cl dV kV doc pm an cdv ct) s.heap.objs.size f) (h1 := rfl) (h2 := hk) (h3 := rfl) (h4 := rfl) (h5 := rfl) (n := s.toks + bs.length) hns hk₁ (hb2.mOk others nd) nd'
  refine h _ (by show C.d - 1 + 1 = C.d; omega) rfl τ _ _ _ S₁ fun fl b ρ' σ' s' r p S' => ?_
  have S'' := sub_back S'
  cases b with
  | ret a => obtain ⟨v, rfl, ha⟩ := r; exact k v a ρ σ' s' ha p S''
  | next => cases r; exact k .none .none ρ σ' s' rfl p S''
  | brk => cases r; exact k .none .none ρ σ' s' rfl p S''
  | cont => cases r; exact k .none .none ρ σ' s' rfl p S''
theorem builtins_for {Q : Addr → Shared → Prop} {A : Around} {E : Value → Shared → Prop} {running : Addr} (S : St C ρ σ s) (h : Q builtinsNs s) : wpAny (model P w) A (builtinsFor mainGlobals running) Q E s := by
  obtain ⟨bm, o, h1, h2, h3, h4, h5, h6⟩ := C.bmod
  obtain ⟨m, F, _⟩ := S.fr
  exact wpAny_builtinsFor (C.G.keeps F.keep) h1 h2 (F.keep _ _ h3) h4 h5 h6 h
end
end Mine
end
section -- B28
open PySem PySem.W PySem.Calls PyProof.Rows
set_option Elab.async false
set_option maxRecDepth 100000
set_option linter.unusedVariables false
namespace Mine
section
variable {P : Program} {w : World} {K : Frag} {sc : Scope} {C : Ctxt w K sc} {ρ ρ' : Frame} {σ σ' τ : Ledger} {s : Shared} {A : Around} {E : Value → Shared → Prop}
theorem method_L {ga : String} {f : Value} {tf : String} {name : Str} {x Cc : Addr} {ox : Obj} {od : Option Obj} {pl : Sem Bool} {Q : Value × List Value → Shared → Prop} (X : K.In s.heap) (I : InstAt s.heap x ox Cc od) (hga : findIn K (.ref Cc) "__getattribute__" = some (some (.builtin ga))) (hk : findIn K (.ref Cc) "__getattr__" = some none) (hcan : (Manifest.canonical ga != "object.__getattribute__") = false)
    (hf : findIn K (.ref Cc) name = some (some f)) (ht : Looks (model P w) s.heap (typeOf f) (.type tf)) (htf : tf = "function" ∨ tf = "method_descriptor") (hs : shadowIn od name = some false) (h : Q (f, [.ref x]) s) :
    wpAny (model P w) A (getMethod (.ref x) name pl) Q E s := by
  unfold getMethod specialOf
  refine wpAny_bind (wpAny_bind (I.type.here ((looks_findIn X hga).here ?_)))
  dsimp only
  rw [hcan, if_neg (by decide)]
  refine wpAny_bind (wpAny_bind (I.type.here ((looks_findIn X hk).here ?_)))
  refine wpAny_bind (wpAny_bind (I.type.here ((looks_findIn X hf).here (wpAny_bind (ht.here ?_)))))
  rw [if_neg (by rcases htf with rfl | rfl <;> decide +kernel)]
  refine wpAny_bind (wpAny_loadPart I.at_ ?_)
  have hd := I.dict
  cases e : ox.dict with
  | none => exact wpAny_bind (wpAny_rule (wpAny_pure h))
  | some dx =>
    cases od with
    | none => rw [e] at hd; exact hd.elim
    | some o =>
      rw [e] at hd
      obtain ⟨r, a, b⟩ := Option.map_eq_some_iff.mp hs
      refine wpAny_bind (wpAny_bind (wpAny_loadPart hd ?_))
      rw [nsLook_of a]
      refine wpAny_pure ?_
      rw [b]
      exact wpAny_bind (wpAny_rule (wpAny_pure h))
noncomputable def plainGetL (K : Frag) (Cc : Addr) : Bool := findIn K (.ref Cc) "__getattribute__" == some (some (.builtin "list.__getattribute__")) && findIn K (.ref Cc) "__getattr__" == some none
noncomputable def methL (K : Frag) (Cc : Addr) (name : Str) (f : Addr) : Bool := plainGetL K Cc && findIn K (.ref Cc) name == some (some (.ref f)) && typeIn K (.ref f) == some (.type "function")
noncomputable def biL (K : Frag) (Cc : Addr) (name : Str) (id : String) : Bool := plainGetL K Cc && findIn K (.ref Cc) name == some (some (.builtin id))
theorem tm_ownL {x Cc d f : Addr} {xs : List AV} {es : List (Str × AV)} {name : Str} {pos : Pos} {args : List Expr} {pl : Sem Bool} {Φ : AV → Frame → Ledger → Prop} (hx : (x, .acc Cc d xs) ∈ σ) (hd : (d, .dict es) ∈ σ) (hk : methL K Cc name f = true) (hn : es.lookup name = none)
    (h : WV P C ρ σ (callWith pos (.ref f) [.ref x] (backTo pos (starEach args C.env)) []) Φ) : ThenM P C pos args name pl Φ (.ref x) ρ σ := by
  rintro _ rfl τ s Q E S k
  obtain ⟨vs, n, ds, m, I, -, hA⟩ := S.acc hx hd
  unfold methL plainGetL at hk
  simp only [Bool.and_eq_true, beq_iff_eq] at hk
  exact method_L S.XH I hk.1.1.1 hk.1.1.2 canon_list_getattribute hk.1.2 (looks_typeIn S.XH hk.2) (.inl rfl) (by show (lookIn name (dictOf ds m)).map _ = _; rw [lookIn_dict, getL_none hA hn]; rfl) (k _ _ ρ σ s rfl h S)
theorem tm_biL {x Cc d : Addr} {id : String} {xs : List AV} {es : List (Str × AV)} {name : Str} {pos : Pos} {args : List Expr} {pl : Sem Bool} {Φ : AV → Frame → Ledger → Prop} (hx : (x, .acc Cc d xs) ∈ σ) (hd : (d, .dict es) ∈ σ) (hk : biL K Cc name id = true)
    (ht : typeOf (.builtin id) = pure (.type "method_descriptor")) (hn : es.lookup name = none)
    (h : WV P C ρ σ (callWith pos (.builtin id) [.ref x] (backTo pos (starEach args C.env)) []) Φ) : ThenM P C pos args name pl Φ (.ref x) ρ σ := by
  rintro _ rfl τ s Q E S k
  obtain ⟨vs, n, ds, m, I, -, hA⟩ := S.acc hx hd
  unfold biL plainGetL at hk
  simp only [Bool.and_eq_true, beq_iff_eq] at hk
  exact method_L S.XH I hk.1.1 hk.1.2 canon_list_getattribute hk.2 (Looks.of_pure ht) (.inr rfl) (by show (lookIn name (dictOf ds m)).map _ = _; rw [lookIn_dict, getL_none hA hn]; rfl) (k _ _ ρ σ s rfl h S)
end
end Mine
end
section -- B29
open PySem PySem.W PySem.Calls PyProof.Rows Builtin Builtin.ObjectAttr
set_option Elab.async false
set_option maxRecDepth 100000
set_option linter.unusedVariables false
namespace Mine
section
variable {P : Program} {w : World} {A : Around} {E : Value → Shared → Prop} {s : Shared} {K : Frag} {x Cc : Addr} {ox : Obj} {od : Option Obj} {name : Str} {expr : Bool} {Q : Value → Shared → Prop}
theorem get_valueL {v : Value} (X : K.In s.heap) (I : InstAt s.heap x ox Cc od) (hga : findIn K (.ref Cc) "__getattribute__" = some (some (.builtin "list.__getattribute__"))) (hk : findIn K (.ref Cc) "__getattr__" = some none) (hm : mroIn K Cc (.type "list") = some true)
    (hf : findObj K Cc od name = some (.value v)) (hh : handedIn v = true) (h : Q v { s with toks := s.toks + 1 }) : wpAny (model P w) A (getAttr (.ref x) name expr) Q E s := by
  obtain ⟨hp, g, d, t, os⟩ := s
  have L0 := I.type (M := model P w)
  have L1 := looks_findIn (M := model P w) X hga
  have L2 := looks_findIn (M := model P w) X hk
  have L3 := looks_find (M := model P w) X I hf
  unfold getAttr getAttrBy
  refine wpAny_bind (wpAny_mkText (wpAny_holding (wpAny_bind (L0.at (wpAny_bind (L1.at ?_))))))
  show wpAny _ _ (getAttrByItsOwn _ _ _ _ _ _) _ _ _
  unfold getAttrByItsOwn hookBefore
  rw [if_pos (show onTheHeap (.ref Cc) = true from rfl)]
  refine wpAny_bind (L2.at ?_)
  refine wpAny_bind (wpAny_attempt (wpAny_holding ?_))
  unfold callGetattribute
  rw [if_neg (by simp [onTheHeap])]
  unfold boundAndCalled
  refine wpAny_bind (wpAny_of_eq (F.slot_list_getattribute.bind (.ref x)) ?_)
  refine call_biI (P := P) (s := ⟨hp, g, d, t + 1, os⟩) (n := "__getattribute__") F.slot_list_getattribute.plain F.entry_list_ga (by first | exact .inl (by decide +kernel) | exact .inr (by decide +kernel)) (by decide +kernel) X I hm (F.args_list_getattribute_2 _ _) ?_
  refine wpAny_bind (wpAny_pure (wpAny_bind (wpAny_pure (wpAny_bind (L0.at (wpAny_bind (L3.at ?_)))))))
  refine wpAny_pure ⟨v, rfl, ?_⟩
  show wpAny _ _ (handedOut v) _ _ _
  rw [handedOut_of hh]; exact wpAny_pure h
end
noncomputable def ownL (K : Frag) (Cc : Addr) (name : Str) : Bool := plainGetL K Cc && hasDictIn K Cc && mroIn K Cc (.type "list") == some true && (match findIn K (.ref Cc) name with | some attr => noGet K attr | none => false)
section
variable {P : Program} {w : World} {K : Frag} {sc : Scope} {C : Ctxt w K sc} {ρ ρ' : Frame} {σ σ' τ : Ledger} {s : Shared}
theorem ga_ownL {x Cc d : Addr} {xs : List AV} {es : List (Str × AV)} {name : Str} {ex : Bool} {a : AV} {Φ : AV → Frame → Ledger → Prop} (hx : (x, .acc Cc d xs) ∈ σ) (hd : (d, .dict es) ∈ σ) (hk : ownL K Cc name = true) (ha : es.lookup name = some a) (hp : a.plain = true) (h : Φ a ρ σ) :
    ∀ v, (AV.ref x).is v → WV P C ρ σ (getAttr v name ex) Φ := by
  rintro _ rfl τ s Q E S k
  obtain ⟨vs, n, ds, m, I, -, hA⟩ := S.acc hx hd
  unfold ownL plainGetL at hk
  simp only [Bool.and_eq_true, beq_iff_eq] at hk
  obtain ⟨⟨⟨⟨h1, h2⟩, h3⟩, h4⟩, h5⟩ := hk
  obtain ⟨v, hl, hv⟩ := getL_some hA ha
  cases hf : findIn K (.ref Cc) name with
  | none => rw [hf] at h5; cases h5
  | some attr =>
    rw [hf] at h5
    exact get_valueL S.XH I h1 h2 h4 (findObj_own h3 hf h5 hl) (AV.handed hp hv) (k v a ρ σ _ hv h (S.toks _))
end
end Mine
end
section -- B30
open PySem PySem.W PySem.Calls PyProof.Rows Builtin
set_option Elab.async false
set_option maxRecDepth 100000
set_option linter.unusedVariables false
namespace Mine
noncomputable def makesL (K : Frag) (C : Addr) : Bool := match K.lookup C with
  | some ⟨_, _, .cls cd, sl⟩ => !cd.abstract && !cd.hasDel && (sl.toList[4]?).join == some (.builtin "list.__new__") && !cd.mro.isEmpty && cd.mro.contains (.ref C) && cd.mro.contains (.type "list") &&
      specialIn K (.ref C) "__call__" == some (some (.builtin "type.__call__")) && instIn K (.ref C) (.type "type") == some true
  | _ => false
structure MakesL (M : Model) (h : Heap) (C : Addr) : Prop where
  obj : ∃ oc od cd sl, h.get? C = some ⟨oc, od, .cls cd, sl⟩ ∧ cd.abstract = false ∧ cd.hasDel = false ∧ cd.mro.isEmpty = false
  made : Looks M h (Bind.madeBy (.ref C)) (some "list.__new__")
  base : Looks M h (Bind.staticBase (.ref C)) (.ref C)
  self : Looks M h (isSubtype (.ref C) (.ref C)) true
  top : Looks M h (isSubtype (.ref C) (.type "list")) true
  call : Looks M h (specialOf (.ref C) "__call__") (some (.builtin "type.__call__"))
  typ : Looks M h (isInstance (.ref C) (.type "type")) true
theorem makesL_of {K : Frag} {M : Model} {h : Heap} (X : K.In h) {C : Addr} (e : makesL K C = true) : MakesL M h C := by
  unfold makesL at e
  split at e
  · rename_i oc od cd sl ho
    simp only [Bool.and_eq_true, Bool.not_eq_true', beq_iff_eq] at e
    obtain ⟨⟨⟨⟨⟨⟨⟨e1, e2⟩, e3⟩, e4⟩, e5⟩, e6⟩, e7⟩, e8⟩ := e
    have hc : clsIn K C = some cd := by unfold clsIn; rw [ho]
    have hm : Looks M h (mroOf (.ref C)) cd.mro := (looks_clsIn X hc).andThen .now
    obtain ⟨c, l, hl⟩ : ∃ c l, cd.mro = c :: l := by cases q : cd.mro with | nil => rw [q] at e4; cases e4 | cons c l => exact ⟨c, l, rfl⟩
    have made : Looks M h (Bind.madeBy (.ref C)) (some "list.__new__") := by
      intro A Q E s k q
      unfold Bind.madeBy
      refine wpAny_bind (hm A _ E s k ?_)
      rw [hl, List.forIn_cons]
      refine wpAny_bind (wpAny_bind (wpAny_bind (wpAny_bind (wpAny_loadPart (k _ _ (X _ _ ho)) (wpAny_pure ?_)))))
      dsimp only
      rw [← Array.getElem?_toList, e3]
      exact wpAny_pure (wpAny_pure (wpAny_pure q))
    refine ⟨⟨oc, od, cd, sl, X _ _ ho, e1, e2, e4⟩, made, ?_, looks_mroIn X ?_, looks_mroIn X ?_, looks_specialIn X e7, looks_instIn X e8⟩
    · intro A Q E s k q
      unfold Bind.staticBase
      refine wpAny_bind (hm A _ E s k ?_)
      rw [hl, List.forIn_cons]
      exact wpAny_bind (wpAny_bind (wpAny_bind (made A _ E s k (wpAny_pure (wpAny_pure (wpAny_pure q))))))
    · unfold mroIn; rw [hc, Option.bind_some, if_neg (by rw [e4]; decide), e5]
    · unfold mroIn; rw [hc, Option.bind_some, if_neg (by rw [e4]; decide), e6]
  · cases e
end Mine
end
section -- B31
open PySem PySem.W PySem.Calls PyProof.Rows Builtin
set_option Elab.async false
set_option maxRecDepth 100000
set_option maxHeartbeats 4000000
set_option linter.unusedVariables false
namespace Mine
noncomputable abbrev accObj (C d : Addr) : Obj := { cls := .ref C, dict := some d, data := .seq #[] 0 }
section
variable {P : Program} {w : World} {A : Around} {K : Frag} {C : Addr} {R : Result → Shared → Prop} {h : Heap} {g : Array GenState} {d : Drawn} {t : Nat} {os : OsState}
theorem new_L {rest : List Value} (Y : MakesL (model P w) h C)
    (hq : R (.ok (.ret (.ref (h.objs.size + 1)))) ⟨(h.push emptyDict).push (accObj C h.objs.size), g, d, t, os⟩) :
    codeAny (model P w) A (.call (.builtin "list.__new__") ⟨.ref C :: rest, []⟩) R ⟨h, g, d, t, os⟩ := by
  obtain ⟨⟨oc, od, cd, sl, hC, e1, e2, e4⟩, made, base, self, top, call, typ⟩ := Y
  have hk : builtinKind "list.__new__" = some .builtinFn := by decide +kernel
  have hs : splitId "list.__new__" = some ("list", "__new__") := by decide +kernel
  refine codeAny_of_tree ?_
  show wpAny _ A.in1 (do checkBuiltinCall "list.__new__" ⟨.ref C :: rest, []⟩; again (.builtin "list.__new__" ⟨.ref C :: rest, []⟩)) _ _ _
  have chk : ∀ {Q : Unit → Shared → Prop} {E : Value → Shared → Prop}, Q () ⟨h, g, d, t, os⟩ → wpAny (model P w) A.in1 (checkBuiltinCall "list.__new__" ⟨.ref C :: rest, []⟩) Q E ⟨h, g, d, t, os⟩ := by
    intro Q E hQ
    simp only [checkBuiltinCall, hk, hs]
    have ht : Looks (model P w) h (isType (.ref C)) true := by
      intro A Q E s k q
      unfold isType
      exact wpAny_bind (wpAny_loadPart (k _ _ hC) (wpAny_pure q))
    repeat (first | simp only [bne_self_eq_false, beq_self_eq_true, if_true, Bool.not_true, Bool.false_eq_true, if_false] | lk)
    exact hQ
  refine wpAny_bind (chk (wpAny_pure ⟨plainId_quiet F.plain_list_new _, codeAny_builtin_stack F.entry_list_new rfl fun p st => ?_⟩))
  rw [Around.under_plainId F.plain_list_new _]
  have hown := owner_list_new
  simp only [hown]
  have ht : Looks (model P w) h (isType (.ref C)) true := by
    intro A Q E s k q
    unfold isType
    exact wpAny_bind (wpAny_loadPart (k _ _ hC) (wpAny_pure q))
  refine wpAny_bind (ht.at ?_)
  rw [if_neg (by decide)]
  refine wpAny_bind (top.at ?_)
  rw [if_neg (by decide)]
  refine wpAny_bind (wpAny_pure ?_)
  rw [if_neg (by simp [typeHasDict])]
  simp only [newDict]
  refine wpAny_bind (wpAny_newObj_type ?_ (by size_fits))
  have hC1 := Heap.get?_push_of_some emptyDict hC
  show wpAny _ _ (newObj (.ref C) (.seq #[]) (some h.objs.size) >>= fun v => ret v) _ _ _
  refine wpAny_bind ?_
  show wpAny _ _ (if (#[] : Array Value).size > sizeLine then (unsupported "sequence:memory" >>= fun (_ : PUnit) => newObjAsIs (.ref C) (.seq #[]) (some h.objs.size)) else newObjAsIs (.ref C) (.seq #[]) (some h.objs.size)) _ _ _
  rw [if_neg (by simp)]
  unfold newObjAsIs classHasDel
  refine wpAny_bind (wpAny_alloc (wpAny_bind (wpAny_bind (wpAny_load (Heap.get?_push_of_some _ hC1) (wpAny_pure ?_)))))
  rw [e2]
  refine wpAny_pure (wpAny_pure ?_)
  show R _ _
  rw [Heap.size_push]
  exact hq
end
end Mine
end
section -- B32
open PySem PySem.W PySem.Calls PyProof.Rows Builtin
set_option Elab.async false
set_option maxRecDepth 100000
set_option maxHeartbeats 4000000
set_option linter.unusedVariables false
namespace Mine
section
variable {P : Program} {w : World} {A : Around} {K : Frag} {C : Addr} {R : Result → Shared → Prop} {h : Heap} {g : Array GenState} {d : Drawn} {t : Nat} {os : OsState}
theorem make_coreL {rest : List Value} {init : Value} (Y : MakesL (model P w) h C) (hi : Looks (model P w) h (typeLookup (.ref C) "__init__") (some init))
    (hb : ∀ self, Looks (model P w) h (bindSpecial init self) (init, [self]))
    (hq : codeAny (model P w) (A.under (.builtin "type.__call__" ⟨.ref C :: rest, []⟩)) (.call init ⟨.ref (h.objs.size + 1) :: rest, []⟩) (InitBack (h.objs.size + 1) R) ⟨(h.push emptyDict).push (accObj C h.objs.size), g, d, t, os⟩) :
    codeAny (model P w) A (.call (.ref C) ⟨rest, []⟩) R ⟨h, g, d, t, os⟩ := by
  have Y' := Y
  obtain ⟨⟨oc, od, cd, sl, hC, e1, e2, e4⟩, made, base, self, top, call, typ⟩ := Y
  refine codeAny_of_tree ?_
  show wpAny _ _ (callAny (.ref C) _) _ _ _
  refine nd_load hC ?_
  show wpAny _ _ (callAny.viaDunder (.ref C) _) _ _ _
  unfold callAny.viaDunder
  refine wpAny_bind (call.at ?_)
  dsimp only
  rw [tc_bind]
  refine wpAny_bind (wpAny_pure (wpAny_bind (wpAny_pure ?_)))
  refine wpAny_pure (a := Fin.again (.call (.builtin "type.__call__") ⟨.ref C :: rest, []⟩)) (And.intro rfl ?_)
  refine codeAny_call_builtin_at (Code.quiet_builtin _ (by decide +kernel)) entry_typeCall (check_slot tc_kind tc_split typ (tc_args _ _ _) ?_)
  unfold Builtin.«type.__call__»
  have hm : Looks (model P w) h (mroOf (.ref C)) cd.mro := ((Looks.ld (part := none) hC).andThen .now).andThen .now
  repeat (first | simp only [e4, Bool.false_eq_true, if_false] | with_reducible refine wpAny_call ?_ | lk)
  refine new_L Y' ?_
  have k : ∀ b o, h.get? b = some o → ((h.push emptyDict).push (accObj C h.objs.size)).get? b = some o := fun b o e => Heap.get?_push_of_some _ (Heap.get?_push_of_some _ e)
  have hx : ((h.push emptyDict).push (accObj C h.objs.size)).get? (h.objs.size + 1) = some (accObj C h.objs.size) := by heap_get
  have t1 : Looks (model P w) ((h.push emptyDict).push (accObj C h.objs.size)) (typeOf (.ref (h.objs.size + 1))) (.ref C) := (Looks.ld hx).andThen .now
  have s1 := self.keeps k
  have i1 := hi.keeps k
  have b1 := (hb (.ref (h.objs.size + 1))).keeps k
  unfold isInstance callSpecial? specialOf
  repeat (first | with_reducible refine wpAny_call ?_ | lk)
  refine codeAny_mono hq fun r s' z => ?_
  rcases r with e | (v | _ | _ | _) <;> first | exact z | exact z.elim | skip
  obtain ⟨rfl, z⟩ := z
  exact wpAny_pure (wpAny_pure z)
end
section
variable {P : Program} {w : World} {K : Frag} {sc : Scope} {C : Ctxt w K sc} {ρ ρ' : Frame} {σ σ' τ : Ledger} {s : Shared}
theorem call_acc {Cc fI : Addr} {vs : List Value} {Φ : AV → Frame → Ledger → Prop} (hd : 1 ≤ C.d) (hm : makesL K Cc = true) (hi : findIn K (.ref Cc) "__init__" = some (some (.ref fI))) (hf : typeIn K (.ref fI) = some (.type "function"))
    (h : ∀ (C' : Ctxt w K sc) x d, C'.d + 1 = C.d → WC P C' ρ ((x, .acc Cc d []) :: (d, .dict []) :: σ) (.call (.ref fI) ⟨.ref x :: vs, []⟩) fun a ρ' σ' => a = .none ∧ Φ (.ref x) ρ' σ') : WV P C ρ σ (call (.ref Cc) vs) Φ := by
  intro τ s Q E S k
  refine wpAny_call ?_
  obtain ⟨hh, g, dd, t, os⟩ := s
  have S1 : St C ρ ((hh.objs.size, .dict []) :: (σ ++ τ)) { heap := hh.push emptyDict, gens := g, drawn := dd, toks := t, os := os } := S.push (n := t) (ob := emptyDict) ⟨[], 0, rfl, .nil⟩ rfl
  have S2 : St C ρ (((hh.push emptyDict).objs.size, .acc Cc hh.objs.size []) :: (hh.objs.size, .dict []) :: (σ ++ τ)) { heap := (hh.push emptyDict).push (accObj Cc hh.objs.size), gens := g, drawn := dd, toks := t, os := os } := S1.push (n := t) ⟨[], 0, rfl, .nil⟩ rfl
  rw [Heap.size_push] at S2
  refine make_coreL (makesL_of S.XH hm) (looks_findIn S.XH hi) (fun self => bind_fn S.XH self hf) ?_
  refine h (made C hd Cc vs) (hh.objs.size + 1) hh.objs.size (by show C.d - 1 + 1 = C.d; omega) τ _ _ ((made_St C).mpr S2) fun v b ρ' σ' s' hb hΦ S' => ?_
  obtain ⟨rfl, hΦ⟩ := hΦ
  cases hb
  exact ⟨rfl, k _ (.ref _) ρ' σ' s' rfl hΦ ((made_St C).mp S')⟩
end
end Mine
end
section -- B33
open PySem PySem.W PySem.Calls PyProof.Rows Builtin
set_option Elab.async false
set_option maxRecDepth 100000
set_option linter.unusedVariables false
namespace Mine
section
variable {P : Program} {w : World} {K : Frag} {sc : Scope} {C : Ctxt w K sc} {ρ ρ' : Frame} {σ σ' τ : Ledger} {s : Shared} {α β γ δ : Type}
/-- as W, of a tree of the innermost activation -/
noncomputable def WAt (P : Program) {w : World} {K : Frag} {sc : Scope} (body : List Stmt) (R : β → α → Prop) (C : Ctxt w K sc) (ρ : Frame) (σ : Ledger) (t : Sem α) (Φ : β → Frame → Ledger → Prop) : Prop :=
  ∀ (τ : Ledger) (s : Shared) (Q : α → Shared → Prop) (E : Value → Shared → Prop), St C ρ (σ ++ τ) s →
    (∀ a b ρ' σ' s', R b a → Φ b ρ' σ' → St C ρ' (σ' ++ τ) s' → Q a s') → _root_.PySem.wpAt (model P w) C.A (.func body C.env) t Q E s
theorem at_of {body : List Stmt} {R : β → α → Prop} {t : Sem α} {Φ : β → Frame → Ledger → Prop} (h : W P R C ρ σ t Φ) : WAt P body R C ρ σ t Φ :=
  fun τ s Q E S k => _root_.PySem.wpAt_of_wpAny (h τ s Q E S k)
noncomputable abbrev SeqA (P : Program) {w : World} {K : Frag} {sc : Scope} (body : List Stmt) (C : Ctxt w K sc) (rest : List Stmt) (Φ : AFlow → Frame → Ledger → Prop) : AFlow → Frame → Ledger → Prop :=
  fun f ρ σ => match f with
    | .next => WAt P body AFlow.is C ρ σ (execs rest C.env) Φ
    | f => Φ f ρ σ
theorem at_cons {body : List Stmt} {st : Stmt} {rest : List Stmt} {Φ : AFlow → Frame → Ledger → Prop} (h : WAt P body AFlow.is C ρ σ (exec st C.env) (SeqA P body C rest Φ)) : WAt P body AFlow.is C ρ σ (execs (st :: rest) C.env) Φ :=
  fun τ s Q E S k => ks_wpAt_execs_cons (h τ s _ E S fun f b ρ1 σ1 s1 r p S1 => by
    cases b with
    | next => cases r; exact p τ s1 Q E S1 k
    | brk => cases r; exact k _ .brk ρ1 σ1 s1 rfl p S1
    | cont => cases r; exact k _ .cont ρ1 σ1 s1 rfl p S1
    | ret a => obtain ⟨v, rfl, ha⟩ := r; exact k _ (.ret a) ρ1 σ1 s1 ⟨v, rfl, ha⟩ p S1)
theorem at_ret {body : List Stmt} {e : Expr} {pos : Pos} {Φ : AFlow → Frame → Ledger → Prop} (h : WAt P body AV.is C ρ σ (eval e C.env) fun a ρ1 σ1 => Φ (.ret a) ρ1 σ1) : WAt P body AFlow.is C ρ σ (exec (.Return (some e) pos) C.env) Φ :=
  fun τ s Q E S k => ks_wpAt_Return_some (h τ s _ E S fun v a ρ1 σ1 s1 r p S1 => k _ (.ret a) ρ1 σ1 s1 ⟨v, rfl, r⟩ p S1)
theorem at_expr {body : List Stmt} {e : Expr} {pos : Pos} {Φ : AFlow → Frame → Ledger → Prop} (h : WAt P body AV.is C ρ σ (eval e C.env) fun a ρ1 σ1 => Φ .next ρ1 σ1)
    (hs : swapsWith e none pos.line C.env = pure false := by rfl) : WAt P body AFlow.is C ρ σ (exec (.Expr e pos) C.env) Φ :=
  fun τ s Q E S k => ks_wpAt_Expr_any (h τ s _ E S fun v a ρ1 σ1 s1 r p S1 => k _ .next ρ1 σ1 s1 rfl p S1) (by unfold interactive; rw [C.kind]; rfl) hs
theorem code_fnS {f : Addr} {name qual : Str} {params : Arguments} {body : List Stmt} {sc' : Scope} {cl : List (Str × Addr)} {dV kV doc pm cdv ct oc : Value} {an od : Option Addr} {osl : Array (Option Value)} {args : List AV} {vs : List Value} {names others : List Str} {Φ : AV → Frame → Ledger → Prop}
    (ho : K.lookup f = some ⟨oc, od, .func (fnX name qual params body sc' cl dV kV doc pm an cdv ct), osl⟩) (hd : 1 ≤ C.d)
    (hb : ∀ (h : Shared), K.In h.heap → ∃ bs, BindsTo h (fnX name qual params body sc' cl dV kV doc pm an cdv ct) ⟨vs, []⟩ bs ∧ BindIs names args bs)
    (hcd : codeIn K cdv qual = true) (nd : (names ++ others).Nodup) (hloc : ∀ y ∈ names, sc'.names.lookup y = some .local)
    (hcell : ∀ x ∈ sc'.names, x.2 ≠ .cell) (hco : sc'.isCoroutine = false) (hgen : sc'.isGenerator = false) (hk : sc'.kind = .function)
    (h : ∀ C' : Ctxt w K sc', C'.d + 1 = C.d → C'.env = callEnv (fnX name qual params body sc' cl dV kV doc pm an cdv ct) C'.L f → WAt P body AFlow.is C' (argFrame names args others) σ (execs body C'.env) fun fl _ σ' => Φ fl.val ρ σ') :
    WC P C ρ σ (.call (.ref f) ⟨vs, []⟩) Φ := by
  intro τ s R S k
  obtain ⟨bs, hb1, hb2⟩ := hb s S.XH
  have hlen := hb2.len
  obtain ⟨m, F, hm⟩ := S.fr
  have nd' : ((argFrame names args others).map Prod.fst).Nodup := by
    have e : (argFrame names args others).map Prod.fst = names ++ others := by
      rw [List.map_append, List.map_map]
      congr 1
      · rw [List.map_fst_zip]; simp [hlen]
      · exact List.map_id' _
    rw [e]; exact nd
  refine ks_codeAny_call_defAt (fd := fnX name qual params body sc' cl dV kV doc pm an cdv ct) (body := body) (binds := bs) (by have := C.room; omega) (S.XH _ _ ho) rfl (C.nolim.keeps F.keep) (codeRec_of S.XH hcd) rfl hb1 hcell (fun x hx => hloc _ (by rw [← hb2.keys]; exact List.mem_map_of_mem hx)) (fun h₁ hns hk₁ => ?_) hco hgen hk
  have S₁ := sub_start (hd := hd) (S := S) (sc' := sc') (env := callEnv (fnX name qual params body sc' cl dV kV doc pm an cdv ct) s.heap.objs.size f) (h1 := rfl) (h2 := hk) (h3 := rfl) (h4 := rfl) (h5 := rfl) (n := s.toks + bs.length) hns hk₁ (hb2.mOk others nd) nd'
  refine h (sub C S hd sc' (callEnv (fnX name qual params body sc' cl dV kV doc pm an cdv ct) s.heap.objs.size f) rfl hk rfl rfl rfl) (by show C.d - 1 + 1 = C.d; omega) rfl τ _ _ _ S₁ fun fl b ρ' σ' s' r p S' => ?_
  have S'' := sub_back S'
  cases b with
  | ret a => obtain ⟨v, rfl, ha⟩ := r; exact k v a ρ σ' s' ha p S''
  | next => cases r; exact k .none .none ρ σ' s' rfl p S''
  | brk => cases r; exact k .none .none ρ σ' s' rfl p S''
  | cont => cases r; exact k .none .none ρ σ' s' rfl p S''
/-! super().name() -/
noncomputable def mainFileIs (P : Program) (K : Frag) (cda : Addr) : Bool := match K.lookup cda with
  | some (Obj.mk _ _ (Data.fields vs) _) => (match vs[2]? with | some (Value.str file _) => (P.main.file : Str) == file | _ => false)
  | _ => false
noncomputable def cellIs (K : Frag) (cc D : Addr) : Bool := match K.lookup cc with
  | some ⟨_, _, .cell (some v), _⟩ => v == .ref D
  | _ => false
theorem super_base {body : List Stmt} {p0 p1 : Pos} {attr : Str} {whole : Sem Value} {f cda cc Cc d : Addr} {fd : FuncData} {oc : Value} {od : Option Addr} {osl : Array (Option Value)} {ar : Arg} {xs : List AV} {es : List (Str × AV)} {x : Addr} {Φ : AV → Frame → Ledger → Prop}
    (hf : K.lookup f = some ⟨oc, od, .func fd, osl⟩) (henv : C.env.func = some f) (hcode : C.env.code = .ref cda) (hcells : C.env.cells = [(("__class__" : Str), cc)])
    (hp : (fd.params.posonlyargs ++ fd.params.args).head? = some ar) (hself : (ar.arg, some (.ref x)) ∈ ρ) (hx : (x, .acc Cc d xs) ∈ σ) (hd : (d, .dict es) ∈ σ)
    (hfile : mainFileIs P K cda = true) (hcell : cellIs K cc Cc = true) (hD : (clsIn K Cc).isSome = true) (hsub : mroIn K Cc (.ref Cc) = some true)
    (hsuper : nsIn K mainGlobals "super" = some none) (hat : (attr == ("__class__" : Str)) = false) (hks : sc.names.lookup ("super" : Str) = some .globalImplicit) (hkc : sc.names.lookup ("__class__" : Str) = some .free) (hka : sc.names.lookup ar.arg = some .local)
    (htop : (P.main.scope.names.lookup ("super" : Str)).isSome = false) (hboot : bootBuiltins "super" = some (.type "super"))
    (h : ∀ so, Φ (.ref so) ρ ((so, .raw (ks_superObj Cc x Cc)) :: σ)) :
    WAt P body AV.is C ρ σ (attributeBase (.Call (.Name "super" p0) [] [] p1) attr C.env whole) Φ := by
  intro τ s Q E S k
  have X := S.XH
  obtain ⟨vs, n, ds, m', I, -, -⟩ := S.acc hx hd
  obtain ⟨m, v, F, hv, hvi⟩ := S.name hself
  have hvi' : v = .ref x := hvi
  subst hvi'
  unfold mainFileIs at hfile
  split at hfile
  · rename_i c1 c2 fvs c3 hl
    split at hfile
    · rename_i file tf hvs
      unfold cellIs at hcell
      split at hcell
      · rename_i d1 d2 cv d3 hcl
        have hcv : cv = .ref Cc := beq_iff_eq.mp hcell
        subst hcv
        obtain ⟨cdD, hDc⟩ := Option.isSome_iff_exists.mp hD
        obtain ⟨oD, hD1, hD2⟩ : ∃ oD, s.heap.get? Cc = some oD ∧ oD.data = .cls cdD := by
          unfold clsIn at hDc
          split at hDc
          · rename_i c d cd' sl ho
            cases hDc
            exact ⟨_, X _ _ ho, rfl⟩
          · cases hDc
        obtain ⟨hh, g, dd, t, os⟩ := s
        refine ks_wpAt_super_base (env := C.env) (C.kindOf hks) (C.kindOf hkc) hat henv (X _ _ hf) rfl hp hcode (X _ _ hl) rfl hvs hfile htop ?_
        refine ks_loadName_global C.kind (C.kindOf hks) (loadGlobal_builtin (by rw [C.hG]; exact C.G.keeps F.keep) (mg_none_of C.X C.G hsuper) (by rw [C.hB]; exact C.Bi.keeps F.keep) ((C.bi _ (by decide +kernel)).trans hboot) ⟨rfl, ?_⟩)
        refine wpAny_loadName_free C.kind (C.kindOf hkc) (by rw [hcells]; rfl) ⟨_, X _ _ hcl, rfl⟩ ?_
        refine wpAny_loadName_local C.kind (C.kindOf hka) (by rw [C.hL]; exact F.ns) hv ?_
        refine ks_wpAny_isType_cls hD1 hD2 ⟨rfl, ?_⟩
        refine ks_wpAny_call_super hD1 hD2 I.at_ I.cls (fun c e => nomatch e) (looks_mroIn X hsub) (fun h' e kk => ?_)
        exact k _ (.ref _) ρ _ _ rfl (h _) (S.add (n := t) kk (Nat.le_refl _) e rfl)
      · cases hcell
    · cases hfile
  · cases hfile
end
end Mine
end
section -- B34
open PySem PySem.W PySem.Calls PyProof.Rows Builtin
set_option Elab.async false
set_option maxRecDepth 100000
set_option linter.unusedVariables false
namespace Mine
noncomputable abbrev bndObj (T id : String) (x : Addr) : Obj := { cls := .type T, data := .fields #[.builtin id, .ref x] }
theorem slot_wget : Slot "wrapper_descriptor" "__get__" "wrapper_descriptor.__get__" :=
  .of (owner := "wrapper_descriptor") (n := "__get__") (by rw [typeLookup_type, builtinLookup_eq_fast]; kernel_rfl) (by decide +kernel) (by decide +kernel) (by decide +kernel)
    (by first | exact .inl (by decide +kernel) | exact .inr (by decide +kernel)) (by rw [isSubtype_type]; kernel_rfl)
theorem slot_mget : Slot "method_descriptor" "__get__" "method_descriptor.__get__" :=
  .of (owner := "method_descriptor") (n := "__get__") (by rw [typeLookup_type, builtinLookup_eq_fast]; kernel_rfl) (by decide +kernel) (by decide +kernel) (by decide +kernel)
    (by first | exact .inl (by decide +kernel) | exact .inr (by decide +kernel)) (by rw [isSubtype_type]; kernel_rfl)
theorem entry_wget : entryFor table "wrapper_descriptor.__get__" = some Builtin.«wrapper_descriptor.__get__» := entryFor_of_tree (by kernel_rfl)
theorem entry_mget : entryFor table "method_descriptor.__get__" = some Builtin.«method_descriptor.__get__» := entryFor_of_tree (by kernel_rfl)
theorem args_wget (a b c : Value) : argsOk "wrapper_descriptor.__get__" ⟨[a, b, c], []⟩ := by unfold argsOk; kernel_rfl
theorem args_mget (a b c : Value) : argsOk "method_descriptor.__get__" ⟨[a, b, c], []⟩ := by unfold argsOk; kernel_rfl
/-- what __get__ of the two kinds of descriptors makes -/
structure Desc (id : String) (T : String) : Prop where
  typ : ∃ D g b, typeOf (.builtin id) = pure (.type D) ∧ Slot D "__get__" g ∧ entryFor table g = some b ∧ (∀ x y z, argsOk g ⟨[x, y, z], []⟩) ∧
    ∀ (M : Model) (A : Around) (E : Value → Shared → Prop) (s : Shared) (x C : Addr) (Q : Fin → Shared → Prop), Looks M s.heap (isInstance (.ref x) (.type "list")) true → Q (.done (.ret (.ref s.heap.objs.size))) { s with heap := s.heap.push (bndObj T id x) } →
      wpAny M A (b ⟨[.builtin id, .ref x, .ref C], []⟩) Q E s
theorem own_len : (kfb_private% "ownerAndName") "list.__len__" = ("list", "__len__") := by first | decide +kernel | kernel_rfl
theorem own_init : (kfb_private% "ownerAndName") "list.__init__" = ("list", "__init__") := by first | decide +kernel | kernel_rfl
theorem own_pop : (kfb_private% "ownerAndName") "list.pop" = ("list", "pop") := by first | decide +kernel | kernel_rfl
theorem check_inst {M : Model} {A : Around} {E : Value → Shared → Prop} {s : Shared} {id n : String} {x : Addr} {Q : Unit → Shared → Prop} (ho : (kfb_private% "ownerAndName") id = ("list", n)) (hi : Looks M s.heap (isInstance (.ref x) (.type "list")) true) (h : Q () s) :
    wpAny M A ((kfb_private% "checkInstance") (.builtin id) (.ref x)) Q E s := by
  show wpAny M A ((kfb_private% "nameAndClass") (.builtin id) >>= _) Q E s
  refine wpAny_bind (wpAny_of_eq (a := (Str.ofString n, .type "list")) ?_ ?_)
  · show (match (kfb_private% "ownerAndName") id with | (owner, name) => pure ((name : Str), Value.type owner)) = _
    rw [ho]
  refine wpAny_bind (hi.here ?_)
  exact wpAny_pure h
theorem desc_len : Desc "list.__len__" "method-wrapper" := ⟨_, _, _, by show builtinType _ = _; rw [builtinType_eq_fast]; kernel_rfl, slot_wget, entry_wget, args_wget, fun M A E s x C Q hi h => by
  unfold Builtin.«wrapper_descriptor.__get__»
  refine wpAny_bind (wpAny_of_eq (a := (.builtin "list.__len__", some (.ref x), some (.ref C))) (by first | rfl | kernel_rfl) ?_)
  show wpAny _ _ ((kfb_private% "checkInstance") (.builtin "list.__len__") (.ref x) >>= _) _ _ _
  exact wpAny_bind (check_inst own_len hi (wpAny_bind (wpAny_newObj_type (wpAny_pure h))))⟩
theorem desc_init : Desc "list.__init__" "method-wrapper" := ⟨_, _, _, by show builtinType _ = _; rw [builtinType_eq_fast]; kernel_rfl, slot_wget, entry_wget, args_wget, fun M A E s x C Q hi h => by
  unfold Builtin.«wrapper_descriptor.__get__»
  refine wpAny_bind (wpAny_of_eq (a := (.builtin "list.__init__", some (.ref x), some (.ref C))) (by first | rfl | kernel_rfl) ?_)
  show wpAny _ _ ((kfb_private% "checkInstance") (.builtin "list.__init__") (.ref x) >>= _) _ _ _
  exact wpAny_bind (check_inst own_init hi (wpAny_bind (wpAny_newObj_type (wpAny_pure h))))⟩
theorem desc_pop : Desc "list.pop" "builtin_function_or_method" := ⟨_, _, _, by show builtinType _ = _; rw [builtinType_eq_fast]; kernel_rfl, slot_mget, entry_mget, args_mget, fun M A E s x C Q hi h => by
  unfold Builtin.«method_descriptor.__get__»
  refine wpAny_bind (wpAny_of_eq (a := (.builtin "list.pop", some (.ref x), some (.ref C))) (by first | rfl | kernel_rfl) ?_)
  dsimp only
  rw [if_neg (by decide +kernel)]
  show wpAny _ _ ((kfb_private% "checkInstance") (.builtin "list.pop") (.ref x) >>= _) _ _ _
  exact wpAny_bind (check_inst own_pop hi (wpAny_bind (wpAny_newObj_type (wpAny_pure h))))⟩
section
variable {prog : Program} {w : World} {A : Around} {E : Value → Shared → Prop} {h : Heap} {g : Array GenState} {d : Drawn} {t : Nat} {os : OsState}
theorem super_ga {so D x C : Addr} {id T : String} {l₀ l : List Value} {K : Frag} {name : Str} {tk : Tok} {Q : Fin → Shared → Prop} (hdesc : Desc id T)
    (hso : h.get? so = some { cls := .type "super", dict := none, data := .fields #[.ref D, .ref x, .ref C], slots := #[] }) (hno : Looks (model prog w) h (opaqueClassAbove (.ref C)) none)
    (hC : Looks (model prog w) h (mroOf (.ref C)) l₀) (hl : (l₀.dropWhile (· != .ref D)).drop 1 = l) (X : K.In h)
    (hf : alongIn K name l = some (some (.builtin id))) (hi : Looks (model prog w) h (isInstance (.ref x) (.type "list")) true) (hxC : x ≠ C) (hn : (name == ("__class__" : Str)) = false)
    (hq : Q (.done (.ret (.ref h.objs.size))) ⟨h.push (bndObj T id x), g, d, t, os⟩) :
    wpAny (model prog w) A (Builtin.«super.__getattribute__» ⟨[.ref so, .str name tk], []⟩) Q E ⟨h, g, d, t, os⟩ := by
  obtain ⟨Dn, gn, b, h1, h2, h3, h4, h5⟩ := hdesc.typ
  have hlk := h2.lookup
  have hc : ∀ {Q' : Value → Shared → Prop} {E' : Value → Shared → Prop} {A' : Around}, Q' (.ref h.objs.size) ⟨h.push (bndObj T id x), g, d, t, os⟩ → wpAny (model prog w) A' (call (.builtin gn) [.builtin id, .ref x, .ref C]) Q' E' ⟨h, g, d, t, os⟩ :=
    fun q => wpAny_call_entry h2 h1 h3 (h5 _ _ _ ⟨h, g, d, t, os⟩ x C _ hi ⟨_, rfl, q⟩) (h4 _ _ _)
  have hne : (Value.ref x == Value.ref C) = false := by simp [hxC]
  have hdt : ({ cls := .type "super", dict := none, data := .fields #[.ref D, .ref x, .ref C], slots := #[] } : Obj).data = .fields #[.ref D, .ref x, .ref C] := rfl
  have f0 : (#[.ref D, .ref x, .ref C] : Array Value)[0]? = some (.ref D) := rfl
  have f1 : (#[.ref D, .ref x, .ref C] : Array Value)[1]? = some (.ref x) := rfl
  have f2 : (#[.ref D, .ref x, .ref C] : Array Value)[2]? = some (.ref C) := rfl
  unfold Builtin.«super.__getattribute__»
  repeat (first
    | (with_reducible refine wpAny_field hso hdt f0 ?_) | (with_reducible refine wpAny_field hso hdt f1 ?_) | (with_reducible refine wpAny_field hso hdt f2 ?_)
    | (with_reducible refine ks_wpAny_notOpaque hno ?_)
    | (with_reducible refine Looks.at hC ?_; rw [hl])
    | (refine ks_forIn_along X (fun _ _ => rfl) rfl ?_ hf)
    | (with_reducible refine wpAny_typeOf h1 ?_)
    | (with_reducible refine hc ?_)
    | (with_reducible refine wpAny_typeOf h1 ?_)
    | (simp only [hn, hne, Bool.or_false, Bool.false_eq_true, if_false])
    | wp_step
    | dsimp only)
  all_goals exact hq
theorem getMethod_superB {so D x C : Addr} {id T : String} {l₀ l : List Value} {K : Frag} {name : Str} {pl : Sem Bool} {Q : Value × List Value → Shared → Prop} (hdesc : Desc id T)
    (hso : h.get? so = some { cls := .type "super", dict := none, data := .fields #[.ref D, .ref x, .ref C], slots := #[] }) (hno : Looks (model prog w) h (opaqueClassAbove (.ref C)) none)
    (hC : Looks (model prog w) h (mroOf (.ref C)) l₀) (hl : (l₀.dropWhile (· != .ref D)).drop 1 = l) (X : K.In h)
    (hf : alongIn K name l = some (some (.builtin id))) (hi : Looks (model prog w) h (isInstance (.ref x) (.type "list")) true) (hxC : x ≠ C) (hn : (name == ("__class__" : Str)) = false)
    (hq : Q (.ref h.objs.size, []) ⟨h.push (bndObj T id x), g, d, t + 1, os⟩) :
    wpAny (model prog w) A (getMethod (.ref so) name pl) Q E ⟨h, g, d, t, os⟩ := by
  have hlk := F.ks_slot_super_ga.lookup
  have hcan := F.ks_canon_super_ga
  have hT : ∀ t', (⟨h, g, d, t', os⟩ : Shared).TypeIs (.ref so) "super" := fun _ => ⟨_, hso, rfl⟩
  unfold getMethod
  refine wpAny_bind (wpAny_specialOf (hT _) hlk ?_)
  show wpAny _ _ (if (Manifest.canonical "super.__getattribute__" != "object.__getattribute__") = true then _ else _) _ _ _
  rw [if_pos hcan]
  unfold getAttr getAttrBy
  refine wpAny_bind (wpAny_bind (wpAny_mkText (wpAny_holding (wpAny_bind (wpAny_typeOf (hT _) (wpAny_bind (wpAny_of_eq hlk ?_)))))))
  show wpAny _ _ (getAttrByItsOwn (.ref so) (.str name t) (.type "super") (.builtin "super.__getattribute__") true false) _ _ _
  unfold getAttrByItsOwn hookBefore callGetattribute boundAndCalled
  refine wpAny_bind (wpAny_of_eq (show (if onTheHeap (.type "super") then typeLookup (.type "super") "__getattr__" else pure none) = pure none from rfl) ?_)
  refine wpAny_bind (wpAny_attempt (wpAny_holding ?_))
  show wpAny _ _ (bindSpecial (.builtin "super.__getattribute__") (.ref so) >>= _) _ _ _
  refine wpAny_bind (wpAny_of_eq (F.ks_slot_super_ga.bind _) ?_)
  refine wpAny_mono (Q := fun v s' => v = .ref h.objs.size ∧ s' = ⟨h.push (bndObj T id x), g, d, t + 1, os⟩) (E := fun _ _ => False)
    (wpAny_call_entry F.ks_slot_super_ga (hT _) F.ks_entry_super_ga (super_ga hdesc hso hno hC hl X hf hi hxC hn ⟨_, rfl, rfl, rfl⟩) (F.ks_gaArgs_super _ _)) (fun v s' hv => ?_) fun _ _ z => z.elim
  obtain ⟨rfl, rfl⟩ := hv
  exact wpAny_pure (wpAny_pure hq)
end
end Mine
end
section -- B35
open PySem PySem.W PySem.Calls PyProof.Rows Builtin
set_option Elab.async false
set_option maxRecDepth 100000
set_option linter.unusedVariables false
namespace Mine
noncomputable def sigPop : Manifest.Signature := match Manifest.signature? "list.pop" with | some s => s | none => ⟨.hand, "", "", .none, []⟩
theorem sig_pop : Manifest.signature? "list.pop" = some sigPop := by kernel_rfl
theorem chk_pop (a : Value) : Bind.checkArgs "list.pop" { sigPop with full := "_Accumulator.pop" } ⟨[a], []⟩ = pure () := by kernel_rfl
theorem chk_len (a : Addr) : checkBoundCall "list.__len__" ⟨[.ref a], []⟩ = pure () := by kernel_rfl
theorem chk_init (a : Addr) : checkBoundCall "list.__init__" ⟨[.ref a], []⟩ = pure () := by kernel_rfl
theorem kind_pop : builtinKind "list.pop" = some .method := by decide +kernel
theorem last_pop : Bind.lastOf "list.pop" = "pop" := by decide +kernel
theorem va_pop : Manifest.varargsMethods.contains "list.pop" = false := by decide +kernel
section
variable {P : Program} {w : World} {A : Around} {E : Value → Shared → Prop} {s : Shared} {K : Frag}
theorem check_pop {x Cc : Addr} {ox : Obj} {od : Option Obj} {cd : ClassData} {Q : Unit → Shared → Prop} (X : K.In s.heap) (I : InstAt s.heap x ox Cc od) (hc : clsIn K Cc = some cd) (hq : cd.qualname.toString = "_Accumulator") (ht : typeIn K (.ref Cc) = some (.type "type"))
    (hm : mroIn K Cc (.type "module") = some false) (hnc : ∀ c, ox.data ≠ .cls c) (h : Q () s) : wpAny (model P w) A (checkBoundCall "list.pop" ⟨[.ref x], []⟩) Q E s := by
  obtain ⟨hh, g, d, t, os⟩ := s
  unfold checkBoundCall
  rw [sig_pop, kind_pop, last_pop]
  dsimp only
  rw [if_neg (by decide)]
  have LM : Looks (model P w) hh (isInstance (.ref x) (.type "module")) false := I.type.andThen (looks_mroIn X hm)
  refine wpAny_bind (LM.at ?_)
  rw [va_pop]
  rw [if_neg (by decide)]
  refine wpAny_bind (ks_wpAny_isType_inst I.at_ hnc ?_)
  rw [if_neg (by decide)]
  refine wpAny_bind (I.type.here ?_)
  dsimp only
  refine wpAny_bind ((looks_clsIn X hc).here ?_)
  rw [hq]
  refine wpAny_bind ((looks_typeIn X ht).here ?_)
  rw [if_pos (by decide)]
  exact wpAny_of_eq (chk_pop (.ref x)) h
theorem call_bnd {T id : String} {b x : Addr} {bi : Builtin} {Q : Value → Shared → Prop} (hT : T = "method-wrapper" ∨ T = "builtin_function_or_method") (hb : s.heap.get? b = some (bndObj T id x)) (hp : plainId id = true) (he : entryFor table id = some bi)
    (hck : ∀ {Q' : Unit → Shared → Prop} {E' : Value → Shared → Prop}, Q' () s → wpAny (model P w) A.in1 (checkBoundCall id ⟨[.ref x], []⟩) Q' E' s)
    (h : wpAny (model P w) A.in1 (bi ⟨[.ref x], []⟩) (fun fin s' => ∃ v, fin = .done (.ret v) ∧ Q v s') E s) : wpAny (model P w) A (call (.ref b) []) Q E s := by
  refine wpAny_call (codeAny_of_tree ?_)
  show wpAny _ A.in1 (callAny (.ref b) ⟨[], []⟩) _ _ _
  unfold callAny
  refine wpAny_bind (wpAny_load hb ?_)
  have e1 : ((Value.type T == Value.type "method") || (Value.type T == Value.type "builtin_function_or_method") || (Value.type T == Value.type "method-wrapper")) = true := by rcases hT with rfl | rfl <;> decide
  have e2 : (Value.type T != Value.type "method") = true := by rcases hT with rfl | rfl <;> decide
  show wpAny _ _ (if ((Value.type T == Value.type "method") || (Value.type T == Value.type "builtin_function_or_method") || (Value.type T == Value.type "method-wrapper")) = true then _ else _) _ _ _
  rw [if_pos e1]
  show wpAny _ _ (if (Value.type T != Value.type "method") = true then _ else _) _ _ _
  rw [if_pos e2]
  refine wpAny_bind (hck (wpAny_bind (wpAny_pure ?_)))
  refine wpAny_pure ?_
  refine ⟨plainId_quiet hp _, codeAny_builtin he ?_⟩
  rw [Around.under_plainId hp _]
  refine wpAny_mono h (fun fin s' hf => ?_) fun _ _ z => z
  obtain ⟨v, rfl, hv⟩ := hf
  exact hv
theorem callWith_bnd {T id : String} {b x : Addr} {pos : Pos} {env : Env} {Q : Value → Shared → Prop} (hT : T = "method-wrapper" ∨ T = "builtin_function_or_method") (hb : s.heap.get? b = some (bndObj T id x)) 
    (h : wpAny (model P w) A (call (.ref b) []) Q E s) : wpAny (model P w) A (callWith pos (.ref b) [] (backTo pos (starEach [] env)) []) Q E s := by
  show wpAny (model P w) A (callWith pos (.ref b) [] [] []) Q E s
  unfold callWith
  refine wpAny_bind (wpAny_holding (PyProof.Rows.evalArgs_none (wpAny_bind (wpAny_standAt ?_))))
  simp only [List.any_nil, Bool.or_false]
  refine wpAny_bind (m := keeperOf (.ref b)) ?_
  unfold keeperOf
  refine wpAny_bind (wpAny_load hb ?_)
  have e1 : ((Value.type T == Value.type "builtin_function_or_method") || (Value.type T == Value.type "method-wrapper")) = true := by rcases hT with rfl | rfl <;> decide
  have e2 : (Value.type T != Value.type "method") = true := by rcases hT with rfl | rfl <;> decide
  simp only [e2, e1, if_true]
  refine wpAny_pure ?_
  exact wpAny_bind (wpAny_mono h (fun r s₂ hr => wpAny_bind (wpAny_holding (wpAny_point (wpAny_pure hr)))) fun _ _ x => x)
end
end Mine
end
section -- B36
open PySem PySem.W PySem.Calls PyProof.Rows Builtin
set_option Elab.async false
set_option maxRecDepth 100000
set_option linter.unusedVariables false
namespace Mine
section
variable {P : Program} {w : World} {K : Frag} {sc : Scope} {C : Ctxt w K sc} {ρ ρ' : Frame} {σ σ' τ : Ledger} {s : Shared}
theorem at_superC {body : List Stmt} {p0 p1 apos pos : Pos} {name : Str} {f cda cc Cc d : Addr} {fd : FuncData} {oc : Value} {od : Option Addr} {osl : Array (Option Value)} {ar : Arg} {xs : List AV} {es : List (Str × AV)} {x : Addr} {T id : String} {pl : Sem Bool} {Φ : AV → Frame → Ledger → Prop}
    (hT : T = "method-wrapper" ∨ T = "builtin_function_or_method") (hdesc : Desc id T) (hmeth : ks_superIn K Cc Cc name = some (some (.builtin id))) (hop : nsIn K cStatics "thirdparty.any" = some none) (hlist : mroIn K Cc (.type "list") = some true)
    (hf : K.lookup f = some ⟨oc, od, .func fd, osl⟩) (henv : C.env.func = some f) (hcode : C.env.code = .ref cda) (hcells : C.env.cells = [(("__class__" : Str), cc)])
    (hp : (fd.params.posonlyargs ++ fd.params.args).head? = some ar) (hself : (ar.arg, some (.ref x)) ∈ ρ) (hx : (x, .acc Cc d xs) ∈ σ) (hd : (d, .dict es) ∈ σ)
    (hfile : mainFileIs P K cda = true) (hcell : cellIs K cc Cc = true) (hD : (clsIn K Cc).isSome = true) (hsub : mroIn K Cc (.ref Cc) = some true)
    (hsuper : nsIn K mainGlobals "super" = some none) (hat : (name == ("__class__" : Str)) = false) (hks : sc.names.lookup ("super" : Str) = some .globalImplicit) (hkc : sc.names.lookup ("__class__" : Str) = some .free) (hka : sc.names.lookup ar.arg = some .local)
    (htop : (P.main.scope.names.lookup ("super" : Str)).isSome = false) (hboot : bootBuiltins "super" = some (.type "super"))
    (h : ∀ so b, WV P C ρ ((b, .raw (bndObj T id x)) :: (so, .raw (ks_superObj Cc x Cc)) :: σ) (call (.ref b) []) Φ)
    (he : eval (.Call (.Attribute (.Call (.Name "super" p0) [] [] p1) name apos) [] [] pos) C.env = (do
      let ov ← attributeBase (.Call (.Name "super" p0) [] [] p1) name C.env (eval (.Call (.Name "super" p0) [] [] p1) C.env)
      standAt apos.atName
      let (f, first) ← holding [ov] (getMethod ov name pl)
      callWith pos f first (backTo pos (starEach [] C.env)) []) := by rfl) :
    WAt P body AV.is C ρ σ (eval (.Call (.Attribute (.Call (.Name "super" p0) [] [] p1) name apos) [] [] pos) C.env) Φ := by
  intro τ s Q E S k
  refine ks_wpAt_MethodCall (pl := pl) ?_ he
  refine super_base (attr := name) (Φ := fun a ρ1 σ1 => ∃ so, a = .ref so ∧ ρ1 = ρ ∧ σ1 = (so, .raw (ks_superObj Cc x Cc)) :: σ) hf henv hcode hcells hp hself hx hd hfile hcell hD hsub hsuper hat hks hkc hka htop hboot (fun so => ⟨so, rfl, rfl, rfl⟩) τ s _ E S fun v a ρ1 σ1 s1 r p1 S1 => ?_
  obtain ⟨so, rfl, rfl, rfl⟩ := p1
  cases r
  have X := S1.XH
  obtain ⟨vs, n, ds, m', I, -, -⟩ := S1.acc (.tail _ hx) (.tail _ hd)
  obtain ⟨ob, hso, e⟩ := S1.get (.head _)
  cases e
  obtain ⟨cd, hc⟩ := Option.isSome_iff_exists.mp hD
  have hmeth' := hmeth
  unfold ks_superIn at hmeth
  rw [hc] at hmeth
  have hi : Looks (model P w) s1.heap (isInstance (.ref x) (.type "list")) true := I.type.andThen (looks_mroIn X hlist)
  obtain ⟨hh, g, dd, t, os⟩ := s1
  refine getMethod_superB hdesc hso (looks_opaque X hop) (l₀ := cd.mro) ?_ rfl X hmeth hi (ks_ne X I hc) hat ?_
  · exact fun A Q E s k q => wpAny_bind ((looks_clsIn X hc) A _ E s k (wpAny_pure q))
  · have S2 := S1.push (n := t + 1) (o' := .raw (bndObj T id x)) (ob := bndObj T id x) rfl rfl
    obtain ⟨ob2, hb, e⟩ := S2.led _ (.head _) |>.1
    cases e
    exact callWith_bnd hT hb (h so _ τ _ Q E S2 k)
theorem bnd_len {b x Cc d : Addr} {xs : List AV} {es : List (Str × AV)} {Φ : AV → Frame → Ledger → Prop} (hb : (b, .raw (bndObj "method-wrapper" "list.__len__" x)) ∈ σ) (hx : (x, .acc Cc d xs) ∈ σ) (hd : (d, .dict es) ∈ σ) (h : Φ (.int xs.length) ρ σ) :
    WV P C ρ σ (call (.ref b) []) Φ := by
  intro τ s Q E S k
  obtain ⟨vs, n, ds, m', I, hA, -⟩ := S.acc hx hd
  obtain ⟨ob, hg, e⟩ := S.get hb
  cases e
  refine call_bnd (.inl rfl) hg slot_list_len.plain entry_list_len (fun q => wpAny_of_eq (chk_len x) q) ?_
  unfold Builtin.«list.__len__»
  refine wpAny_bind (wpAny_of_eq (a := (.ref x, [])) (by first | rfl | kernel_rfl) ?_)
  dsimp only
  unfold seqSize
  refine wpAny_bind (wpAny_bind (wpAny_loadPart I.at_ ?_))
  refine wpAny_pure ?_
  refine wpAny_bind (wpAny_mkInt (wpAny_pure ⟨_, rfl, ?_⟩))
  exact k _ (.int xs.length) ρ σ _ ⟨s.toks, by rw [hA.length]; rfl⟩ h (S.toks _)
theorem bnd_init {b x Cc d : Addr} {es : List (Str × AV)} {Φ : AV → Frame → Ledger → Prop} (hb : (b, .raw (bndObj "method-wrapper" "list.__init__" x)) ∈ σ) (hx : (x, .acc Cc d []) ∈ σ) (hd : (d, .dict es) ∈ σ) (h : Φ .none ρ σ) :
    WV P C ρ σ (call (.ref b) []) Φ := by
  intro τ s Q E S k
  obtain ⟨vs, n, ds, m', I, hA, -⟩ := S.acc hx hd
  cases hA
  obtain ⟨ob, hg, e⟩ := S.get hb
  cases e
  refine call_bnd (bi := Builtin.«list.__init__») (.inl rfl) hg (by decide +kernel) (entryFor_of_tree (by kernel_rfl)) (fun q => wpAny_of_eq (chk_init x) q) ?_
  unfold Builtin.«list.__init__»
  dsimp only
  refine wpAny_bind (?_ : wpAny _ _ (seqItems? (.ref x) >>= _) _ _ _)
  refine wpAny_bind (wpAny_seqItems I.at_ rfl (wpAny_pure ?_))
  refine wpAny_bind (wpAny_updateSeq I.at_ rfl ?_ (by simp) (by simp))
  refine wpAny_bind (wpAny_pure (wpAny_pure ⟨_, rfl, ?_⟩))
  refine k .none .none ρ σ _ rfl h ?_
  have e : s.heap.update x (Obj.mapSeq fun _ => #[]) = s.heap.update x (Obj.mapSeq fun _ => #[]) := rfl
  have hput : PutL x (.acc Cc d []) (.acc Cc d []) (σ ++ τ) (σ ++ τ) := by
    have : ∀ l : Ledger, (x, AObj.acc Cc d []) ∈ l → PutL x (.acc Cc d []) (.acc Cc d []) l l := by
      intro l hl
      induction l with
      | nil => cases hl
      | cons p r ih =>
        rcases List.mem_cons.mp hl with rfl | hl
        · exact .head
        · exact .tail (ih hl)
    exact this _ (List.mem_append_left _ hx)
  exact S.put (n := s.toks) hput (Heap.SameBut.update ..) ((Heap.get?_update_self _ I.at_ rfl).trans rfl) ⟨[], _, rfl, .nil⟩
theorem eraseLast (l : List Value) (v : Value) : (⟨l ++ [v]⟩ : Array Value).eraseIdxIfInBounds l.length = ⟨l⟩ := by
  simp [Array.eraseIdxIfInBounds, List.eraseIdx_append_of_length_le]
theorem All2.snoc {α β : Type} {R : α → β → Prop} {a : α} : ∀ {l : List α} {m : List β}, All2 R (l ++ [a]) m → ∃ m' b, m = m' ++ [b] ∧ All2 R l m' ∧ R a b
  | [], m, h => by cases h with | cons h1 h2 => cases h2; exact ⟨[], _, rfl, .nil, h1⟩
  | x :: l, m, h => by
    cases h with | cons h1 h2 => exact (by
      obtain ⟨m', b, rfl, h3, h4⟩ := All2.snoc h2
      exact ⟨_ :: m', b, rfl, .cons h1 h3, h4⟩)
theorem bnd_pop {b x Cc d : Addr} {xs : List AV} {a : AV} {es : List (Str × AV)} {cd : ClassData} {Φ : AV → Frame → Ledger → Prop} (hc : clsIn K Cc = some cd) (hq : cd.qualname.toString = "_Accumulator") (ht : typeIn K (.ref Cc) = some (.type "type")) (hm : mroIn K Cc (.type "module") = some false)
    (hb : (b, .raw (bndObj "builtin_function_or_method" "list.pop" x)) ∈ σ) (hd : (d, .dict es) ∈ σ) (U : PutL x (.acc Cc d (xs ++ [a])) (.acc Cc d xs) σ σ') (hz : xs.length < 1000) (h : Φ a ρ σ') :
    WV P C ρ σ (call (.ref b) []) Φ := by
  intro τ s Q E S k
  obtain ⟨vs, n, ds, m', I, hA, -⟩ := S.acc U.mem hd
  obtain ⟨us, v, rfl, hA', hv⟩ := All2.snoc hA
  obtain ⟨ob, hg, e⟩ := S.get hb
  cases e
  have hl := hA'.length
  have hsz := sizeLine_eq
  refine call_bnd (bi := Builtin.«list.pop») (.inr rfl) hg (by decide +kernel) (entryFor_of_tree (by kernel_rfl)) (fun q => check_pop S.XH I hc hq ht hm (fun c e => nomatch e) q) ?_
  unfold Builtin.«list.pop»
  refine wpAny_bind (wpAny_of_eq (a := (.ref x, [])) (by first | rfl | kernel_rfl) ?_)
  dsimp only
  refine wpAny_bind (wpAny_pure ?_)
  rw [if_neg (by decide +kernel)]
  refine wpAny_bind (?_ : wpAny _ _ (seqItems? (.ref x) >>= _) _ _ _)
  refine wpAny_bind (wpAny_seqItems I.at_ rfl (wpAny_pure ?_))
  rw [if_neg (by simp)]
  have hi : (seqIndex? (-1) (⟨us ++ [v]⟩ : Array Value).size) = some us.length := by
    unfold seqIndex?
    simp
    omega
  rw [hi]
  have hg2 : (⟨us ++ [v]⟩ : Array Value)[us.length]? = some v := by simp
  simp only [Option.bind_some, hg2, Option.map_some]
  have key : ∃ nn, Obj.mapSeq (fun x => x.eraseIdxIfInBounds us.length) { cls := .ref Cc, dict := some d, data := .seq ⟨us ++ [v]⟩ n } = { cls := .ref Cc, dict := some d, data := .seq ⟨us⟩ nn } := by
    refine ⟨?_, ?_⟩
    rotate_left
    · unfold Obj.mapSeq
      simp only [eraseLast]
      rfl
  refine wpAny_bind (wpAny_updateSeq I.at_ rfl (wpAny_pure ⟨v, rfl, ?_⟩) (by simp; omega) (by rw [eraseLast]; simp; omega))
  refine k v a ρ σ' _ hv h (S.put (n := s.toks) (U.app τ) (Heap.SameBut.update ..) ((Heap.get?_update_self _ I.at_ rfl).trans rfl) (let ⟨nn, e⟩ := key; ⟨us, nn, e, hA'⟩))
end
end Mine
end
section -- B37
open PySem PySem.W PySem.Calls PyProof.Rows
set_option Elab.async false
set_option maxRecDepth 100000
set_option linter.unusedVariables false
namespace Mine
section
variable {P : Program} {w : World} {A : Around} {E : Value → Shared → Prop} {s : Shared} {I : Addr} {fp wr : List Addr} {G : Array GenState → Array GenState → Prop} {n : Nat} {Pv : Nat → Value → Prop} {Ss : Nat → Shared → Prop} {R : Result → Shared → Prop}
theorem sum_loop (W : WalksS P w A.in1 I fp wr G n Pv Ss) (val pre : Nat → Int) (hpre : ∀ j, pre (j + 1) = pre j + val j) (hval : ∀ i v, Pv i v → ∃ t, v = .int (val i) t) (hfit : ∀ j, j < n → InLong (val j) ∧ InLong (pre (j + 1))) (S : Addr) (hSf : S ∉ fp) :
    ∀ (k i : Nat) (s : Shared) (tA : Tok) (c : Nat), n - i = k → i ≤ n → Ss i s → s.heap.get? S = some { cls := .type "list", dict := none, data := .seq #[.int (pre i) tA] c, slots := #[] } →
    (∀ s' t', Moved (S :: wr) G s s' → R (.ok (.ret (.int (pre n) t'))) s') → codeAny (model P w) A (.builtin "sum.loop" ⟨[.ref I, .ref S, rawInt 0, rawInt 0], []⟩) R s := by
  have hSw : S ∉ wr := fun h => hSf (W.sub _ h)
  have hsub : ∀ b ∈ wr, b ∈ S :: wr := fun b hb => List.mem_cons_of_mem _ hb
  intro k
  induction k with
  | zero =>
    intro i s tA c hk hi hst hS hR
    have hin : i = n := by omega
    subst hin
    refine codeAny_builtin F.entry_sum_loop ?_
    rw [Around.under_plainId F.plain_sum_loop _]
    show wpAny _ A.in1 (seqItems? (.ref S) >>= _) _ _ s
    refine wpAny_bind (wpAny_seqItems hS rfl ?_)
    show wpAny _ A.in1 (tryCatch (pyNext (.ref I)) _ >>= _) _ _ s
    refine wpAny_bind (wpAny_tryCatch (W.done s _ _ hst fun s' hm => ?_))
    exact wpAny_pure (hR s' tA (hm.mono hsub))
  | succ k ih =>
    intro i s tA c hk hi hst hS hR
    have hlt : i < n := by omega
    refine codeAny_builtin F.entry_sum_loop ?_
    rw [Around.under_plainId F.plain_sum_loop _]
    show wpAny _ A.in1 (seqItems? (.ref S) >>= _) _ _ s
    refine wpAny_bind (wpAny_seqItems hS rfl ?_)
    show wpAny _ A.in1 (tryCatch (pyNext (.ref I)) _ >>= _) _ _ s
    refine wpAny_bind (wpAny_tryCatch (W.item i s _ _ hlt hst fun v s' hP hst' hm => ?_))
    obtain ⟨t, rfl⟩ := hval i v hP
    have hS' := hm.heap S _ hSw hS
    obtain ⟨⟨f1, f2⟩, f3, f4⟩ := hfit i hlt
    rw [hpre] at f3 f4
    have hc : ((decide (-(2 ^ 63) ≤ val i) && decide (val i < 2 ^ 63)) && (decide (-(2 ^ 63) ≤ pre i + val i) && decide (pre i + val i < 2 ^ 63))) = true := by
      simp only [Bool.and_eq_true, decide_eq_true_eq]
      exact ⟨⟨f1, f2⟩, f3, f4⟩
    show wpAny _ A.in1 (if (_ : Bool) = true then (mkInt (pre i + val i) >>= _) else _) _ _ _
    split
    · refine wpAny_bind (wpAny_mkInt ?_)
      show wpAny _ A.in1 (updateSeq S (fun _ => #[.int (pre i + val i) s'.toks]) >>= _) _ _ _
      refine wpAny_bind ?_
      have ih' := ih (i + 1)
      rw [hpre] at ih'
      refine wpAny_updateSeq hS' rfl (wpAny_pure ⟨plainId_quiet F.plain_sum_loop _, ih' _ s'.toks _ (by omega) hlt (W.frame _ s' _ _ hst' (by first | exact Nat.le_refl _ | exact Nat.le_succ _ | omega) fun b hb o e => ?_) (Heap.get?_update_self _ hS' rfl) fun s'' t'' hm'' => ?_⟩)
      · exact (Heap.get?_update_other _ _ (fun h : S = b => hSf (by rw [h]; exact hb))).trans e
      · refine hR s'' t'' (Moved.trans W.gtrans ((hm.mono hsub).then_heap (by first | exact Nat.le_refl _ | exact Nat.le_succ _ | omega) fun b o hb e => ?_) hm'')
        exact (Heap.get?_update_other _ _ (fun h : S = b => hb (by rw [h]; exact List.mem_cons_self))).trans e
    · rename_i hneg
      exact absurd hc hneg
theorem args_sum2 (a b : Value) : argsOk "sum" ⟨[a, b], []⟩ := by unfold argsOk; kernel_rfl
theorem call_sum2 {x : Value} {st : Int} {tk : Tok} {Q : Value → Shared → Prop} (hst0 : InLong st)
    (h : wpAny (model P w) A.in1 (pyIter x) (fun it s₂ => ∃ (I : Addr) (fp wr : List Addr) (G : Array GenState → Array GenState → Prop) (n : Nat) (Pv : Nat → Value → Prop) (Ss : Nat → Shared → Prop) (val pre : Nat → Int), it = .ref I ∧ WalksS P w A.in1 I fp wr G n Pv Ss ∧ Ss 0 s₂ ∧ (∀ b ∈ fp, b < s₂.heap.objs.size) ∧
      (∀ i v, Pv i v → ∃ t, v = .int (val i) t) ∧ (∀ j, pre (j + 1) = pre j + val j) ∧ pre 0 = st ∧ (∀ j, j < n → InLong (val j) ∧ InLong (pre (j + 1))) ∧
      ∀ s' t', Moved wr G s₂ s' → Q (.int (pre n) t') s') E s) :
    wpAny (model P w) A (call (.builtin "sum") [x, .int st tk]) Q E s := by
  refine call_function_tree F.kind_sum F.plain_sum F.entry_sum (args_sum2 _ _) ?_
  unfold Builtin.«sum»
  simp only [List.length_cons, List.length_nil]
  rw [if_neg (by decide)]
  refine wpAny_bind (wpAny_of_eq (show Builtin.Builtins.bindParams "sum" ["start"] 0 ⟨[.int st tk], []⟩ = pure [some (.int st tk)] from rfl) ?_)
  refine wpAny_bind (wpAny_mono h (fun it s₂ h₂ => ?_) fun _ _ e => e)
  obtain ⟨I, fp, wr, G, n, Pv, Ss, val, pre, rfl, W, hst, hfp, hval, hpre, hp0, hfit, hQ⟩ := h₂
  have hfl : (decide (-(2 ^ 63) ≤ st) && decide (st < 2 ^ 63)) = true := by
    obtain ⟨a, b⟩ := hst0
    simp only [Bool.and_eq_true, decide_eq_true_eq]
    exact ⟨a, b⟩
  show wpAny _ _ (if (decide (-(2 ^ 63) ≤ st) && decide (st < 2 ^ 63)) = true then _ else _) _ _ _
  rw [if_pos hfl]
  refine wpAny_bind (wpAny_rule (wpAny_bind (wpAny_mkInt (wpAny_bind (wpAny_pure ?_)))))
  simp only [List.forIn_cons, List.forIn_nil]
  refine wpAny_bind (wpAny_bind (wpAny_bind (wpAny_isInstance (T := "int") (b := false) (typeIs_int _ _ _) PySem.sub_int_str ?_)))
  simp only [Bool.false_eq_true, if_false]
  refine wpAny_pure (wpAny_bind (wpAny_bind (wpAny_isInstance (T := "int") (b := false) (typeIs_int _ _ _) PySem.sub_int_bytes ?_)))
  simp only [Bool.false_eq_true, if_false]
  refine wpAny_pure (wpAny_bind (wpAny_bind (wpAny_isInstance (T := "int") (b := false) (typeIs_int _ _ _) PySem.sub_int_bytearray ?_)))
  simp only [Bool.false_eq_true, if_false]
  refine wpAny_pure (wpAny_pure ?_)
  refine wpAny_bind (wpAny_newObj_type ?_)
  have hSf : s₂.heap.objs.size ∉ fp := fun hm => Nat.lt_irrefl _ (hfp _ hm)
  refine wpAny_pure ⟨plainId_quiet F.plain_sum_loop _, sum_loop W val pre hpre hval hfit s₂.heap.objs.size hSf n 0 _ s₂.toks 0 rfl (Nat.zero_le _)
    (W.frame 0 s₂ _ _ hst (by first | exact Nat.le_refl _ | exact Nat.le_succ _ | omega) fun b _ o e => Heap.get?_push_of_some _ e) (by rw [hp0]; exact Heap.get?_push_size _ rfl) fun s' t' hm => ?_⟩
  exact hQ s' t' (hm.drop_new (by first | exact Nat.le_refl _ | exact Nat.le_succ _ | omega))
end
end Mine
end
section -- B38
open PySem PySem.W PySem.Calls PyProof.Rows
set_option Elab.async false
set_option maxRecDepth 100000
set_option linter.unusedVariables false
namespace Mine
theorem choose_each {α β : Type} {r : α → β → Prop} (h : ∀ x, ∃ y, r x y) : ∃ f : α → β, ∀ x, r x (f x) := ⟨fun x => (h x).choose, fun x => (h x).choose_spec⟩
theorem passing_all (n : Nat) : passing (fun _ => true) n 0 = List.range n := by
  unfold passing; simp
/-- what the element of a generator expression over pairs is asked for -/
noncomputable def GenElt (P : Program) {w : World} {K : Frag} {sc : Scope} (C : Ctxt w K sc) (scope : Scope) (xa xb : Str) (elt : Expr) (F : Str → Str → Value → Prop) : Prop :=
  ∀ (cenv : Env) (A' : Around) (E' : Value → Shared → Prop) (f p : Str) (tf tp : Tok) (s₂ : Shared) (m₂ : Str → Option Value), f.length ≤ 1000 → p.length ≤ 1000 → A'.handled = none → cenv.scope = scope → cenv.globals = mainGlobals → cenv.builtins = builtinsNs →
    s₂.heap.Ns cenv.locals m₂ → m₂ xa = some (.str f tf) → m₂ xb = some (.str p tp) → (∀ b o, C.h₀.get? b = some o → s₂.heap.get? b = some o) →
    wpAny (model P w) A' (eval elt cenv) (fun y s₃ => F f p y ∧ Keeps s₂ s₃) E' s₂
section
variable {P : Program} {w : World} {K : Frag} {sc : Scope} {C : Ctxt w K sc} {ρ ρ' : Frame} {σ σ' τ : Ledger} {s : Shared}
/-- a generator in the state s -/
noncomputable def GenR (P : Program) {w : World} {K : Frag} {sc : Scope} (C : Ctxt w K sc) (ρ : Frame) (σ : Ledger) (a : Addr) (n : Nat) (F : Nat → Value → Prop) (s : Shared) : Prop :=
  ∃ fp wr g Ss, WalksS P w C.A.in4 a fp wr (GenOnlyQ g) n F Ss ∧ Ss 0 s ∧ (∀ i s', Ss i s' → s'.TypeIs (.ref a) "generator") ∧ a ∈ fp ∧ (∀ b ∈ fp, b < s.heap.objs.size) ∧ ∀ s', Moved wr (GenOnlyQ g) s s' → St C ρ σ s'
theorem St.moved {wr : List Addr} {g : Nat} {s' : Shared} (S : St C ρ σ s) (hm : Moved wr (GenOnlyQ g) s s') (hL : ∀ b ∈ wr, C.L < b) (hσ : ∀ b ∈ wr, ∀ p ∈ σ, p.1 ≠ b) : St C ρ σ s' := by
  obtain ⟨m, F, hmo⟩ := S.fr
  refine ⟨⟨m, F.moved hm hL, hmo⟩, fun p hp => ?_, S.nd, S.kn, hm.os.trans S.os, S.gens.movedS hm⟩
  obtain ⟨⟨o, e, i⟩, r⟩ := S.led p hp
  exact ⟨⟨o, hm.heap _ _ (fun hb => hσ _ hb p hp rfl) e, i⟩, r⟩
theorem WalksS.monoP {A : Around} {I : Addr} {fp wr : List Addr} {G : Array GenState → Array GenState → Prop} {n : Nat} {Pv Pv' : Nat → Value → Prop} {Ss : Nat → Shared → Prop} (W : WalksS P w A I fp wr G n Pv Ss) (h : ∀ i v, i < n → Pv i v → Pv' i v) : WalksS P w A I fp wr G n Pv' Ss where
  sub := W.sub
  grefl := W.grefl
  gtrans := W.gtrans
  frame := W.frame
  item := fun i s Q E hi st hQ => W.item i s Q E hi st fun v s' hP => hQ v s' (h i v hi hP)
  done := W.done
  self := W.self
theorem all2_refs {α : Type} (f : α → Addr) : ∀ {l : List α} {vs : List Value}, All2 AV.is (l.map fun i => AV.ref (f i)) vs → vs = l.map fun i => Value.ref (f i)
  | [], _, .nil => rfl
  | i :: r, _, .cons h1 h2 => by cases h1; rw [all2_refs f h2]; rfl
theorem gen_acc {slf xa xb : Str} {ps pa pb pt pos : Pos} {kt : Nat} {scope : Scope} {elt : Expr} {x Cc d cd T : Addr} {items : List (Addr × Str × Str)} {es : List (Str × AV)} {F : Str → Str → Value → Prop} {Q : Value → Shared → Prop} {E : Value → Shared → Prop}
    (S : St C ρ (σ ++ τ) s) (hself : (slf, some (.ref x)) ∈ ρ) (hslf : sc.names.lookup slf = some .local) (hdbg : (slf == ("__debug__" : Str)) = false) (hx : (x, .acc Cc d (items.map fun i => .ref i.1)) ∈ σ) (hdd : (d, .dict es) ∈ σ) (hts : ∀ i ∈ items, (i.1, AObj.tuple [.str i.2.1, .str i.2.2]) ∈ σ) (hln : ∀ i ∈ items, i.2.1.length ≤ 1000 ∧ i.2.2.length ≤ 1000)
    (hiter : findIn K (.ref Cc) "__iter__" = some (some (.builtin "list.__iter__"))) (hlist : mroIn K Cc (.type "list") = some true) (hc : C.env.code = .ref cd) (htab : codeTab K cd T = true) (hT : (T, .table) ∈ σ)
    (hclos : closureFor scope C.env = pure []) (hco : scope.isCoroutine = false) (hcell : ∀ y ∈ scope.names, y.2 ≠ .cell) (h0 : scope.names.lookup (".0" : Str) = some NameKind.local)
    (hxa : scope.names.lookup xa = some .local) (hxb : scope.names.lookup xb = some .local) (hab : xa ≠ xb) (hkind : scope.kind = .function) (helt : GenElt P C scope xa xb elt F)
    (h : ∀ a s₅, St C ρ (σ ++ τ) s₅ → GenR P C ρ (σ ++ τ) a items.length (fun j y => ∃ i, items[j]? = some i ∧ F i.2.1 i.2.2 y) s₅ → Q (.ref a) s₅)
    (hs : ∀ v, genFold (.Name slf ps) C.env v = pure v) :
    wpAny (model P w) C.A (eval (.GeneratorExp elt [⟨.Tuple [.Name xa pa, .Name xb pb] kt pt, .Name slf ps, [], 0⟩] scope pos) C.env) Q E s := by
  refine wpAny_GeneratorExp_walksQT C.hand hco hclos hcell h0 hxa hxb hab hkind (by have := C.room; omega) ?_ hs
  refine ev_loc (P := P) hself (Φ := fun a ρ1 σ1 => a = .ref x ∧ ρ1 = ρ ∧ σ1 = σ) ⟨rfl, rfl, rfl⟩ hslf hdbg τ s _ E S fun v a ρ1 σ1 s1 r q S1 => ?_
  obtain ⟨rfl, rfl, rfl⟩ := q
  cases r
  obtain ⟨vs0, n0, ds, m', I, -, -⟩ := S1.acc hx hdd
  refine iter_acc S1.XH I hiter hlist ?_
  have S2 := S1.push (n := s1.toks) (o' := .raw { cls := .type "list_iterator", data := .fields #[.ref x, .int 0 0] }) (ob := { cls := .type "list_iterator", data := .fields #[.ref x, .int 0 0] }) rfl rfl
  have nl : ∀ {ρ σ s}, St C ρ σ s → s.heap.NoLimit := fun S => let ⟨_, F, _⟩ := S.fr; C.nolim.keeps F.keep
  refine ⟨nl S2, ?_⟩
  refine gen_code (σ := (s1.heap.objs.size, .raw { cls := .type "list_iterator", data := .fields #[.ref x, .int 0 0] }) :: σ1) S2 hc htab (.tail _ hT) fun code h4 n4 S4 => ?_
  rw [C.hG]
  refine builtins_for S4 ?_
  -- the data
  obtain ⟨vs, n1, ds4, m4, I4, hA, -⟩ := S4.acc (σ := (s1.heap.objs.size, .raw { cls := .type "list_iterator", data := .fields #[.ref x, .int 0 0] }) :: σ1) (.tail _ hx) (.tail _ hdd)
  have hvs : vs = items.map fun i => .ref i.1 := all2_refs (fun i : Addr × Str × Str => i.1) hA
  subst hvs
  have hlen : (⟨items.map fun i => Value.ref i.1⟩ : Array Value).size = items.length := by simp
  have htup : ∀ j : Nat, ∃ q : (Str × Tok) × (Str × Tok), (q.1.1.length ≤ 1000 ∧ q.2.1.length ≤ 1000) ∧ ∀ i : Addr × Str × Str, items[j]? = some i → q.1.1 = i.2.1 ∧ q.2.1 = i.2.2 ∧ h4.IsTuple i.1 #[.str q.1.1 q.1.2, .str q.2.1 q.2.2] := by
    intro j
    cases e : items[j]? with
    | none => exact ⟨((⟨#[]⟩, 0), (⟨#[]⟩, 0)), ⟨by show 0 ≤ _; omega, by show 0 ≤ _; omega⟩, fun i h => nomatch h⟩
    | some i =>
      have hi := S4.isTup (σ := (s1.heap.objs.size, .raw { cls := .type "list_iterator", data := .fields #[.ref x, .int 0 0] }) :: σ1) (.tail _ (hts i (List.mem_of_getElem? e)))
      obtain ⟨us, ht, hA⟩ := hi
      obtain ⟨a, b, rfl, ⟨t, rfl⟩, ⟨u, rfl⟩⟩ := hA.two
      exact ⟨((i.2.1, t), (i.2.2, u)), hln i (List.mem_of_getElem? e), fun i' h => by cases h; exact ⟨rfl, rfl, ht⟩⟩
  obtain ⟨g, hg⟩ := choose_each htup
  have hI4 : h4.get? s1.heap.objs.size = some { cls := .type "list_iterator", data := .fields #[.ref x, .int 0 0] } := by
    obtain ⟨ob, e, q⟩ := (S4.led _ (.head _)).1
    cases q; exact e
  have hIfresh : C.h₀.get? s1.heap.objs.size = none := (S4.led _ (.head _)).2.2
  have hlt : s1.heap.objs.size < h4.objs.size := Heap.lt_size hI4
  have hxI : x ≠ s1.heap.objs.size := Nat.ne_of_lt (S1.lt (List.mem_append_left _ hx))
  have hTs : ∀ (j : Nat) (i : Addr × Str × Str), items[j]? = some i → ((items[j]?.map (fun q : Addr × Str × Str => q.1)).getD 0) = i.1 := fun j i e => by rw [e]; rfl
  have hget : ∀ j : Nat, j < (⟨items.map fun i => Value.ref i.1⟩ : Array Value).size → ∃ i : Addr × Str × Str, items[j]? = some i ∧ i ∈ items := fun j hj => by
    rw [hlen] at hj
    exact ⟨items[j], List.getElem?_eq_getElem hj, List.getElem_mem hj⟩
  have h1 : ∀ j, j < (⟨items.map fun i => Value.ref i.1⟩ : Array Value).size → (⟨items.map fun i => Value.ref i.1⟩ : Array Value)[j]? = some (.ref ((items[j]?.map (fun q : Addr × Str × Str => q.1)).getD 0)) := fun j hj => by
    obtain ⟨i, e, -⟩ := hget j hj
    rw [hTs j i e]
    simp [e]
  have h2 : ∀ j, j < (⟨items.map fun i => Value.ref i.1⟩ : Array Value).size → ((items[j]?.map (fun q : Addr × Str × Str => q.1)).getD 0) ≠ s1.heap.objs.size := fun j hj => by
    obtain ⟨i, e, hi⟩ := hget j hj
    rw [hTs j i e]
    exact Nat.ne_of_lt (S1.lt (List.mem_append_left _ (hts i hi)))
  have W₀ := fun (A' : Around) (hA' : A'.handled = none) => seq_walksU (P := P) (w := w) hA' s1.heap.objs.size x hxI ⟨items.map fun i => .ref i.1⟩ (fun j => ((items[j]?.map (fun q : Addr × Str × Str => q.1)).getD 0)) (fun j => #[.str (g j).1.1 (g j).1.2, .str (g j).2.1 (g j).2.2]) h1 h2
  have h3 : ∀ k, k < (⟨items.map fun i => Value.ref i.1⟩ : Array Value).size → h4.IsTuple ((items[k]?.map (fun q : Addr × Str × Str => q.1)).getD 0) #[.str (g k).1.1 (g k).1.2, .str (g k).2.1 (g k).2.2] := fun k hk => by
    obtain ⟨i, e, hi⟩ := hget k hk
    rw [hTs k i e]
    exact ((hg k).2 i e).2.2
  refine ⟨s1.heap.objs.size, _, _, _, _, _, _, (fun _ => true), (fun j y => ∀ i : Addr × Str × Str, items[j]? = some i → F i.2.1 i.2.2 y), rfl, W₀, fun i vals e => ⟨_, _, e⟩, ⟨⟨_, hI4, rfl, rfl⟩, ⟨_, I4.at_, _, rfl⟩, h3⟩, ?_, nl S4, ?_, ?_, ?_⟩
  · intro b hb
    rcases List.mem_cons.mp hb with rfl | hb
    · exact hlt
    · rcases List.mem_cons.mp hb with rfl | hb
      · exact Heap.lt_size I4.at_
      · obtain ⟨k, hk, rfl⟩ := List.mem_map.mp hb
        obtain ⟨i, e, hi⟩ := hget k (List.mem_range.mp hk)
        obtain ⟨o, ho, -⟩ := ((hg k).2 i e).2.2
        rw [hTs k i e]
        exact Heap.lt_size ho
  · intro hm
    have e : cStatics = s1.heap.objs.size := by simpa using hm
    obtain ⟨mc, ⟨o, es', ep, ho, -⟩, -⟩ := C.nolim
    rw [e, hIfresh] at ho; cases ho
  · intro href hhref
    have kp : ∀ (s₂ : Shared), (∀ b ∈ List.range h4.objs.size, b ∉ [s1.heap.objs.size] → ∀ o, href.get? b = some o → s₂.heap.get? b = some o) → ∀ b o, C.h₀.get? b = some o → s₂.heap.get? b = some o := fun s₂ hkp b o e => by
      obtain ⟨_, F4, _⟩ := S4.fr
      have e4 : h4.get? b = some o := F4.keep b o e
      refine hkp b (List.mem_range.mpr (Heap.lt_size e4)) (fun hb => ?_) o (hhref b o e4)
      have : b = s1.heap.objs.size := by simpa using hb
      rw [this, hIfresh] at e; cases e
    refine ⟨fun A' E' i va vb s₂ m₂ hA' hP hn h1 h2 hkp => ?_, fun A' E' i va vb s₂ m₂ hA' hP hpz hn h1 h2 hkp => ?_⟩
    · exact wpAny_pure ⟨rfl, s₂.heap, s₂.toks, rfl, fun _ _ e => e⟩
    · have e1 : va = .str (g i).1.1 (g i).1.2 ∧ vb = .str (g i).2.1 (g i).2.2 := by simpa using hP
      obtain ⟨rfl, rfl⟩ := e1
      refine wpAny_mono (helt (genEnv scope [] h4.objs.size code builtinsNs C.env) A' E' _ _ _ _ s₂ m₂ (hg i).1.1 (hg i).1.2 hA' rfl C.hG rfl hn h1 h2 (kp s₂ hkp)) (fun y s₃ hy => ⟨fun it e => ?_, hy.2⟩) fun _ _ z => z
      obtain ⟨q1, q2, -⟩ := (hg i).2 it e
      rw [← q1, ← q2]; exact hy.1
  · intro a h₅ tk gs hbare hlt5 hsz5 hk5 W hat
    have S5 : St C ρ1 (σ1 ++ τ) { s1 with gens := s1.gens.push gs, toks := tk, heap := h₅ } := by
      have S4' : St C ρ1 (σ1 ++ τ) { s1 with heap := h4, toks := n4 } := by
        have : ∀ (p : Addr × AObj), p :: (σ1 ++ τ) = [] ++ [p] ++ (σ1 ++ τ) := fun _ => rfl
        rw [List.cons_append, this] at S4
        exact S4.drop
      have z := S4'.ext (n := tk) hk5
      exact ⟨z.fr, z.led, z.nd, z.kn, z.os, S1.gens.push hbare⟩
    have e : (passing (fun _ => true) (⟨items.map fun i => Value.ref i.1⟩ : Array Value).size 0).length = items.length := by rw [passing_all, List.length_range, hlen]
    rw [e] at W
    have W2 := WalksS.monoP (Pv' := fun j y => ∃ i : Addr × Str × Str, items[j]? = some i ∧ F i.2.1 i.2.2 y) W (fun j y hj hy => by
      obtain ⟨i, e, hy⟩ := hy
      rw [passing_all, List.getElem?_range (by rw [hlen]; exact hj)] at e
      cases e
      exact ⟨items[j], List.getElem?_eq_getElem hj, hy _ (List.getElem?_eq_getElem hj)⟩)
    refine h a _ S5 ⟨_, _, _, _, W2, hat, fun i s' st => st.1.typeIs, List.mem_cons_self, fun b hb => ?_, fun s' hm => S5.moved hm (fun b hb => ?_) fun b hb p hp => ?_⟩
    · show b < h₅.objs.size
      rw [hsz5]
      rcases List.mem_cons.mp hb with rfl | hb
      · exact Nat.lt_succ_self _
      · rcases List.mem_cons.mp hb with rfl | hb
        · exact Nat.lt_succ_of_lt hlt5
        · exact Nat.lt_succ_of_lt (Nat.lt_trans (List.mem_range.mp hb) hlt5)
    · obtain ⟨_, F1, _⟩ := S1.fr
      have hL := F1.ns.lt
      rcases List.mem_cons.mp hb with rfl | hb
      · exact Nat.lt_trans hL hlt
      · have : b = s1.heap.objs.size := by simpa using hb
        rw [this]; exact hL
    · have hp' := S1.lt hp
      rcases List.mem_cons.mp hb with rfl | hb
      · exact Nat.ne_of_lt (Nat.lt_trans hp' hlt)
      · have : b = s1.heap.objs.size := by simpa using hb
        rw [this]; exact Nat.ne_of_lt hp'
end
end Mine
end
section -- B39
open PySem PySem.W PySem.Calls PyProof.Rows
set_option Elab.async false
set_option maxRecDepth 100000
set_option linter.unusedVariables false
namespace Mine
section
variable {P : Program} {w : World} {K : Frag} {sc : Scope} {C : Ctxt w K sc} {ρ ρ' : Frame} {σ σ' τ : Ledger} {s : Shared}
/-- what a generator's element sees -/
structure GenSee {w : World} {K : Frag} {sc : Scope} (C : Ctxt w K sc) (scope : Scope) (cenv : Env) (h : Heap) : Prop where
  sc : cenv.scope = scope
  kind : scope.kind = .function
  g : cenv.globals = mainGlobals
  b : cenv.builtins = builtinsNs
  kp : ∀ b o, C.h₀.get? b = some o → h.get? b = some o
theorem g_glob {scope : Scope} {cenv : Env} {A' : Around} {E' : Value → Shared → Prop} {x : Str} {pos : Pos} {v : Value} {Q : Value → Shared → Prop} (X : GenSee C scope cenv s.heap) (e : nsIn K mainGlobals x = some (some v)) (hk : scope.names.lookup x = some .globalImplicit)
    (hd : (x == ("__debug__" : Str)) = false) (h : Q v s) : wpAny (model P w) A' (eval (.Name x pos) cenv) Q E' s :=
  Name_function_global (by rw [X.sc]; exact X.kind) (by unfold Env.kindOf; rw [X.sc]; exact hk) (loadGlobal_global (by rw [X.g]; exact C.G.keeps X.kp) (mg_of C.X C.G e) h) hd
theorem g_bi {scope : Scope} {cenv : Env} {A' : Around} {E' : Value → Shared → Prop} {x : Str} {pos : Pos} {v : Value} {Q : Value → Shared → Prop} (X : GenSee C scope cenv s.heap) (e : nsIn K mainGlobals x = some none) (hv : bootBuiltins x = some v) (hn : x ≠ "__name__") (hk : scope.names.lookup x = some .globalImplicit)
    (hd : (x == ("__debug__" : Str)) = false) (h : Q v s) : wpAny (model P w) A' (eval (.Name x pos) cenv) Q E' s :=
  Name_function_global (by rw [X.sc]; exact X.kind) (by unfold Env.kindOf; rw [X.sc]; exact hk) (loadGlobal_builtin (by rw [X.g]; exact C.G.keeps X.kp) (mg_none_of C.X C.G e) (by rw [X.b]; exact C.Bi.keeps X.kp) ((C.bi x hn).trans hv) h) hd
theorem g_loc {scope : Scope} {cenv : Env} {A' : Around} {E' : Value → Shared → Prop} {x : Str} {pos : Pos} {v : Value} {m : Str → Option Value} {Q : Value → Shared → Prop} (hs : cenv.scope = scope) (hkd : scope.kind = .function) (hn : s.heap.Ns cenv.locals m) (hm : m x = some v) (hk : scope.names.lookup x = some .local)
    (hd : (x == ("__debug__" : Str)) = false) (h : Q v s) : wpAny (model P w) A' (eval (.Name x pos) cenv) Q E' s :=
  wpAny_Name (wpAny_loadName_local (by rw [hs]; exact hkd) (by unfold Env.kindOf; rw [hs]; exact hk) hn hm h) hd
theorem g_len {scope : Scope} {cenv : Env} {A' : Around} {E' : Value → Shared → Prop} {x : Str} {p1 p2 pos : Pos} {f : Str} {tf : Tok} {m : Str → Option Value} {Q : Value → Shared → Prop} (X : GenSee C scope cenv s.heap) (e : nsIn K mainGlobals "len" = some none) (hkl : scope.names.lookup ("len" : Str) = some .globalImplicit)
    (hn : s.heap.Ns cenv.locals m) (hm : m x = some (.str f tf)) (hk : scope.names.lookup x = some .local) (hd : (x == ("__debug__" : Str)) = false) (hz : f.length ≤ 1000) (h : ∀ t k, Q (.int f.length t) { s with toks := k }) :
    wpAny (model P w) A' (eval (.Call (.Name "len" p1) [.Name x p2] [] pos) cenv) Q E' s := by
  refine Call_ ?_
  refine g_bi X e (by boot_fast) (by decide) hkl (by kernel_rfl) ?_
  refine callWith_method1 (first := []) ?_ (by rfl) (by rfl)
  refine spliced_more (g_loc X.sc X.kind hn hm hk hd (spliced_none ?_)) (by rfl)
  exact PySem.P.len_str (by omega) (h _ _)
theorem elt_len {scope : Scope} {xa xb : Str} {p1 p2 p3 p4 p5 p6 pos : Pos} (hkd : scope.kind = .function) (e : nsIn K mainGlobals "len" = some none) (hkl : scope.names.lookup ("len" : Str) = some .globalImplicit) (hxa : scope.names.lookup xa = some .local) (hxb : scope.names.lookup xb = some .local)
    (hda : (xa == ("__debug__" : Str)) = false) (hdb : (xb == ("__debug__" : Str)) = false) :
    GenElt P C scope xa xb (.BinOp (.Call (.Name "len" p1) [.Name xa p2] [] p3) .Add (.Call (.Name "len" p4) [.Name xb p5] [] p6) pos) fun f p v => ∃ t, v = .int ((f.length : Int) + p.length) t := by
  intro cenv A' E' f p tf tp s₂ m₂ hf hp hA hs hg hb hn h1 h2 kp
  refine wpAny_BinOp (g_len ⟨hs, hkd, hg, hb, kp⟩ e hkl hn h1 hxa hda hf fun t k => ?_)
  refine g_len (s := { s₂ with toks := k }) ⟨hs, hkd, hg, hb, kp⟩ e hkl hn h2 hxb hdb hp fun t' k' => ?_
  exact add_int ⟨⟨_, rfl⟩, s₂.heap, _, rfl, fun _ _ e => e⟩
theorem elt_join {scope : Scope} {xa xb : Str} {p1 p2 p3 p4 p5 pos : Pos} {kt : Nat} {tj : Tok} {pl : Env → Sem Bool} (hkd : scope.kind = .function) (e : nsIn K mainGlobals "EMPTYSTRING" = some (some (.str ⟨#[]⟩ tj))) (hkl : scope.names.lookup ("EMPTYSTRING" : Str) = some .globalImplicit) (hxa : scope.names.lookup xa = some .local) (hxb : scope.names.lookup xb = some .local)
    (hda : (xa == ("__debug__" : Str)) = false) (hdb : (xb == ("__debug__" : Str)) = false)
    (he : ∀ cenv : Env, eval (.Call (.Attribute (.Name "EMPTYSTRING" p1) "join" p2) [.Tuple [.Name xa p3, .Name xb p4] kt p5] [] pos) cenv = (do
      let ov ← eval (.Name "EMPTYSTRING" p1) cenv
      standAt p2.atName
      let (f, first) ← holding [ov] (getMethod ov "join" (pl cenv))
      callWith pos f first (backTo pos (starEach [.Tuple [.Name xa p3, .Name xb p4] kt p5] cenv)) (backToKw pos (keywordEach [] cenv)))) :
    GenElt P C scope xa xb (.Call (.Attribute (.Name "EMPTYSTRING" p1) "join" p2) [.Tuple [.Name xa p3, .Name xb p4] kt p5] [] pos) fun f p v => ∃ t, v = .str (Txt.join ⟨#[]⟩ [f, p]) t := by
  intro cenv A' E' f p tf tp s₂ m₂ hf hp hA hs hg hb hn h1 h2 kp
  refine methodCall_KW (pl := pl cenv) (g_glob ⟨hs, hkd, hg, hb, kp⟩ e hkl (by kernel_rfl) ?_) (he cenv)
  refine getMethod_builtin (typeIs_str _ _ _) PySem.F.plainAttrs_str PySem.F.slot_str_join PySem.F.type_str_join (fun _ e => nomatch e) ?_
  refine callWith_method1 ?_ (by rfl) (by rfl)
  refine spliced_more (Tuple_ ?_) (by rfl)
  refine spliced_more (g_loc hs hkd hn h1 hxa hda ?_) (by rfl)
  refine spliced_more (g_loc hs hkd hn h2 hxb hdb (spliced_none ?_)) (by rfl)
  refine wpAny_newObj_type (spliced_none ?_) (by size_fits)
  refine join_tupleC (ys := [f, p]) ⟨_, Heap.get?_push_size _ rfl, rfl, _, rfl⟩ (.cons _ _ (.cons _ _ .nil)) (by show 0 ≤ _; omega) (by show f.length + (p.length + 0) + 2 * 64 ≤ _; omega) fun t' kk => ?_
  exact ⟨⟨t', rfl⟩, _, kk, rfl, fun b o e => Heap.get?_push_of_some _ e⟩
end
end Mine
end
section -- B40
open PySem PySem.W PySem.Calls PyProof.Rows
set_option Elab.async false
set_option maxRecDepth 100000
set_option linter.unusedVariables false
namespace Mine
noncomputable abbrev accItems := List (Addr × Str × Str)
noncomputable def sizeOf' (items : accItems) : Int := (items.map fun i => ((i.2.1.length : Int) + i.2.2.length)).sum
theorem sizeOf'_snoc (l : accItems) (i : Addr × Str × Str) : sizeOf' (l ++ [i]) = sizeOf' l + ((i.2.1.length : Int) + i.2.2.length) := by
  unfold sizeOf'; simp
theorem sizeOf'_take (items : accItems) (j : Nat) : sizeOf' (items.take (j + 1)) = sizeOf' (items.take j) + ((items[j]?).map fun i : Addr × Str × Str => ((i.2.1.length : Int) + i.2.2.length)).getD 0 := by
  rw [List.take_add_one]
  cases e : items[j]? with
  | none => simp
  | some i => simp [sizeOf'_snoc]
theorem sizeOf'_bound : ∀ (items : accItems), (∀ i ∈ items, i.2.1.length ≤ 1000 ∧ i.2.2.length ≤ 1000) → 0 ≤ sizeOf' items ∧ sizeOf' items ≤ 2000 * items.length
  | [], _ => by decide
  | i :: r, h => by
    have h1 := h i (.head _)
    have h2 := sizeOf'_bound r fun j hj => h j (.tail _ hj)
    have e : sizeOf' (i :: r) = ((i.2.1.length : Int) + i.2.2.length) + sizeOf' r := by unfold sizeOf'; simp
    rw [e, List.length_cons]
    push_cast
    omega
section
variable {P : Program} {w : World} {K : Frag} {sc : Scope} {C : Ctxt w K sc} {ρ ρ' : Frame} {σ σ' τ : Ledger} {s : Shared}
theorem GenR.toks {a : Addr} {n : Nat} {F : Nat → Value → Prop} {k : Nat} (X : GenR P C ρ σ a n F s) (hk : s.toks ≤ k) : GenR P C ρ σ a n F { s with toks := k } := by
  obtain ⟨fp, wr, g, Ss, W, h0, h1, h2, h3, h4⟩ := X
  exact ⟨fp, wr, g, Ss, W, W.frame 0 s s.heap k h0 hk fun _ _ _ e => e, h1, h2, h3, fun s' hm => h4 s' ⟨hm.heap, hm.gens, hm.drawn, hm.os, Nat.le_trans hk hm.toks⟩⟩
theorem ev_sumgen {slf xa xb attr : Str} {ps pa pb pt pos p0 pq pa2 pos2 : Pos} {kt : Nat} {scope : Scope} {elt : Expr} {x Cc d cd T : Addr} {items : accItems} {es : List (Str × AV)} {st : Int} {Φ : AV → Frame → Ledger → Prop}
    (hself : (slf, some (.ref x)) ∈ ρ) (hx : (x, .acc Cc d (items.map fun i => .ref i.1)) ∈ σ) (hdd : (d, .dict es) ∈ σ) (hts : ∀ i ∈ items, (i.1, AObj.tuple [.str i.2.1, .str i.2.2]) ∈ σ) (hln : ∀ i ∈ items, i.2.1.length ≤ 1000 ∧ i.2.2.length ≤ 1000) (hlen : items.length ≤ 1000)
    (hc : C.env.code = .ref cd) (hT : (T, .table) ∈ σ) (ha : es.lookup attr = some (.int st)) (hst : 0 ≤ st ∧ st ≤ 1000000)
    (h : Φ (.int (st + sizeOf' items)) ρ σ)
    (hslf : sc.names.lookup slf = some .local) (hdbg : (slf == ("__debug__" : Str)) = false)
    (hiter : findIn K (.ref Cc) "__iter__" = some (some (.builtin "list.__iter__"))) (hlist : mroIn K Cc (.type "list") = some true) (htab : codeTab K cd T = true) (hown : ownL K Cc attr = true)
    (hclos : closureFor scope C.env = pure []) (hco : scope.isCoroutine = false) (hcell : ∀ y ∈ scope.names, y.2 ≠ .cell) (h0 : scope.names.lookup (".0" : Str) = some NameKind.local)
    (hxa : scope.names.lookup xa = some .local) (hxb : scope.names.lookup xb = some .local) (hab : xa ≠ xb) (hkind : scope.kind = .function) (helt : GenElt P C scope xa xb elt fun f p v => ∃ t, v = .int ((f.length : Int) + p.length) t)
    (hsum : nsIn K mainGlobals "sum" = some none) (hks : sc.names.lookup ("sum" : Str) = some .globalImplicit) (hs : ∀ v, genFold (.Name slf ps) C.env v = pure v)
    (hb : attributeBase (.Name slf pq) attr C.env (eval (.Name slf pq) C.env) = eval (.Name slf pq) C.env) (hl : ∀ o r, letTemporaryGo (.Name slf pq) o r = pure ()) :
    WV P C ρ σ (eval (.Call (.Name "sum" p0) [.GeneratorExp elt [⟨.Tuple [.Name xa pa, .Name xb pb] kt pt, .Name slf ps, [], 0⟩] scope pos, .Attribute (.Name slf pq) attr pa2] [] pos2) C.env) Φ := by
  intro τ s Q E S k
  refine Call_ ?_
  refine ev_bi (P := P) (.builtin "sum") hsum (by boot_fast) (by decide) rfl (Φ := fun a ρ1 σ1 => a = .builtin "sum" ∧ ρ1 = ρ ∧ σ1 = σ) ⟨rfl, rfl, rfl⟩ hks (by kernel_rfl) τ s _ E S fun v a ρ1 σ1 s1 r q S1 => ?_
  obtain ⟨rfl, rfl, rfl⟩ := q
  cases r
  refine callWith_method1 (first := []) ?_ (by rfl) (by rfl)
  refine spliced_more (gen_acc S1 hself hslf hdbg hx hdd hts hln hiter hlist hc htab hT hclos hco hcell h0 hxa hxb hab hkind helt (fun a s₅ S₅ X => ?_) hs) (by rfl)
  refine spliced_more ?_ (by rfl)
  rw [arm_eval_Attribute, hb]
  obtain ⟨m, v, F5, hv, hvi⟩ := S₅.name hself
  have hvi' : v = .ref x := hvi
  subst hvi'
  refine wpAny_bind (wpAny_Name (wpAny_loadName_local C.kind (C.kindOf hslf) (by rw [C.hL]; exact F5.ns) hv ?_) hdbg)
  obtain ⟨vs, n, ds, m', I, -, hA⟩ := S₅.acc hx hdd
  unfold ownL plainGetL at hown
  simp only [Bool.and_eq_true, beq_iff_eq] at hown
  obtain ⟨⟨⟨⟨g1, g2⟩, g3⟩, g4⟩, g5⟩ := hown
  obtain ⟨va, hl2, ⟨tk, rfl⟩⟩ := getL_some hA ha
  cases hf : findIn K (.ref Cc) attr with
  | none => rw [hf] at g5; cases g5
  | some at' =>
    rw [hf] at g5
    refine wpAny_bind (wpAny_standAt (wpAny_bind (wpAny_holding (get_valueL S₅.XH I g1 g2 g4 (findObj_own g3 hf g5 hl2) rfl ?_))))
    refine wpAny_bind (wpAny_of_eq (a := ()) (hl _ _) (wpAny_pure (spliced_none ?_)))
    have X' := X.toks (k := s₅.toks + 1) (Nat.le_succ _)
    obtain ⟨fp, wr, g, Ss, W, hS0, -, ha', hfp, hback⟩ := X'
    have W := W.in4_1
    refine call_sum2 ⟨by omega, by omega⟩ (W.self 0 _ _ _ hS0 ⟨a, fp, wr, _, items.length, _, Ss, (fun j => ((items[j]?).map fun i : Addr × Str × Str => ((i.2.1.length : Int) + i.2.2.length)).getD 0), (fun j => st + sizeOf' (items.take j)), rfl, W, hS0, hfp, ?_, ?_, ?_, ?_, ?_⟩)
    · rintro i v ⟨it, e, t, rfl⟩
      exact ⟨t, by dsimp only; rw [e]; rfl⟩
    · intro j
      dsimp only
      rw [sizeOf'_take]; omega
    · show st + sizeOf' [] = st
      have : sizeOf' [] = 0 := rfl
      omega
    · intro j hj
      have e : items[j]? = some items[j] := List.getElem?_eq_getElem hj
      have hj1 := hln items[j] (List.getElem_mem hj)
      have hb1 := sizeOf'_bound (items.take (j + 1)) fun i hi => hln i (List.mem_of_mem_take hi)
      have hb2 : (items.take (j + 1)).length ≤ 1000 := by rw [List.length_take]; omega
      refine ⟨?_, ?_⟩
      · show InLong ((items[j]?.map _).getD 0)
        rw [e]
        show InLong ((items[j].2.1.length : Int) + items[j].2.2.length)
        exact ⟨by omega, by omega⟩
      · show InLong (st + sizeOf' (items.take (j + 1)))
        exact ⟨by omega, by omega⟩
    · intro s' t' hm
      have e : st + sizeOf' (items.take items.length) = st + sizeOf' items := by rw [List.take_length]
      dsimp only
      rw [e]
      exact k _ (.int _) ρ1 σ1 s' ⟨t', rfl⟩ h (hback s' hm)
end
end Mine
end
section -- B41
open PySem PySem.W PySem.Calls PyProof.Rows
set_option Elab.async false
set_option maxRecDepth 100000
set_option linter.unusedVariables false
namespace Mine
noncomputable def pairStr (i : Addr × Str × Str) : Str := Txt.join ⟨#[]⟩ [i.2.1, i.2.2]
noncomputable def accStr (items : accItems) : Str := Txt.join ⟨#[]⟩ (items.map pairStr)
theorem join0_fold : ∀ (rest : List Str) (acc : Array Nat), (rest.foldl (fun acc p => acc ++ (⟨#[]⟩ : Str).cps ++ p.cps) acc).toList = acc.toList ++ (rest.map fun p => p.cps.toList).flatten
  | [], acc => by simp
  | p :: r, acc => by
    rw [List.foldl_cons, join0_fold r]
    simp
theorem join0 (l : List Str) : (Txt.join ⟨#[]⟩ l).cps.toList = (l.map fun p => p.cps.toList).flatten := by
  show ((l.drop 1).foldl (fun acc p => acc ++ (⟨#[]⟩ : Str).cps ++ p.cps) (l.headD Str.empty).cps).toList = _
  rw [join0_fold]
  cases l with
  | nil => rfl
  | cons p r => simp
theorem pairStr_list (i : Addr × Str × Str) : (pairStr i).cps.toList = i.2.1.cps.toList ++ i.2.2.cps.toList := by
  unfold pairStr; rw [join0]; simp
theorem accStr_list (items : accItems) : (accStr items).cps.toList = (items.map fun i => i.2.1.cps.toList ++ i.2.2.cps.toList).flatten := by
  unfold accStr; rw [join0, List.map_map]
  congr 1
  exact List.map_congr_left fun i _ => pairStr_list i
theorem pairStr_len (i : Addr × Str × Str) : (pairStr i).length = i.2.1.length + i.2.2.length := by
  have := congrArg List.length (pairStr_list i)
  simpa [Str.length] using this
theorem items_sum : ∀ (items : accItems), (∀ i ∈ items, i.2.1.length ≤ 1000 ∧ i.2.2.length ≤ 1000) → ((items.map pairStr).map (·.length)).sum ≤ 2000 * items.length
  | [], _ => Nat.le_refl _
  | i :: r, h => by
    have h1 := h i (.head _)
    have h2 := items_sum r fun j hj => h j (.tail _ hj)
    rw [List.map_cons, List.map_cons, List.sum_cons, List.length_cons, pairStr_len]
    omega
section
variable {P : Program} {w : World} {K : Frag} {sc : Scope} {C : Ctxt w K sc} {ρ ρ' : Frame} {σ σ' τ : Ledger} {s : Shared}
theorem ev_joingen {slf xa xb : Str} {ps pa pb pt pos p1 p2 pos2 : Pos} {kt : Nat} {scope : Scope} {elt : Expr} {x Cc d cd T : Addr} {items : accItems} {es : List (Str × AV)} {tj : Tok} {pl : Sem Bool} {Φ : AV → Frame → Ledger → Prop}
    (hself : (slf, some (.ref x)) ∈ ρ) (hx : (x, .acc Cc d (items.map fun i => .ref i.1)) ∈ σ) (hdd : (d, .dict es) ∈ σ) (hts : ∀ i ∈ items, (i.1, AObj.tuple [.str i.2.1, .str i.2.2]) ∈ σ) (hln : ∀ i ∈ items, i.2.1.length ≤ 1000 ∧ i.2.2.length ≤ 1000) (hlen : items.length ≤ 1000)
    (hc : C.env.code = .ref cd) (hT : (T, .table) ∈ σ)
    (h : Φ (.str (accStr items)) ρ σ)
    (hslf : sc.names.lookup slf = some .local) (hdbg : (slf == ("__debug__" : Str)) = false)
    (hiter : findIn K (.ref Cc) "__iter__" = some (some (.builtin "list.__iter__"))) (hlist : mroIn K Cc (.type "list") = some true) (htab : codeTab K cd T = true)
    (hclos : closureFor scope C.env = pure []) (hco : scope.isCoroutine = false) (hcell : ∀ y ∈ scope.names, y.2 ≠ .cell) (h0 : scope.names.lookup (".0" : Str) = some NameKind.local)
    (hxa : scope.names.lookup xa = some .local) (hxb : scope.names.lookup xb = some .local) (hab : xa ≠ xb) (hkind : scope.kind = .function) (helt : GenElt P C scope xa xb elt fun f p v => ∃ t, v = .str (Txt.join ⟨#[]⟩ [f, p]) t)
    (hJ : nsIn K mainGlobals "EMPTYSTRING" = some (some (.str ⟨#[]⟩ tj))) (hks : sc.names.lookup ("EMPTYSTRING" : Str) = some .globalImplicit) (hs : ∀ v, genFold (.Name slf ps) C.env v = pure v)
    (he : eval (.Call (.Attribute (.Name "EMPTYSTRING" p1) "join" p2) [.GeneratorExp elt [⟨.Tuple [.Name xa pa, .Name xb pb] kt pt, .Name slf ps, [], 0⟩] scope pos] [] pos2) C.env = (do
      let ov ← eval (.Name "EMPTYSTRING" p1) C.env
      standAt p2.atName
      let (f, first) ← holding [ov] (getMethod ov "join" pl)
      callWith pos2 f first (backTo pos2 (starEach [.GeneratorExp elt [⟨.Tuple [.Name xa pa, .Name xb pb] kt pt, .Name slf ps, [], 0⟩] scope pos] C.env)) (backToKw pos2 (keywordEach [] C.env)))) :
    WV P C ρ σ (eval (.Call (.Attribute (.Name "EMPTYSTRING" p1) "join" p2) [.GeneratorExp elt [⟨.Tuple [.Name xa pa, .Name xb pb] kt pt, .Name slf ps, [], 0⟩] scope pos] [] pos2) C.env) Φ := by
  intro τ s Q E S k
  refine methodCall_KW (pl := pl) ?_ he
  obtain ⟨m, F, _⟩ := S.fr
  refine Name_function_global C.kind (C.kindOf hks) (loadGlobal_global (by rw [C.hG]; exact C.G.keeps F.keep) (mg_of C.X C.G hJ) ?_) (by kernel_rfl)
  refine getMethod_builtin (typeIs_str _ _ _) PySem.F.plainAttrs_str PySem.F.slot_str_join PySem.F.type_str_join (fun _ e => nomatch e) ?_
  refine callWith_method1 ?_ (by rfl) (by rfl)
  refine spliced_more (gen_acc S hself hslf hdbg hx hdd hts hln hiter hlist hc htab hT hclos hco hcell h0 hxa hxb hab hkind helt (fun a s₅ S₅ X => ?_) hs) (by rfl)
  refine spliced_none ?_
  obtain ⟨fp, wr, g, Ss, W, hS0, hTy, ha', hfp, hback⟩ := X
  have W := W.in4_2
  have hsz := sizeLine_eq
  refine SC.joinGen W hTy hS0 hfp ha' (fun j v ⟨it, e, t, hv⟩ => ⟨_, t, hv⟩) (fun s' lt hm hacc => ?_) (by omega)
  have hl : lt.map (·.1) = items.map pairStr := by
    apply List.ext_getElem?
    intro j
    have hsz : lt.length = items.length := by simpa [strValues] using hacc.1
    by_cases hj : j < items.length
    · have hj' : j < lt.length := hsz ▸ hj
      obtain ⟨it, e, t, hv⟩ := hacc.2 j (.str lt[j].1 lt[j].2) (by simp [strValues, List.getElem?_eq_getElem hj'])
      injection hv with h1 _
      rw [List.getElem?_map, List.getElem?_map, e, List.getElem?_eq_getElem hj']
      show some (lt[j].1) = some (pairStr it)
      rw [h1]; rfl
    · rw [List.getElem?_eq_none (by simpa [hsz] using Nat.le_of_not_lt hj), List.getElem?_eq_none (by simpa using Nat.le_of_not_lt hj)]
  rw [hl]
  have hb := items_sum items hln
  refine ⟨joinOk_of (by show _ + _ * 0 ≤ _; omega), fun t' kk => ?_⟩
  exact k _ (.str _) ρ σ _ ⟨t', rfl⟩ h ((hback s' hm).toks kk)
end
end Mine
end
section -- B42
open PySem PySem.W PySem.Calls PyProof.Rows
set_option Elab.async false
set_option maxRecDepth 100000
set_option linter.unusedVariables false
namespace Mine
/-- the part of a slice -/
noncomputable def AV.part : AV → Option (Option Int)
  | .none => some Option.none
  | .int i => some (some i)
  | _ => Option.none
theorem AV.isPart {a : AV} {v : Value} {p : Option Int} (h : a.is v) (e : a.part = some p) : IsPart v p := by
  cases a with
  | none => cases e; cases h; exact .none
  | int i => cases e; obtain ⟨t, rfl⟩ := h; exact .int i t
  | _ => cases e
section
variable {P : Program} {w : World} {K : Frag} {sc : Scope} {C : Ctxt w K sc} {ρ ρ' : Frame} {σ σ' τ : Ledger} {s : Shared} {A : Around} {E : Value → Shared → Prop}
/-! slices made -/
theorem ev_slice0 {p : Pos} {Φ : AV → Frame → Ledger → Prop} (h : ∀ a, Φ (.ref a) ρ ((a, .slice .none .none .none) :: σ)) : WV P C ρ σ (eval (.Slice none none none p) C.env) Φ := by
  intro τ s Q E S k
  refine wpAny_Slice ?_
  simp only [evalPart_none]
  refine wpAny_pure (wpAny_pure (wpAny_pure ?_))
  exact k _ (.ref s.heap.objs.size) ρ _ _ rfl (h _) (S.push (n := s.toks) ⟨_, _, _, rfl, rfl, rfl, rfl⟩ rfl)
theorem ev_sliceL {e : Expr} {p : Pos} {Φ : AV → Frame → Ledger → Prop} (h : WV P C ρ σ (eval e C.env) fun l ρ1 σ1 => ∀ a, Φ (.ref a) ρ1 ((a, .slice l .none .none) :: σ1)) : WV P C ρ σ (eval (.Slice (some e) none none p) C.env) Φ := by
  intro τ s Q E S k
  refine wpAny_Slice ?_
  simp only [evalPart_none, evalPart_some]
  refine h τ s _ E S fun v l ρ1 σ1 s1 r p1 S1 => wpAny_pure (wpAny_pure ?_)
  exact k _ (.ref s1.heap.objs.size) ρ1 _ _ rfl (p1 _) (S1.push (n := s1.toks) ⟨_, _, _, rfl, r, rfl, rfl⟩ rfl)
theorem ev_sliceU {e : Expr} {p : Pos} {Φ : AV → Frame → Ledger → Prop} (h : WV P C ρ σ (eval e C.env) fun u ρ1 σ1 => ∀ a, Φ (.ref a) ρ1 ((a, .slice .none u .none) :: σ1)) : WV P C ρ σ (eval (.Slice none (some e) none p) C.env) Φ := by
  intro τ s Q E S k
  refine wpAny_Slice ?_
  simp only [evalPart_none, evalPart_some]
  refine wpAny_pure (h τ s _ E S fun v l ρ1 σ1 s1 r p1 S1 => wpAny_pure ?_)
  exact k _ (.ref s1.heap.objs.size) ρ1 _ _ rfl (p1 _) (S1.push (n := s1.toks) ⟨_, _, _, rfl, rfl, r, rfl⟩ rfl)
theorem ev_sliceLU {e f : Expr} {p : Pos} {Φ : AV → Frame → Ledger → Prop} (h : WV P C ρ σ (eval e C.env) fun l ρ1 σ1 => WV P C ρ1 σ1 (eval f C.env) fun u ρ2 σ2 => ∀ a, Φ (.ref a) ρ2 ((a, .slice l u .none) :: σ2)) : WV P C ρ σ (eval (.Slice (some e) (some f) none p) C.env) Φ := by
  intro τ s Q E S k
  refine wpAny_Slice ?_
  simp only [evalPart_none, evalPart_some]
  refine h τ s _ E S fun v l ρ1 σ1 s1 r p1 S1 => p1 τ s1 _ E S1 fun v2 u ρ2 σ2 s2 r2 p2 S2 => wpAny_pure ?_
  exact k _ (.ref s2.heap.objs.size) ρ2 _ _ rfl (p2 _) (S2.push (n := s2.toks) ⟨_, _, _, rfl, r, r2, rfl⟩ rfl)
/-! slices of an acc -/
theorem getItem_accS {x Cc sl : Addr} {ox : Obj} {od : Option Obj} {vs : List Value} {n : Nat} {vl vu : Value} {lo hi : Option Int} {Q : Value → Shared → Prop} (X : K.In s.heap) (I : InstAt s.heap x ox Cc od) (hox : ox.data = .seq ⟨vs⟩ n) (hk : itemOk K Cc "__getitem__" "list.__getitem__" = true)
    (hs : s.heap.IsSliceOf sl vl vu .none) (pl : IsPart vl lo) (pu : IsPart vu hi) (hz : vs.length ≤ sizeLine)
    (h : Q (.ref s.heap.objs.size) { s with heap := s.heap.push { cls := .type "list", data := .seq (slicePick ⟨vs⟩ lo hi none) } }) : wpAny (model P w) A (getItem (.ref x) (.ref sl)) Q E s := by
  unfold itemOk at hk
  simp only [Bool.and_eq_true, beq_iff_eq] at hk
  obtain ⟨⟨hk1, hk2⟩, hk3⟩ := hk
  obtain ⟨os, hos, hcs, hds⟩ := id hs
  have hTs : s.TypeIs (.ref sl) "slice" := ⟨os, hos, hcs⟩
  unfold getItem
  refine wpAny_holding (wpAny_bind (key_acc X I hk2 ?_))
  refine wpAny_bind (m := callSpecial? (.ref x) (Str.ofString "__getitem__") _) (special_bi X I hk1 (slot_list_getitem.bind _) ?_)
  refine call_biI (n := "__getitem__") slot_list_getitem.plain entry_list_getitem (by first | exact .inl (by decide +kernel) | exact .inr (by decide +kernel)) (by decide +kernel) X I hk3 (args_list_getitem _ _) ?_
  show wpAny _ _ (Builtin.List.listSubscript? (.ref sl) >>= _) _ _ s
  refine wpAny_bind ?_
  unfold Builtin.List.listSubscript?
  refine wpAny_bind (wpAny_specialOf hTs slice_no_index ?_)
  simp only [Option.isNone_none, if_true]
  refine wpAny_pure ?_
  show wpAny _ _ (typeOf (.ref sl) >>= _) _ _ s
  refine wpAny_bind (wpAny_typeOf hTs ?_)
  rw [if_neg (by decide)]
  rw [listSliceParts_eq]
  refine wpAny_bind (wpAny_bind (wpAny_field hos hds (x := .none) rfl (wpAny_bind (wpAny_listPart .none ?_))))
  rw [if_neg (by exact Bool.false_ne_true)]
  refine wpAny_bind (wpAny_field hos hds (x := vl) rfl (wpAny_bind (wpAny_listPart pl ?_)))
  refine wpAny_bind (wpAny_field hos hds (x := vu) rfl (wpAny_bind (wpAny_listPart pu (wpAny_pure ?_))))
  refine wpAny_bind (m := Builtin.List.listItems (.ref x)) ?_
  unfold Builtin.List.listItems
  refine wpAny_bind (wpAny_seqItems I.at_ hox (wpAny_pure ?_))
  refine wpAny_bind (wpAny_of_eq (sliceIndices_raw lo hi none _ (by simp)) ?_)
  exact wpAny_bind (wpAny_newObj_type (wpAny_pure ⟨_, rfl, wpAny_pure h⟩) (Nat.le_trans (slicePick_size_le ⟨vs⟩ lo hi none) hz))
theorem All2.drop {α β : Type} {R : α → β → Prop} {l : List α} {m : List β} (h : All2 R l m) : ∀ k : Nat, All2 R (l.drop k) (m.drop k) := by
  induction h with
  | nil => intro k; rw [List.drop_nil, List.drop_nil]; exact .nil
  | cons r h ih =>
    intro k
    cases k with
    | zero => exact .cons r h
    | succ k => exact ih k
theorem All2.take {α β : Type} {R : α → β → Prop} {l : List α} {m : List β} (h : All2 R l m) : ∀ k : Nat, All2 R (l.take k) (m.take k) := by
  induction h with
  | nil => intro k; rw [List.take_nil, List.take_nil]; exact .nil
  | cons r h ih =>
    intro k
    cases k with
    | zero => exact .nil
    | succ k => exact .cons r (ih k)
theorem sub_accFrom {e : Expr} {e2 : Expr} {sp : Pos} {x Cc d sl : Addr} {es : List (Str × AV)} {xs : List AV} {i : Int} {Φ : AV → Frame → Ledger → Prop} (hm : (x, .acc Cc d xs) ∈ σ) (hd : (d, .dict es) ∈ σ) (hsl : (sl, .slice (.int i) .none .none) ∈ σ) (hk : itemOk K Cc "__getitem__" "list.__getitem__" = true) (h0 : 0 ≤ i) (h1 : i.toNat ≤ xs.length) (hz : xs.length ≤ sizeLine) (h : ∀ a, Φ (.ref a) ρ ((a, .list (xs.drop i.toNat)) :: σ))
    (hs : subscripted (.Slice (some e2) none none sp) false (.ref x) (.ref sl) = operate [.ref sl, .ref x] (getItem (.ref x) (.ref sl)) := by with_unfolding_all rfl) :
    OpV P C ρ σ (subscriptTail e (.Slice (some e2) none none sp)) (.ref x) (.ref sl) Φ := by
  rintro _ _ rfl rfl τ s Q E S kk
  obtain ⟨vs, n, ds, m, I, hA, -⟩ := S.acc hm hd
  obtain ⟨os, hos, va, vb, vc, rfl, ⟨t, rfl⟩, hvb, hvc⟩ := S.get hsl
  cases hvb; cases hvc
  have hlen := hA.length
  have hk' := hk
  unfold itemOk at hk'
  simp only [Bool.and_eq_true, beq_iff_eq] at hk'
  unfold subscriptTail
  refine wpAny_bind ?_
  rw [getitemInPython_of_ne (by intro q; cases q)]
  refine wpAny_bind (wpAny_bind (I.type.here ((looks_findIn S.XH hk'.1.1).here ?_)))
  have pick : slicePick (⟨vs⟩ : Array Value) (some i) none none = ⟨vs.drop i.toNat⟩ := by
    obtain ⟨j, rfl⟩ := Int.eq_ofNat_of_zero_le h0
    rw [Int.toNat_natCast] at h1 ⊢
    rw [slicePick_from ⟨vs⟩ j (by show j ≤ vs.length; omega)]
  have fin : wpAny (model P w) C.A (subscripted (.Slice (some e2) none none sp) false (.ref x) (.ref sl)) (fun r s₃ => wpAny (model P w) C.A (letTemporaryGo e (.ref x) r >>= fun _ => pure r) Q E s₃) E s := by
    rw [hs]
    refine wpAny_operating (wpAny_mono (getItem_accS (lo := some i) (hi := none) S.XH I rfl hk ⟨_, hos, rfl, rfl⟩ (.int i t) .none (by omega) ?_) (fun r s₃ h₃ => wpAny_bind (wpAny_letTemporaryGo (wpAny_pure h₃))) fun _ _ x => x)
    rw [pick]
    exact kk _ (.ref s.heap.objs.size) ρ _ _ rfl (h _) (S.push (n := s.toks) ⟨vs.drop i.toNat, 0, rfl, hA.drop _⟩ rfl)
  first
    | exact wpAny_pure (wpAny_bind fin)
    | exact wpAny_bind (wpAny_pure (wpAny_bind fin))
    | exact wpAny_bind fin
end
end Mine
end
section -- B43
open PySem PySem.W PySem.Calls PyProof.Rows
set_option Elab.async false
set_option maxRecDepth 100000
set_option linter.unusedVariables false
namespace Mine
theorem bounds_from (j n : Nat) (h : j ≤ n) : sliceBounds (some (j : Int)) none none n = ((j : Int), (n : Int), 1) := by
  simp only [sliceBounds, Option.getD_none]
  have h1 : ¬ ((j : Int) < 0) := by omega
  simp only [h1, if_false, show (1 : Int) > 0 by decide, if_true]
  congr 1
  omega
theorem bounds_all (n : Nat) : sliceBounds none none none n = (((0 : Nat) : Int), (n : Int), 1) := by
  simp only [sliceBounds, Option.getD_none]
  simp only [show (1 : Int) > 0 by decide, if_true]
  rfl
section
variable {P : Program} {w : World} {K : Frag} {sc : Scope} {C : Ctxt w K sc} {ρ ρ' : Frame} {σ σ' τ : Ledger} {s : Shared} {A : Around} {E : Value → Shared → Prop}
theorem setItem_accS {x Cc sl l : Addr} {ox : Obj} {od : Option Obj} {vs us : List Value} {n : Nat} {vl : Value} {lo : Option Int} {j : Nat} {Q : Unit → Shared → Prop} (X : K.In s.heap) (I : InstAt s.heap x ox Cc od) (hox : ox.data = .seq ⟨vs⟩ n) (hk : itemOk K Cc "__setitem__" "list.__setitem__" = true)
    (hs : s.heap.IsSliceOf sl vl .none .none) (pl : IsPart vl lo) (hb : sliceBounds lo none none vs.length = ((j : Int), (vs.length : Int), 1)) (hj : j ≤ vs.length) (hl : s.heap.IsList l ⟨us⟩) (hxl : x ≠ l) (hz : vs.length + us.length ≤ sizeLine)
    (h : Q () { s with heap := s.heap.update x (Obj.mapSeq fun xs => xs.extract 0 j ++ ⟨us⟩ ++ xs.extract vs.length xs.size) }) : wpAny (model P w) A (setItem (.ref x) (.ref sl) (.ref l)) Q E s := by
  unfold itemOk at hk
  simp only [Bool.and_eq_true, beq_iff_eq] at hk
  obtain ⟨⟨hk1, hk2⟩, hk3⟩ := hk
  obtain ⟨os, hos, hcs, hds⟩ := id hs
  have hTs : s.TypeIs (.ref sl) "slice" := ⟨os, hos, hcs⟩
  obtain ⟨ol, hol, hcl, nl, hdl⟩ := id hl
  unfold setItem
  refine wpAny_holding (wpAny_bind (key_acc X I hk2 ?_))
  refine wpAny_bind (m := callSpecial? (.ref x) (Str.ofString "__setitem__") _) (special_bi X I hk1 (slot_list_setitem.bind _) ?_)
  refine call_biI (n := "__setitem__") slot_list_setitem.plain entry_list_setitem (by first | exact .inl (by decide +kernel) | exact .inr (by decide +kernel)) (by decide +kernel) X I hk3 (args_list_setitem _ _ _) ?_
  show wpAny _ _ (Builtin.List.listSubscript? (.ref sl) >>= _) _ _ s
  refine wpAny_bind ?_
  unfold Builtin.List.listSubscript?
  refine wpAny_bind (wpAny_specialOf hTs slice_no_index ?_)
  simp only [Option.isNone_none, if_true]
  refine wpAny_pure ?_
  show wpAny _ _ (typeOf (.ref sl) >>= _) _ _ s
  refine wpAny_bind (wpAny_typeOf hTs ?_)
  rw [if_neg (by decide)]
  rw [listSliceParts_eq]
  refine wpAny_bind (wpAny_bind (wpAny_field hos hds (x := .none) rfl (wpAny_bind (wpAny_listPart .none ?_))))
  rw [if_neg (by exact Bool.false_ne_true)]
  refine wpAny_bind (wpAny_field hos hds (x := vl) rfl (wpAny_bind (wpAny_listPart pl ?_)))
  refine wpAny_bind (wpAny_field hos hds (x := .none) rfl (wpAny_bind (wpAny_listPart .none (wpAny_pure ?_))))
  dsimp only
  rw [if_neg (by show ¬ ((x == l) = true); simpa using hxl)]
  refine wpAny_bind (m := Builtin.List.listAllItems (.ref l) _) ?_
  unfold Builtin.List.listAllItems
  refine wpAny_bind (wpAny_typeOf (show s.TypeIs (.ref l) "list" from ⟨ol, hol, hcl⟩) ?_)
  rw [if_pos (by decide)]
  unfold Builtin.List.listItems
  refine wpAny_bind (wpAny_seqItems hol hdl (wpAny_pure ?_))
  refine wpAny_bind (wpAny_bind (wpAny_seqItems I.at_ hox (wpAny_pure ?_)))
  refine wpAny_bind (wpAny_of_eq (sliceIndices_raw lo none none _ (by simp)) ?_)
  have hb' : sliceBounds lo none none (⟨vs⟩ : Array Value).size = ((j : Int), (vs.length : Int), 1) := hb
  rw [hb']
  dsimp only
  rw [if_pos (by decide)]
  refine wpAny_bind (wpAny_rule ?_)
  rw [if_neg (by show ¬ (decide (vs.length + us.length > sizeLine) = true); simpa using hz)]
  refine wpAny_bind (wpAny_updateSeq I.at_ hox ?_ (by show vs.length ≤ _; omega) (by
    simp only [Array.size_append, Array.size_extract]
    have e1 : (⟨us⟩ : Array Value).size = us.length := rfl
    have e2 : (⟨vs⟩ : Array Value).size = vs.length := rfl
    rw [e1, e2]
    omega))
  refine wpAny_bind (wpAny_letGo (wpAny_bind (wpAny_pure (wpAny_pure ⟨_, rfl, ?_⟩))))
  refine wpAny_pure ?_
  have e : (max (j : Int) (vs.length : Int)).toNat = vs.length := by omega
  rw [e]
  exact h
theorem seta_slice {x Cc d sl l : Addr} {es : List (Str × AV)} {xs ys : List AV} {lo : AV} {p : Option Int} {j : Nat} {Φ : Frame → Ledger → Prop} (hk : itemOk K Cc "__setitem__" "list.__setitem__" = true) (hp : lo.part = some p) (hb : sliceBounds p none none xs.length = ((j : Int), (xs.length : Int), 1)) (hj : j ≤ xs.length)
    (hd : (d, .dict es) ∈ σ) (hsl : (sl, .slice lo .none .none) ∈ σ) (hl : (l, .list ys) ∈ σ) (U : PutL x (.acc Cc d xs) (.acc Cc d (xs.take j ++ ys)) σ σ') (hz : xs.length + ys.length ≤ 10000) (h : Φ ρ σ') : SetV P C ρ σ (.ref x) (.ref sl) (.ref l) Φ := by
  rintro _ _ _ rfl rfl rfl τ s Q E S kk
  have hsz := sizeLine_eq
  obtain ⟨vs, n, ds, m, I, hA, -⟩ := S.acc U.mem hd
  obtain ⟨os, hos, va, vb, vc, rfl, hva, hvb, hvc⟩ := S.get hsl
  cases hvb; cases hvc
  obtain ⟨ol, hol, us, nl, rfl, hB⟩ := S.get hl
  have e1 := hA.length
  have e2 := hB.length
  have hxl : x ≠ l := by
    rintro rfl
    rw [I.at_] at hol; cases hol
  rw [e1] at hb hj
  refine setItem_accS S.XH I rfl hk ⟨_, hos, rfl, rfl⟩ (AV.isPart hva hp) hb hj ⟨_, hol, rfl, nl, rfl⟩ hxl (by omega) ?_
  have key : ∃ nn, Obj.mapSeq (fun xs => xs.extract 0 j ++ ⟨us⟩ ++ xs.extract vs.length xs.size) { cls := .ref Cc, dict := some d, data := .seq ⟨vs⟩ n } = { cls := .ref Cc, dict := some d, data := .seq ⟨vs.take j ++ us⟩ nn } := by
    refine ⟨?_, ?_⟩
    rotate_left
    · unfold Obj.mapSeq
      have : ((⟨vs⟩ : Array Value).extract 0 j ++ ⟨us⟩ ++ (⟨vs⟩ : Array Value).extract vs.length (⟨vs⟩ : Array Value).size) = (⟨vs.take j ++ us⟩ : Array Value) := by
        apply Array.toList_inj.mp
        simp
      simp only [this]
      rfl
  exact kk () () ρ σ' _ trivial h (S.put (n := s.toks) (U.app τ) (Heap.SameBut.update ..) ((Heap.get?_update_self _ I.at_ rfl).trans rfl) (let ⟨nn, e⟩ := key; ⟨vs.take j ++ us, nn, e, (hA.take j).app hB⟩))
end
end Mine
end
section -- B44
open PySem PySem.W PySem.Calls PyProof.Rows
set_option Elab.async false
set_option maxRecDepth 100000
set_option linter.unusedVariables false
namespace Mine
section
variable {P : Program} {w : World} {K : Frag} {sc : Scope} {C : Ctxt w K sc} {ρ ρ' : Frame} {σ σ' τ : Ledger} {s : Shared} {A : Around} {E : Value → Shared → Prop}
theorem ev_and {e1 e2 : Expr} {pos : Pos} {Φ : AV → Frame → Ledger → Prop}
    (h : WV P C ρ σ (eval e1 C.env) fun a ρ1 σ1 => TruthA P C (fun c ρ2 σ2 => (c = true → WV P C ρ2 σ2 (eval e2 C.env) Φ) ∧ (c = false → Φ a ρ2 σ2)) a ρ1 σ1) : WV P C ρ σ (eval (.BoolOp .And [e1, e2] pos) C.env) Φ :=
  fun τ s Q E S k => BoolOp_and (h τ s _ E S fun v a ρ1 σ1 s1 r p S1 => p v r τ s1 _ E S1 fun c c' ρ2 σ2 s2 e p2 S2 => by
    cases e
    cases c
    · exact k v a ρ2 σ2 s2 r (p2.2 rfl) S2
    · exact BoolOp_one (p2.1 rfl τ s2 Q E S2 k))
theorem ev_or {e1 e2 : Expr} {pos : Pos} {Φ : AV → Frame → Ledger → Prop}
    (h : WV P C ρ σ (eval e1 C.env) fun a ρ1 σ1 => TruthA P C (fun c ρ2 σ2 => (c = false → WV P C ρ2 σ2 (eval e2 C.env) Φ) ∧ (c = true → Φ a ρ2 σ2)) a ρ1 σ1) : WV P C ρ σ (eval (.BoolOp .Or [e1, e2] pos) C.env) Φ :=
  fun τ s Q E S k => BoolOp_or (h τ s _ E S fun v a ρ1 σ1 s1 r p S1 => p v r τ s1 _ E S1 fun c c' ρ2 σ2 s2 e p2 S2 => by
    cases e
    cases c
    · exact BoolOp_one (p2.1 rfl τ s2 Q E S2 k)
    · exact k v a ρ2 σ2 s2 r (p2.2 rfl) S2)
theorem ev_not {x : Expr} {pos : Pos} {Φ : AV → Frame → Ledger → Prop} (h : WV P C ρ σ (eval x C.env) fun a ρ1 σ1 => TruthA P C (fun c ρ2 σ2 => Φ (.bool (!c)) ρ2 σ2) a ρ1 σ1) : WV P C ρ σ (eval (.UnaryOp .Not x pos) C.env) Φ :=
  fun τ s Q E S k => UnaryOp_ (h τ s _ E S fun v a ρ1 σ1 s1 r p S1 => by
    unfold unaryOp
    refine wpAny_holding ?_
    show wpAny _ _ (truthy v >>= fun c => pure (Value.bool (!c))) _ _ _
    refine wpAny_bind (p v r τ s1 _ E S1 fun c c' ρ2 σ2 s2 e p2 S2 => ?_)
    cases e
    exact wpAny_pure (k _ (.bool (!c)) ρ2 σ2 s2 rfl p2 S2))
theorem cmp_is_nn {Φ : AV → Frame → Ledger → Prop} (h : Φ (.bool true) ρ σ) : OpV P C ρ σ (compareOp .Is) .none .none Φ := by
  rintro _ _ rfl rfl τ s Q E S k
  exact is_none_gen (k _ (.bool _) ρ σ s rfl h S)
theorem cmp_is_rn {a : Addr} {Φ : AV → Frame → Ledger → Prop} (h : Φ (.bool false) ρ σ) : OpV P C ρ σ (compareOp .Is) (.ref a) .none Φ := by
  rintro _ _ rfl rfl τ s Q E S k
  exact is_ref_none (k _ (.bool _) ρ σ s rfl h S)
theorem call_isspace {x : Str} {t : Tok} {Φ : AV → Frame → Ledger → Prop} (h : Φ (.bool (Txt.isspace x)) ρ σ) : WV P C ρ σ (call (.builtin "str.isspace") [.str x t]) Φ :=
  fun τ s Q E S k => SC.isspace (k _ (.bool _) ρ σ s rfl h S)
/-! a call with a starred tuple -/
end
end Mine
end
section -- B45
open PySem PySem.W PySem.Calls PyProof.Rows
set_option Elab.async false
set_option maxRecDepth 100000
set_option linter.unusedVariables false
namespace Mine
section
variable {P : Program} {w : World} {K : Frag} {sc : Scope} {C : Ctxt w K sc} {ρ ρ' : Frame} {σ σ' τ : Ledger} {s : Shared} {A : Around} {E : Value → Shared → Prop}
theorem W.subp {α β : Type} {R : β → α → Prop} {t : Sem α} {Φ : β → Frame → Ledger → Prop} (h : W P R C ρ σ t fun b ρ' σ' => ∃ (σ3 σ'' : Ledger), σ3.Sublist σ' ∧ σ3.Perm σ'' ∧ Φ b ρ' σ'') : W P R C ρ σ t Φ :=
  fun τ s Q E S k => h τ s Q E S fun a b ρ' σ' s' r ⟨σ3, σ'', hs, hp, p⟩ S' => k a b ρ' σ'' s' r p ((S'.sub hs).perm (hp.append_right τ))
theorem x_cont {pos : Pos} {Φ : AFlow → Frame → Ledger → Prop} (h : Φ .cont ρ σ) : WF P C ρ σ (exec (.Continue pos) C.env) Φ :=
  fun τ s Q E S k => wpAny_Continue (k _ .cont ρ σ s rfl h S)
end
end Mine
end
section -- B46
open PySem PySem.W PySem.Calls PyProof.Rows Builtin Builtin.ObjectAttr
set_option Elab.async false
set_option maxRecDepth 100000
set_option linter.unusedVariables false
namespace Mine
theorem findObj_meth {K : Frag} {C : Addr} {o : Obj} {name : Str} {f : Addr} {g : Value} (hh : hasDictIn K C = true) (ha : findIn K (.ref C) name = some (some (.ref f))) (hg : specialIn K (.ref f) "__get__" = some (some g)) (ht : takesIn K (.ref f) = some false) (hl : lookIn name o = some none) (hc : copiedNames.contains name = false) :
    findObj K C (some o) name = some (.bind g (.ref f)) := by
  obtain ⟨cd, hcd, hd⟩ := any_some hh
  unfold findObj
  have ho : W.ownOf cd (some o) name = some none := by unfold W.ownOf; rw [if_pos hd]; exact hl
  have hc' : name ∉ copiedNames := by simpa using hc
  simp [hcd, ha, hg, ht, ho, hc']
noncomputable def methB (K : Frag) (Cc : Addr) (name : Str) (f : Addr) : Bool := plainGetL K Cc && hasDictIn K Cc && mroIn K Cc (.type "list") == some true && findIn K (.ref Cc) name == some (some (.ref f)) && specialIn K (.ref f) "__get__" == some (some (.builtin "function.__get__")) && takesIn K (.ref f) == some false && !copiedNames.contains name &&
  typeIn K (.ref f) == some (.type "function") && (match K.lookup f with | some ⟨_, _, .func _, _⟩ => true | _ => false)
section
variable {P : Program} {w : World} {A : Around} {E : Value → Shared → Prop} {s : Shared} {K : Frag} {x Cc : Addr} {ox : Obj} {od : Option Obj} {name : Str} {expr : Bool} {Q : Value → Shared → Prop}
theorem get_methodL {f : Addr} (X : K.In s.heap) (I : InstAt s.heap x ox Cc od) (hga : findIn K (.ref Cc) "__getattribute__" = some (some (.builtin "list.__getattribute__"))) (hk : findIn K (.ref Cc) "__getattr__" = some none) (hm : mroIn K Cc (.type "list") = some true)
    (hf : findObj K Cc od name = some (.bind (.builtin "function.__get__") (.ref f))) (ht : typeIn K (.ref f) = some (.type "function")) (h : Q (.ref s.heap.objs.size) { s with heap := s.heap.push (methodObj (.ref f) (.ref x)), toks := s.toks + 1 }) : wpAny (model P w) A (getAttr (.ref x) name expr) Q E s := by
  obtain ⟨hp, g, d, t, os⟩ := s
  have L0 := I.type (M := model P w)
  have L1 := looks_findIn (M := model P w) X hga
  have L2 := looks_findIn (M := model P w) X hk
  have L3 := looks_find (M := model P w) X I hf
  unfold getAttr getAttrBy
  refine wpAny_bind (wpAny_mkText (wpAny_holding (wpAny_bind (L0.at (wpAny_bind (L1.at ?_))))))
  show wpAny _ _ (getAttrByItsOwn _ _ _ _ _ _) _ _ _
  unfold getAttrByItsOwn hookBefore
  rw [if_pos (show onTheHeap (.ref Cc) = true from rfl)]
  refine wpAny_bind (L2.at ?_)
  refine wpAny_bind (wpAny_attempt (wpAny_holding ?_))
  unfold callGetattribute
  rw [if_neg (by simp [onTheHeap])]
  unfold boundAndCalled
  refine wpAny_bind (wpAny_of_eq (F.slot_list_getattribute.bind (.ref x)) ?_)
  refine call_biI (P := P) (s := ⟨hp, g, d, t + 1, os⟩) (n := "__getattribute__") F.slot_list_getattribute.plain F.entry_list_ga (by first | exact .inl (by decide +kernel) | exact .inr (by decide +kernel)) (by decide +kernel) X I hm (F.args_list_getattribute_2 _ _) ?_
  refine wpAny_bind (wpAny_pure (wpAny_bind (wpAny_pure (wpAny_bind (L0.at (wpAny_bind (L3.at ?_)))))))
  show wpAny _ _ (holding [.ref f] (call (.builtin "function.__get__") [.ref f, .ref x, .ref Cc]) >>= fun v => ret v) _ _ _
  refine wpAny_bind (wpAny_holding (wpAny_call (fn_get (s := ⟨hp, g, d, t + 1, os⟩) X ht ?_)))
  refine wpAny_pure ⟨_, rfl, ?_⟩
  exact wpAny_pure h
end
section
variable {P : Program} {w : World} {K : Frag} {sc : Scope} {C : Ctxt w K sc} {ρ ρ' : Frame} {σ σ' τ : Ledger} {s : Shared}
theorem callWith_starM {A : Around} {E : Value → Shared → Prop} {f self : Addr} {b : Addr} {fd : FuncData} {pos : Pos} {x : Sem Value} {Q : Value → Shared → Prop}
    (h : wpAny (model P w) A x (fun v s₁ => ∃ t items n o, v = .ref t ∧ s₁.heap.get? t = some o ∧ o.cls = .type "tuple" ∧ o.data = .seq items n ∧ items.size ≤ sizeLine ∧ ∀ h', (∀ c o', s₁.heap.get? c = some o' → h'.get? c = some o') →
      h'.get? b = some (methodObj (.ref f) (.ref self)) ∧ (∃ of, h'.get? f = some of ∧ of.data = .func fd) ∧ wpAny (model P w) A (call (.ref b) items.toList) Q E { s₁ with heap := h' }) E s) :
    wpAny (model P w) A (callWith pos (.ref b) [] [(true, x)] []) Q E s := by
  unfold callWith
  refine wpAny_bind (wpAny_holding ?_)
  unfold evalArgs
  refine wpAny_bind (wpAny_mono h (fun v s₁ h₁ => ?_) fun _ _ z => z)
  obtain ⟨t, items, n, o, rfl, ho, hc, hd, hz, hq⟩ := h₁
  refine wpAny_bind (wpAny_pure (wpAny_holding ?_))
  rw [if_pos (by rfl)]
  refine wpAny_bind (m := evalAll _) (wpAny_pure ?_)
  dsimp only
  have hn : wpAny (model P w) A (notIterableAtAll (.ref t)) (fun b s' => b = false ∧ s' = s₁) E s₁ := by
    unfold notIterableAtAll
    refine wpAny_bind (wpAny_specialOf (T := "tuple") ⟨o, ho, hc⟩ slot_tuple_iter.lookup ?_)
    exact wpAny_pure ⟨rfl, rfl⟩
  refine wpAny_bind (wpAny_bind (wpAny_mono hn (fun b s' hb => ?_) fun _ _ z => z))
  obtain ⟨rfl, rfl⟩ := hb
  rw [if_neg (by decide)]
  refine wpAny_holding (wpAny_collect_seq t (.inr rfl) ho hc hd (fun h' k' => ?_) hz)
  refine wpAny_pure (wpAny_bind (wpAny_standAt ?_))
  obtain ⟨hb, ⟨of, hof, hofd⟩, hcall⟩ := hq h' k'
  refine wpAny_bind (m := keeperOf (.ref b)) ?_
  unfold keeperOf
  refine wpAny_bind (wpAny_load hb ?_)
  show wpAny _ _ (load f >>= _) _ _ _
  refine wpAny_bind (wpAny_load hof ?_)
  rw [hofd]
  refine wpAny_pure ?_
  have tail : ∀ {tt : Sem Value} {s₂ : Shared}, wpAny (model P w) A tt Q E s₂ → wpAny (model P w) A (tt >>= fun r => holding [r] point >>= fun _ => pure r) Q E s₂ :=
    fun ht => wpAny_bind (wpAny_mono ht (fun r s₂ hr => wpAny_bind (wpAny_holding (wpAny_point (wpAny_pure hr)))) fun _ _ x => x)
  exact tail (wpAny_operating hcall)
theorem ev_starM {o e : Expr} {name : Str} {apos sp pos : Pos} {Φ : AV → Frame → Ledger → Prop}
    (h : WV P C ρ σ (eval o C.env) fun a ρ1 σ1 => ∃ x Cc d xs es f, a = .ref x ∧ (x, .acc Cc d xs) ∈ σ1 ∧ (d, .dict es) ∈ σ1 ∧ methB K Cc name f = true ∧ es.lookup name = none ∧
      ∀ b, WV P C ρ1 ((b, .raw (methodObj (.ref f) (.ref x))) :: σ1) (eval e C.env) fun a2 ρ2 σ2 => (b, .raw (methodObj (.ref f) (.ref x))) ∈ σ2 ∧ ∃ t ys, a2 = .ref t ∧ (t, .tuple ys) ∈ σ2 ∧ ys.length ≤ 1000 ∧ ∀ vs, All2 AV.is ys vs → WC P C ρ2 σ2 (.call (.ref f) ⟨.ref x :: vs, []⟩) Φ)
    (he : eval (.Call (.Attribute o name apos) [.Starred e sp] [] pos) C.env = (do
      let ov ← eval o C.env
      standAt apos.atName
      let (f, first) ← holding [ov] (do pure (← getAttr ov name true, ([] : List Value)))
      callWith pos f first (backTo pos (starEach [.Starred e sp] C.env)) []) := by rfl) :
    WV P C ρ σ (eval (.Call (.Attribute o name apos) [.Starred e sp] [] pos) C.env) Φ := by
  intro τ s Q E S k
  have hsz := sizeLine_eq
  rw [he]
  refine wpAny_bind (h τ s _ E S fun v a ρ1 σ1 s1 r p S1 => wpAny_bind (wpAny_standAt (wpAny_bind (wpAny_holding (wpAny_bind ?_)))))
  obtain ⟨x, Cc, d, xs, es, f, rfl, hx, hd, hk, hn, h2⟩ := p
  cases r
  obtain ⟨vs, n, ds, m, I, -, hA⟩ := S1.acc hx hd
  unfold methB plainGetL at hk
  simp only [Bool.and_eq_true, beq_iff_eq, Bool.not_eq_true'] at hk
  obtain ⟨⟨⟨⟨⟨⟨⟨⟨⟨k1, k2⟩, k3⟩, k4⟩, k5⟩, k6⟩, k7⟩, k8⟩, k9⟩, k10⟩ := hk
  refine get_methodL S1.XH I k1 k2 k4 (findObj_meth k3 k5 k6 k7 (by rw [lookIn_dict, getL_none hA hn]) k8) k9 ?_
  have S2 := S1.push (n := s1.toks + 1) (o' := .raw (methodObj (.ref f) (.ref x))) (ob := methodObj (.ref f) (.ref x)) rfl rfl
  refine wpAny_pure ?_
  show wpAny _ _ (callWith pos (.ref s1.heap.objs.size) [] [(true, eval e C.env >>= fun v => standAt pos >>= fun _ => pure v)] []) _ _ _
  obtain ⟨fc, fdd, fd, fsl, hfK⟩ : ∃ c dd fd sl, K.lookup f = some ⟨c, dd, .func fd, sl⟩ := by
    split at k10
    · exact ⟨_, _, _, _, by assumption⟩
    · cases k10
  refine callWith_starM (f := f) (self := x) (fd := fd) ?_
  refine wpAny_bind (h2 _ τ _ _ E S2 fun v a ρ3 σ3 s3 r p3 S3 => wpAny_bind (wpAny_standAt (wpAny_pure ?_)))
  obtain ⟨hb, t, ys, rfl, hm, hz, hq⟩ := p3
  cases r
  obtain ⟨us, ⟨o', ho, hc, n', hd'⟩, hB⟩ := S3.isTup hm
  have hl := hB.length
  refine ⟨t, ⟨us⟩, n', o', rfl, ho, hc, hd', by show us.length ≤ _; omega, fun h' k' => ?_⟩
  have S4 := S3.ext (n := s3.toks) k'
  obtain ⟨ob, hg, e⟩ := S4.get hb
  cases e
  refine ⟨hg, ⟨_, S4.XH _ _ hfK, rfl⟩, ?_⟩
  refine wpAny_call (method_call hg ?_)
  exact hq us hB τ _ _ S4 fun v b ρ' σ' s' hb' hΦ S' => k v b ρ' σ' s' hb' hΦ S'
end
end Mine
end
section -- B47
open PySem PySem.W PySem.Calls PyProof.Rows
set_option Elab.async false
set_option maxRecDepth 100000
set_option linter.unusedVariables false
namespace Mine
theorem rsize_down (n : Nat) : Builtin.Range.rangeSize (n : Int) 0 (-1) = (n : Int) := by
  unfold Builtin.Range.rangeSize
  simp only [show ¬ ((-1 : Int) > 0) by decide, if_false, Int.neg_neg, Int.ediv_one]
  split <;> omega
theorem small_down {n : Nat} (h : n ≤ 1000000) : Builtin.Range.small (n : Int) 0 (-1) = true := by
  unfold Builtin.Range.small
  rw [rsize_down]
  simp only [Builtin.Range.rangeFitsLong, Bool.and_eq_true, Bool.or_eq_true, decide_eq_true_eq, beq_iff_eq, show ¬ ((-1 : Int) > 0) by decide, if_false]
  omega
section
variable {P : Program} {w : World} {K : Frag} {sc : Scope} {C : Ctxt w K sc} {ρ ρ' : Frame} {σ σ' τ : Ledger} {s : Shared} {A : Around} {E : Value → Shared → Prop}
theorem ev_usub {x : Expr} {pos : Pos} {Φ : AV → Frame → Ledger → Prop} (h : WV P C ρ σ (eval x C.env) fun a ρ1 σ1 => ∃ i, a = .int i ∧ Φ (.int (-i)) ρ1 σ1) : WV P C ρ σ (eval (.UnaryOp .USub x pos) C.env) Φ :=
  fun τ s Q E S k => UnaryOp_ (h τ s _ E S fun v a ρ1 σ1 s1 r p S1 => by
    obtain ⟨i, rfl, p⟩ := p
    obtain ⟨t, rfl⟩ := r
    exact PyProof.Rows.neg_int (k _ (.int (-i)) ρ1 σ1 _ ⟨_, rfl⟩ p (S1.toks _)))
theorem src_down {r : Addr} {n : Nat} (hn : n ≤ 1000000) : IterSpec P C (.ref r) ((List.range n).map fun (i : Nat) => AV.int ((n : Int) + i * (-1))) (fun σ => (r, .range n 0 (-1)) ∈ σ) (fun i o => o = { cls := .type "range_iterator", dict := none, data := .fields #[rawInt ((n : Int) + i * (-1)), rawInt ((n : Int) - i), rawInt (-1)], slots := #[] }) :=
  spec_range (small_down hn) (rsize_down n)
end
end Mine
end
section -- B48
open PySem PySem.W PySem.Calls PyProof.Rows
set_option Elab.async false
set_option maxRecDepth 100000
set_option linter.unusedVariables false
namespace Mine
/-! the law called from outside -/
structure TopS (w : World) (K : Frag) (s : Shared) (mg mb : Str → Option Value) : Prop where
  G : s.heap.Ns mainGlobals mg
  Bi : s.heap.Ns builtinsNs mb
  nolim : s.heap.NoLimit
  bi : ∀ x : Str, x ≠ "__name__" → mb x = bootBuiltins x
  bmod : ∃ bm o, mg "__builtins__" = some (.ref bm) ∧ bm ≠ builtinsNs ∧ s.heap.get? bm = some o ∧ o.cls = .type "module" ∧ o.dict = some builtinsNs ∧ o.data = .plain
  X : K.In s.heap
  gens : AllBare s.gens
/-- what the law may change or read by the ledger: of objects that are no part of K, no namespace, no module -/
structure LedS (w : World) (K : Frag) (s : Shared) (σ : Ledger) : Prop where
  led : ∀ p ∈ σ, ∃ o, s.heap.get? p.1 = some o ∧ p.2.is w.params o ∧ (∀ es n, o.data ≠ .dict es n) ∧ o.cls ≠ .type "module"
  nd : (σ.map Prod.fst).Nodup
  hK : ∀ p ∈ σ, K.lookup p.1 = none
section
variable {P : Program} {w : World} {K : Frag} {s : Shared} {mg mb : Str → Option Value} {σ : Ledger}
theorem LedS.ns (L : LedS w K s σ) {a : Addr} {m : Str → Option Value} (h : s.heap.Ns a m) : a ∉ σ.map Prod.fst := by
  intro hm
  obtain ⟨p, hp, rfl⟩ := List.mem_map.mp hm
  obtain ⟨o, e, -, hd, -⟩ := L.led p hp
  obtain ⟨o', es, ep, e', hdd, -⟩ := h
  rw [e] at e'; cases e'
  exact hd _ _ hdd
theorem LedS.keep (L : LedS w K s σ) {b : Addr} {o : Obj} (e : s.heap.get? b = some o) (hb : b ∉ σ.map Prod.fst) : (hideAll s.heap (σ.map Prod.fst)).get? b = some o := hideAll_get _ e hb
theorem LedS.nsKeep (L : LedS w K s σ) {a : Addr} {m : Str → Option Value} (h : s.heap.Ns a m) : (hideAll s.heap (σ.map Prod.fst)).Ns a m := h.at' fun o e => L.keep e (L.ns h)
noncomputable def topC (w : World) (K : Frag) (s : Shared) (mg mb : Str → Option Value) (σ : Ledger) (T : TopS w K s mg mb) (L : LedS w K s σ) (sc' : Scope) (env : Env) (h1 : env.scope = sc') (h2 : sc'.kind = .function) (h3 : env.locals = s.heap.objs.size) (h4 : env.globals = mainGlobals) (h5 : env.builtins = builtinsNs) : Ctxt w K sc' :=
  { A := callerA.deeper env, h₀ := hideAll s.heap (σ.map Prod.fst), L := s.heap.objs.size, os := s.os, d := 50, env := env, hsc := h1, hkind := h2, hL := h3, hG := h4, hB := h5,
    hand := rfl, X := fun a o e => L.keep (T.X a o e) (fun hm => by
      obtain ⟨p, hp, rfl⟩ := List.mem_map.mp hm
      rw [L.hK p hp] at e; cases e), mg := mg, mb := mb, G := L.nsKeep T.G, Bi := L.nsKeep T.Bi,
    nolim := (let ⟨mc, h, e⟩ := T.nolim; ⟨mc, L.nsKeep h, e⟩), bi := T.bi,
    room := (by show callerA.depth + 1 + 50 < _; decide +kernel),
    units := (by show callerA.units + 3 + 60 * 50 < _; decide +kernel)
    bmod := let ⟨bm, o, h1, h2, h3, h4, h5⟩ := T.bmod; ⟨bm, o, h1, h2, L.keep h3 (fun hm => by
      obtain ⟨p, hp, rfl⟩ := List.mem_map.mp hm
      obtain ⟨o', e, -, -, hc⟩ := L.led p hp
      rw [e] at h3; cases h3
      exact hc h4), h4, h5⟩ }
theorem top_start {env : Env} {sc' : Scope} {h1 h2 h3 h4 h5} {T : TopS w K s mg mb} {L : LedS w K s σ} {ρ' : Frame} {m' : Str → Option Value} {h' : Heap} {n : Nat} (hns : h'.Ns s.heap.objs.size m') (hk : ∀ b o, s.heap.get? b = some o → h'.get? b = some o)
    (hm : mOk ρ' m') (nd : (ρ'.map Prod.fst).Nodup) : St (topC w K s mg mb σ T L sc' env h1 h2 h3 h4 h5) ρ' σ { s with heap := h', toks := n } := by
  refine ⟨⟨m', ⟨hns, fun b o e => hk b o (of_hideAll _ e), Nat.le_of_eq (hideAll_size _ _)⟩, hm⟩, fun p hp => ?_, L.nd, nd, rfl, T.gens⟩
  obtain ⟨o, e, i, -⟩ := L.led p hp
  exact ⟨⟨o, hk _ _ e, i⟩, Nat.ne_of_lt (Heap.lt_size e), hideAll_none _ (List.mem_map_of_mem hp)⟩
theorem top_fnC {sc' : Scope} {f : Addr} {name qual : Str} {params : Arguments} {body : List Stmt} {dV kV doc pm cdv ct oc : Value} {an od : Option Addr} {osl : Array (Option Value)} {names : List Str} {args : List AV} {vs : List Value} {ρ₁ : Frame} {cn : List (Str × Option AV)} {Φ : AV → Frame → Ledger → Prop} {Q : Value → Shared → Prop} {E : Value → Shared → Prop}
    (T : TopS w K s mg mb) (L : LedS w K s σ)
    (ho : K.lookup f = some ⟨oc, od, .func (fnX name qual params body sc' [] dV kV doc pm an cdv ct), osl⟩)
    (hb : ∀ (h : Shared), K.In h.heap → ∃ bs, BindsTo h (fnX name qual params body sc' [] dV kV doc pm an cdv ct) ⟨vs, []⟩ bs ∧ BindIs names args bs)
    (hcd : codeIn K cdv qual = true) (hnn : names.Nodup) (nd : (sc'.names.map Prod.fst).Nodup) (hk2 : (names.all fun y => sc'.names.lookup y == some .local || sc'.names.lookup y == some .cell) = true)
    (hρ : ρ₁ = frameOf sc'.names (names.zip args)) (hcn : cn = cellsOf sc'.names (names.zip args)) (hcnd : ((cellsFrom 0 sc'.names []).map (·.1)).Nodup)
    (hco : sc'.isCoroutine = false) (hgen : sc'.isGenerator = false) (hk : sc'.kind = .function)
    (h : ∀ C' : Ctxt w K sc', C'.d = 50 → ForCells cn fun cs l => C'.env.cells = cs → WF P C' ρ₁ (l ++ σ) (execs body C'.env) fun fl ρ' σ' => Φ fl.val ρ' σ')
    (k : ∀ v a ρ' σ' s', a.is v → Φ a ρ' σ' → (∀ b o, b ∉ σ.map Prod.fst → s.heap.get? b = some o → s'.heap.get? b = some o) → (∀ p ∈ σ', ∃ o, s'.heap.get? p.1 = some o ∧ p.2.is w.params o) → s'.os = s.os → AllBare s'.gens → Q v s') :
    wpAny (model P w) callerA (call (.ref f) vs) Q E s := by
  obtain ⟨bs, hb1, hb2⟩ := hb s T.X
  have hkb : (bs.all fun y => sc'.names.lookup y.1 == some .local || sc'.names.lookup y.1 == some .cell) = true := by
    refine List.all_eq_true.mpr fun p hp => List.all_eq_true.mp hk2 _ ?_
    rw [← hb2.keys]; exact List.mem_map_of_mem hp
  have hbnd : (bs.map Prod.fst).Nodup := by rw [hb2.keys]; exact hnn
  refine wpAny_call (codeAny_call_function (fd := fnX name qual params body sc' [] dV kV doc pm an cdv ct) (body := body) (by decide +kernel) (T.X _ _ ho) rfl hco hgen rfl (codeRec_of T.X hcd) (hb1 _ _ _ _ ?_))
  refine wpAny_newFunctionEnv_cells hk (kindsX hkb _) fun env' he s' x => ?_
  subst he
  refine ⟨T.nolim.keeps x.toInCall.keep, codeAny_func ?_⟩
  obtain ⟨h₁, tk, rfl, hk₁⟩ := x.done
  have hkind : ∀ y, Env.kindOf (newEnv sc' s.heap.objs.size mainGlobals (cellsFrom (s.heap.objs.size + 1) sc'.names []) (qual ++ ".<locals>.") (some f) cdv none builtinsNs) y = sc'.names.lookup y := fun y => rfl
  have hmok : mOk ρ₁ (bindL (Env.kindOf (newEnv sc' s.heap.objs.size mainGlobals (cellsFrom (s.heap.objs.size + 1) sc'.names []) (qual ++ ".<locals>.") (some f) cdv none builtinsNs)) bs fun _ => none) := by
    intro y
    rw [bindL_eq _ _ _ _ hbnd, hkind, hρ]
    unfold frameOf
    rw [lookup_map2 (fun x => (names.zip args).lookup x)]
    by_cases hl : sc'.names.lookup y = some .local
    · rw [if_pos ((mem_locals nd y).mpr hl), if_pos hl, Option.or_none]
      have := hb2.at y
      cases e : (names.zip args).lookup y with
      | none => rw [e] at this; exact this
      | some a => rw [e] at this; obtain ⟨v, h1, h2⟩ := this; exact ⟨v, h1, h2⟩
    · rw [if_neg (fun q => hl ((mem_locals nd y).mp q)), if_neg hl]
  have hnd : (ρ₁.map Prod.fst).Nodup := by
    rw [hρ]; unfold frameOf
    rw [List.map_map]
    exact nd.sublist ((List.filter_sublist (l := sc'.names)).map Prod.fst)
  have S₀ := top_start (T := T) (L := L) (sc' := sc') (env := newEnv sc' s.heap.objs.size mainGlobals (cellsFrom (s.heap.objs.size + 1) sc'.names []) (qual ++ ".<locals>.") (some f) cdv none builtinsNs) (h1 := rfl) (h2 := hk) (h3 := rfl) (h4 := rfl) (h5 := rfl) (n := tk) x.toInCall.ns hk₁ hmok hnd
  have hcells : ∀ n c, (n, c) ∈ cellsFrom (s.heap.objs.size + 1) sc'.names [] → (∃ o, h₁.get? c = some o ∧ (AObj.cell ((names.zip args).lookup n)).is w.params o) ∧ s.heap.objs.size < c := by
    intro n c hmem
    have hnl : sc'.names.lookup n ≠ some .local := by
      intro q
      rcases kinds_cell _ _ _ _ _ hmem with h | h
      · cases h
      · have := (mem_locals nd n).mpr q
        obtain ⟨p, hp, e⟩ := List.mem_map.mp this
        obtain ⟨hp1, hp2⟩ := List.mem_filter.mp hp
        have : p.2 = .local := by simpa using hp2
        have e1 := lookup_of_mem_nodup' nd h
        rw [e1] at q; cases q
    obtain ⟨o, ho, hod⟩ := x.cell n c (lookup_of_mem_nodup (cellsFrom_names sc'.names 0 (s.heap.objs.size + 1) [] [] rfl ▸ hcnd) hmem)
    refine ⟨⟨o, ho, ?_⟩, x.above n c hmem⟩
    rw [bindC_eq _ _ _ _ hbnd (by rw [hkind]; exact hnl), Option.or_none] at hod
    have := hb2.at n
    cases e : (names.zip args).lookup n with
    | none => rw [e] at this; rw [this] at hod; exact hod
    | some a => rw [e] at this; obtain ⟨v, h1, h2⟩ := this; rw [h1] at hod; exact ⟨v, hod, h2⟩
  have S₁ : St (topC w K s mg mb σ T L sc' (newEnv sc' s.heap.objs.size mainGlobals (cellsFrom (s.heap.objs.size + 1) sc'.names []) (qual ++ ".<locals>.") (some f) cdv none builtinsNs) rfl hk rfl rfl rfl) ρ₁
      (((cellsFrom (s.heap.objs.size + 1) sc'.names []).map fun p => (p.2, AObj.cell ((names.zip args).lookup p.1))) ++ σ ++ []) { s with heap := h₁, toks := tk } := by
    rw [List.append_nil]
    refine ⟨S₀.fr, fun p hp => ?_, ?_, S₀.kn, S₀.os, S₀.gens⟩
    · rcases List.mem_append.mp hp with hp | hp
      · obtain ⟨q, hq, rfl⟩ := List.mem_map.mp hp
        obtain ⟨h1, h2⟩ := hcells q.1 q.2 hq
        refine ⟨h1, Nat.ne_of_gt h2, ?_⟩
        show (hideAll s.heap _).get? q.2 = none
        cases e : (hideAll s.heap (σ.map Prod.fst)).get? q.2 with
        | none => rfl
        | some o' => exact absurd (Heap.lt_size (of_hideAll _ e)) (Nat.lt_asymm h2)
      · exact S₀.led p hp
    · rw [List.map_append, List.nodup_append]
      refine ⟨?_, S₀.nd, ?_⟩
      · rw [List.map_map]
        have := x.apart
        exact List.pairwise_map.mpr this
      · intro a ha b hb' e
        subst e
        obtain ⟨q0, hq0, e0⟩ := List.mem_map.mp ha
        obtain ⟨q, hq, e1⟩ := List.mem_map.mp hq0
        obtain ⟨p, hp, e⟩ := List.mem_map.mp hb'
        have h1 := (hcells q.1 q.2 hq).2
        obtain ⟨o', e', -⟩ := L.led p hp
        have h2 := Heap.lt_size e'
        have e' : p.1 = q.2 := by rw [e, ← e0, ← e1]
        rw [e'] at h2
        exact Nat.lt_asymm h1 h2
  have hh := (h (topC w K s mg mb σ T L sc' (newEnv sc' s.heap.objs.size mainGlobals (cellsFrom (s.heap.objs.size + 1) sc'.names []) (qual ++ ".<locals>.") (some f) cdv none builtinsNs) rfl hk rfl rfl rfl) rfl).at (args := names.zip args) (cellsFrom (s.heap.objs.size + 1) sc'.names []) (by
    rw [hcn]; unfold cellsOf
    have e := cellsFrom_names sc'.names 0 (s.heap.objs.size + 1) [] [] rfl
    have key : ∀ l l' : List (Str × Addr), l.map (·.1) = l'.map (·.1) → l.map (fun p => (p.1, (names.zip args).lookup p.1)) = l'.map fun p => (p.1, (names.zip args).lookup p.1) := by
      intro l l' q
      have := congrArg (List.map fun x => (x, (names.zip args).lookup x)) q
      simpa [List.map_map, Function.comp_def] using this
    exact key _ _ e)
  refine hh rfl [] _ _ _ S₁ fun fl b ρ' σ' s' r p S' => ?_
  obtain ⟨m', F', _⟩ := S'.fr
  have hkeep : ∀ b o, b ∉ σ.map Prod.fst → s.heap.get? b = some o → s'.heap.get? b = some o := fun b o hb e => F'.keep b o (L.keep e hb)
  have hled : ∀ p ∈ σ', ∃ o, s'.heap.get? p.1 = some o ∧ p.2.is w.params o := fun p hp => (S'.led p (List.mem_append_left _ hp)).1
  cases b with
  | ret a => obtain ⟨v, rfl, ha⟩ := r; exact k v a ρ' σ' s' ha p hkeep hled S'.os S'.gens
  | next => cases r; exact k .none .none ρ' σ' s' rfl p hkeep hled S'.os S'.gens
  | brk => cases r; exact k .none .none ρ' σ' s' rfl p hkeep hled S'.os S'.gens
  | cont => cases r; exact k .none .none ρ' σ' s' rfl p hkeep hled S'.os S'.gens
end
end Mine
end
section -- B49
open PySem PySem.W PySem.Calls PyProof.Rows
set_option Elab.async false
set_option maxRecDepth 100000
set_option linter.unusedVariables false
namespace Mine
section
variable {P : Program} {w : World} {K : Frag} {sc : Scope} {C : Ctxt w K sc} {ρ ρ' : Frame} {σ σ' τ : Ledger} {s : Shared} {A : Around} {E : Value → Shared → Prop}
/-- a slice of a list -/
theorem sub_listS {e sle : Expr} {l sl : Addr} {xs : List AV} {lo hi : AV} {p q : Option Int} {a b : Nat} {Φ : AV → Frame → Ledger → Prop} (hm : (l, .list xs) ∈ σ) (hsl : (sl, .slice lo hi .none) ∈ σ) (hp : lo.part = some p) (hq : hi.part = some q)
    (hb : sliceBounds p q none xs.length = ((a : Int), (b : Int), 1)) (hz : xs.length ≤ sizeLine) (h : ∀ D, Φ (.ref D) ρ ((D, .list ((xs.drop a).take (b - a))) :: σ))
    (hs : subscripted sle false (.ref l) (.ref sl) = operate [.ref sl, .ref l] (getItem (.ref l) (.ref sl)) := by with_unfolding_all rfl) :
    OpV P C ρ σ (subscriptTail e sle) (.ref l) (.ref sl) Φ := by
  rintro _ _ rfl rfl τ s Q E S kk
  obtain ⟨vs, hl, hA⟩ := S.isList hm
  obtain ⟨os, hos, va, vb, vc, rfl, hva, hvb, hvc⟩ := S.get hsl
  cases hvc
  have hlen := hA.length
  unfold subscriptTail
  refine wpAny_bind ?_
  rw [getitemInPython_of_ne (by intro q; cases q)]
  refine wpAny_bind (wpAny_specialOf hl.typeIs list_getitem_lookup ?_)
  have fin : wpAny (model P w) C.A (subscripted sle false (.ref l) (.ref sl)) (fun r s₃ => wpAny (model P w) C.A (letTemporaryGo e (.ref l) r >>= fun _ => pure r) Q E s₃) E s := by
    rw [hs]
    refine wpAny_operating (wpAny_mono (wpAny_getItem_list_slice hl ⟨_, hos, rfl, rfl⟩ (AV.isPart hva hp) (AV.isPart hvb hq) .none (by simp) ?_ (by show vs.length ≤ _; omega)) (fun r s₃ h₃ => wpAny_bind (wpAny_letTemporaryGo (wpAny_pure h₃))) fun _ _ x => x)
    have hb' : sliceBounds p q none (⟨vs⟩ : Array Value).size = ((a : Int), (b : Int), 1) := by
      show sliceBounds p q none vs.length = _
      rw [← hlen]; exact hb
    rw [kmk_pick_nat ⟨vs⟩ hb']
    exact kk _ (.ref s.heap.objs.size) ρ _ _ rfl (h _) (S.push (n := s.toks) ⟨(vs.drop a).take (b - a), 0, rfl, (hA.drop a).take (b - a)⟩ rfl)
  first
    | exact wpAny_pure (wpAny_bind fin)
    | exact wpAny_bind (wpAny_pure (wpAny_bind fin))
    | exact wpAny_bind fin
/-- a slice of a text -/
theorem sub_strS {e sle : Expr} {sl : Addr} {x : Str} {i j : Int} {Φ : AV → Frame → Ledger → Prop} (hsl : (sl, .slice (.int i) (.int j) .none) ∈ σ) (hz : x.length ≤ sizeLine) (h : Φ (.str (Txt.slice x (some i) (some j))) ρ σ)
    (hs : ∀ t, subscripted sle false (.str x t) (.ref sl) = operate [.ref sl, .str x t] (getItem (.str x t) (.ref sl)) := by intro t; with_unfolding_all rfl) :
    OpV P C ρ σ (subscriptTail e sle) (.str x) (.ref sl) Φ := by
  rintro _ _ ⟨t, rfl⟩ rfl τ s Q E S kk
  obtain ⟨os, hos, va, vb, vc, rfl, ⟨ti, rfl⟩, ⟨tj, rfl⟩, hvc⟩ := S.get hsl
  cases hvc
  unfold subscriptTail
  refine wpAny_bind ?_
  rw [getitemInPython_of_ne (by intro q; cases q)]
  refine wpAny_bind (wpAny_specialOf (typeIs_str _ _ _) F.slot_str_getitem.lookup ?_)
  have fin : wpAny (model P w) C.A (subscripted sle false (.str x t) (.ref sl)) (fun r s₃ => wpAny (model P w) C.A (letTemporaryGo e (.str x t) r >>= fun _ => pure r) Q E s₃) E s := by
    rw [hs]
    refine wpAny_operating (wpAny_mono (Q := Q) (E := E) (wpAny_getItem_str_slice (l := some (i, ti)) (u := some (j, tj)) (st := none) ⟨_, hos, rfl, rfl⟩ rfl (post_val_or_str ⟨Nat.le_trans (Txt.slice_le x _ _) hz, fun t' k => ?_⟩)) (fun r s₃ h₃ => wpAny_bind (wpAny_letTemporaryGo (wpAny_pure h₃))) fun _ _ x => x)
    exact kk _ (.str (Txt.slice x (some i) (some j))) ρ σ _ ⟨t', rfl⟩ h (S.toks k)
  first
    | exact wpAny_pure (wpAny_bind fin)
    | exact wpAny_bind (wpAny_pure (wpAny_bind fin))
    | exact wpAny_bind fin
theorem tr_list {l : Addr} {xs : List AV} {Φ : Bool → Frame → Ledger → Prop} (hm : (l, .list xs) ∈ σ) (hz : xs.length ≤ sizeLine) (h : Φ (!xs.isEmpty) ρ σ) : TruthA P C Φ (.ref l) ρ σ := by
  rintro _ rfl τ s Q E S k
  obtain ⟨vs, hl, hA⟩ := S.isList hm
  have hlen := hA.length
  have hsz := sizeLine_eq
  refine wpAny_truthy_list hl (by show ((vs.length : Nat) : Int) < _; omega) ?_
  have e : (!(⟨vs⟩ : Array Value).isEmpty) = !xs.isEmpty := by
    cases hA with
    | nil => rfl
    | cons _ _ => simp
  rw [e]
  exact k _ _ ρ σ _ rfl h (S.toks _)
/-- a comprehension stored in a cell -/
theorem swaps_cell {t : Str} {p1 : Pos} {elt : Expr} {gens : List Comprehension} {scope : Scope} {cpos : Pos} {n : Nat} (hk : sc.names.lookup t = some .cell) : swapsWith (.ListComp elt gens scope cpos) (some (.Name t p1)) n C.env = pure false := by
  unfold swapsWith
  have h1 : C.env.blockKind = .function := by unfold Env.blockKind; rw [C.kind]; rfl
  simp only [h1, C.kindOf hk]
  rfl
end
theorem bounds_upto (n : Nat) (k : Nat) : sliceBounds none (some (k : Int)) none n = (((0 : Nat) : Int), ((min k n : Nat) : Int), 1) := by
  simp only [sliceBounds, Option.getD_none]
  have h1 : ¬ ((k : Int) < 0) := by omega
  simp only [h1, if_false, show (1 : Int) > 0 by decide, if_true]
  congr 1
  congr 1
  omega
theorem bounds_fromM (n : Nat) (k : Nat) : sliceBounds (some (k : Int)) none none n = (((min k n : Nat) : Int), (n : Int), 1) := by
  simp only [sliceBounds, Option.getD_none]
  have h1 : ¬ ((k : Int) < 0) := by omega
  simp only [h1, if_false, show (1 : Int) > 0 by decide, if_true]
  congr 1
  omega
end Mine
end
section -- B50
open PySem PySem.W PySem.Calls PyProof.Rows
set_option Elab.async false
set_option maxRecDepth 100000
set_option linter.unusedVariables false
namespace Mine
theorem pick_sub {α : Type} : ∀ (σ : List α) (is : List Nat), is.Nodup → ∃ σ3 : List α, σ3.Sublist σ ∧ σ3.Perm (is.filterMap fun i => σ[i]?)
  | [], is, _ => ⟨[], .refl _, by
    have e : (is.filterMap fun i => ([] : List α)[i]?) = [] := by
      rw [List.filterMap_eq_nil_iff]; intro a _; rfl
    rw [e]⟩
  | a :: σ, is, hn => by
    have hn' : (is.filter (· != 0)).Nodup := hn.filter _
    have hn2 : ((is.filter (· != 0)).map (· - 1)).Nodup := by
      refine List.pairwise_map.mpr (List.Pairwise.imp_of_mem (fun {x y} hx hy h e => h ?_) hn')
      have h1 := (List.mem_filter.mp hx).2
      have h2 := (List.mem_filter.mp hy).2
      simp at h1 h2
      omega
    obtain ⟨σ3, h1, h2⟩ := pick_sub σ _ hn2
    have e : ((is.filter (· != 0)).map (· - 1)).filterMap (fun i => σ[i]?) = (is.filter (· != 0)).filterMap (fun i => (a :: σ)[i]?) := by
      rw [List.filterMap_map]
      have key : ∀ l : List Nat, (∀ x ∈ l, x ≠ 0) → l.filterMap ((fun i => σ[i]?) ∘ (· - 1)) = l.filterMap (fun i => (a :: σ)[i]?) := by
        intro l
        induction l with
        | nil => intro _; rfl
        | cons x r ih =>
          intro h
          obtain ⟨k, rfl⟩ := Nat.exists_eq_succ_of_ne_zero (h x (.head _))
          have ih := ih fun y hy => h y (.tail _ hy)
          rw [List.filterMap_cons, List.filterMap_cons, ih]
          rfl
      refine key _ fun x hx => ?_
      have h1 := (List.mem_filter.mp hx).2
      simpa using h1
    rw [e] at h2
    by_cases h0 : 0 ∈ is
    · refine ⟨a :: σ3, h1.cons_cons a, ?_⟩
      have hp : is.Perm (0 :: is.filter (· != 0)) := by
        have h3 := List.perm_cons_erase h0
        refine h3.trans (.cons _ ?_)
        rw [hn.erase_eq_filter]
      have h4 := hp.filterMap (fun i => (a :: σ)[i]?)
      exact (h2.cons a).trans h4.symm
    · refine ⟨σ3, h1.cons a, ?_⟩
      have e2 : is.filter (· != 0) = is := List.filter_eq_self.mpr fun x hx => by
        have : x ≠ 0 := fun q => h0 (q ▸ hx)
        simpa using this
      rw [e2] at h2
      exact h2
section
variable {P : Program} {w : World} {K : Frag} {sc : Scope} {C : Ctxt w K sc} {ρ : Frame} {σ σ' : Ledger}
/-- keep of the ledger what stands at the given places, in the given order -/
theorem W.pick {α β : Type} {R : β → α → Prop} {t : Sem α} {Φ : β → Frame → Ledger → Prop} (is : List Nat) (hn : is.Nodup) (e : (is.filterMap fun i => σ[i]?) = σ') (h : W P R C ρ σ' t Φ) : W P R C ρ σ t Φ := by
  obtain ⟨σ3, h1, h2⟩ := pick_sub σ is hn
  rw [e] at h2
  exact W.less h1 (W.perm h2 h)
end
end Mine
end
section -- B51
open PySem PySem.W PySem.Calls PyProof.Rows
set_option Elab.async false
set_option maxRecDepth 100000
set_option linter.unusedVariables false
namespace Mine
section
variable {P : Program} {w : World} {K : Frag} {sc : Scope} {C : Ctxt w K sc} {ρ : Frame} {σ σ' τ : Ledger} {s : Shared}
/-- a list known to the sign -/
noncomputable abbrev rawList (vs : List Value) (n : Nat) : AObj := .raw { cls := .type "list", data := .seq ⟨vs⟩ n }
theorem St.isListR (S : St C ρ (σ ++ τ) s) {l : Addr} {vs : List Value} {n : Nat} (h : (l, rawList vs n) ∈ σ) : s.heap.IsList l ⟨vs⟩ := by
  obtain ⟨ob, hg, rfl⟩ := S.get h
  exact ⟨_, hg, rfl, n, rfl⟩
theorem sub_listSR {e sle : Expr} {l sl : Addr} {vs : List Value} {n : Nat} {xs : List AV} {lo hi : AV} {p q : Option Int} {a b : Nat} {Φ : AV → Frame → Ledger → Prop} (hm : (l, rawList vs n) ∈ σ) (hA : All2 AV.is xs vs) (hsl : (sl, .slice lo hi .none) ∈ σ) (hp : lo.part = some p) (hq : hi.part = some q)
    (hb : sliceBounds p q none xs.length = ((a : Int), (b : Int), 1)) (hz : xs.length ≤ sizeLine) (h : ∀ D, Φ (.ref D) ρ ((D, .list ((xs.drop a).take (b - a))) :: σ))
    (hs : subscripted sle false (.ref l) (.ref sl) = operate [.ref sl, .ref l] (getItem (.ref l) (.ref sl)) := by with_unfolding_all rfl) :
    OpV P C ρ σ (subscriptTail e sle) (.ref l) (.ref sl) Φ := by
  rintro _ _ rfl rfl τ s Q E S kk
  have hl := S.isListR hm
  obtain ⟨os, hos, va, vb, vc, rfl, hva, hvb, hvc⟩ := S.get hsl
  cases hvc
  have hlen := hA.length
  unfold subscriptTail
  refine wpAny_bind ?_
  rw [getitemInPython_of_ne (by intro q; cases q)]
  refine wpAny_bind (wpAny_specialOf hl.typeIs list_getitem_lookup ?_)
  have fin : wpAny (model P w) C.A (subscripted sle false (.ref l) (.ref sl)) (fun r s₃ => wpAny (model P w) C.A (letTemporaryGo e (.ref l) r >>= fun _ => pure r) Q E s₃) E s := by
    rw [hs]
    refine wpAny_operating (wpAny_mono (wpAny_getItem_list_slice hl ⟨_, hos, rfl, rfl⟩ (AV.isPart hva hp) (AV.isPart hvb hq) .none (by simp) ?_ (by show vs.length ≤ _; omega)) (fun r s₃ h₃ => wpAny_bind (wpAny_letTemporaryGo (wpAny_pure h₃))) fun _ _ x => x)
    have hb' : sliceBounds p q none (⟨vs⟩ : Array Value).size = ((a : Int), (b : Int), 1) := by
      show sliceBounds p q none vs.length = _
      rw [← hlen]; exact hb
    rw [kmk_pick_nat ⟨vs⟩ hb']
    exact kk _ (.ref s.heap.objs.size) ρ _ _ rfl (h _) (S.push (n := s.toks) ⟨(vs.drop a).take (b - a), 0, rfl, (hA.drop a).take (b - a)⟩ rfl)
  first
    | exact wpAny_pure (wpAny_bind fin)
    | exact wpAny_bind (wpAny_pure (wpAny_bind fin))
    | exact wpAny_bind fin
theorem call_len_listR {l : Addr} {us : List Value} {n : Nat} {Φ : AV → Frame → Ledger → Prop} (hm : (l, rawList us n) ∈ σ) (hz : us.length ≤ sizeLine) (h : Φ (.int us.length) ρ σ) : Then P C (fun vs => call (.builtin "len") vs) Φ [.ref l] ρ σ := by
  intro vs rs τ s Q E S k
  cases rs with | cons h1 h2 => cases h2; cases h1; exact (by
    have hl := S.isListR hm
    have := sizeLine_eq
    exact Calls.call_len_list hl (by show (us.length : Int) < _; omega) (k _ (.int us.length) ρ σ _ ⟨s.toks + 1, rfl⟩ h (S.toks _)))
end
end Mine
end
section -- B52
open PySem PySem.W PySem.Calls PyProof.Rows
set_option Elab.async false
set_option maxRecDepth 100000
set_option linter.unusedVariables false
namespace Mine
theorem mget {α : Type} {l : List α} (i : Nat) {p : α} (h : l[i]? = some p) : p ∈ l := List.mem_of_getElem? h
section
variable {P : Program} {w : World} {K : Frag} {sc : Scope} {C : Ctxt w K sc} {ρ : Frame} {σ σ' τ : Ledger} {s : Shared}
/-! arguments known to the token -/
theorem All2.inv {α β : Type} {R : α → β → Prop} {a : α} {l : List α} {m : List β} (h : All2 R (a :: l) m) : ∃ b m', m = b :: m' ∧ R a b ∧ All2 R l m' := by
  cases h with | cons h1 h2 => exact ⟨_, _, rfl, h1, h2⟩
theorem All2.inv0 {α β : Type} {R : α → β → Prop} {m : List β} (h : All2 R [] m) : m = [] := by
  cases h with | nil => rfl
theorem th_nil {f : List Value → Sem Value} {Φ : AV → Frame → Ledger → Prop} (h : WV P C ρ σ (f []) Φ) : Then P C f Φ [] ρ σ :=
  fun vs hv => by rw [hv.inv0]; exact h
theorem th_ref {f : List Value → Sem Value} {a : Addr} {as : List AV} {Φ : AV → Frame → Ledger → Prop} (h : Then P C (fun vs => f (.ref a :: vs)) Φ as ρ σ) : Then P C f Φ (.ref a :: as) ρ σ :=
  fun vs hv => by obtain ⟨b, m, rfl, h1, h2⟩ := hv.inv; rw [show b = .ref a from h1]; exact h m h2
theorem th_int {f : List Value → Sem Value} {i : Int} {as : List AV} {Φ : AV → Frame → Ledger → Prop} (h : ∀ t, Then P C (fun vs => f (.int i t :: vs)) Φ as ρ σ) : Then P C f Φ (.int i :: as) ρ σ :=
  fun vs hv => by obtain ⟨b, m, rfl, ⟨t, rfl⟩, h2⟩ := hv.inv; exact h t m h2
theorem th_str {f : List Value → Sem Value} {i : Str} {as : List AV} {Φ : AV → Frame → Ledger → Prop} (h : ∀ t, Then P C (fun vs => f (.str i t :: vs)) Φ as ρ σ) : Then P C f Φ (.str i :: as) ρ σ :=
  fun vs hv => by obtain ⟨b, m, rfl, ⟨t, rfl⟩, h2⟩ := hv.inv; exact h t m h2
theorem th_i {f : List Value → Sem Value} {i : Int} {Φ : AV → Frame → Ledger → Prop} (h : ∀ t, WV P C ρ σ (f [.int i t]) Φ) : Then P C f Φ [.int i] ρ σ := th_int fun t => th_nil (h t)
theorem th_s {f : List Value → Sem Value} {i : Str} {Φ : AV → Frame → Ledger → Prop} (h : ∀ t, WV P C ρ σ (f [.str i t]) Φ) : Then P C f Φ [.str i] ρ σ := th_str fun t => th_nil (h t)
theorem th_r {f : List Value → Sem Value} {a : Addr} {Φ : AV → Frame → Ledger → Prop} (h : WV P C ρ σ (f [.ref a]) Φ) : Then P C f Φ [.ref a] ρ σ := th_ref (th_nil h)
theorem th_ri {f : List Value → Sem Value} {a : Addr} {i : Int} {Φ : AV → Frame → Ledger → Prop} (h : ∀ t, WV P C ρ σ (f [.ref a, .int i t]) Φ) : Then P C f Φ [.ref a, .int i] ρ σ := th_ref (th_i h)
theorem th_rii {f : List Value → Sem Value} {a : Addr} {i j : Int} {Φ : AV → Frame → Ledger → Prop} (h : ∀ t u, WV P C ρ σ (f [.ref a, .int i t, .int j u]) Φ) : Then P C f Φ [.ref a, .int i, .int j] ρ σ := th_ref (th_int fun t => th_i (h t))
theorem th_ss {f : List Value → Sem Value} {i j : Str} {Φ : AV → Frame → Ledger → Prop} (h : ∀ t u, WV P C ρ σ (f [.str i t, .str j u]) Φ) : Then P C f Φ [.str i, .str j] ρ σ := th_str fun t => th_s (h t)
/-! comprehensions with their results named -/
theorem loop_to {α : Type} {x : Str} {ifs : List Expr} {elt : Expr} {xs : List AV} {src : Ledger → Prop} {Ψ : List AV → Frame → Ledger → Prop} {z₀ : Option AV} {us : List α} {ys : List AV} (g : α → AV) (p : α → Bool) (f : α → AV) (hxs : xs = us.map g) (hys : (us.filter p).map f = ys)
    (hsrc : src σ) (hz : us.length ≤ sizeLine) (hk : sc.names.lookup x = some .local)
    (h : ∀ (i : Nat) (u : α), us[i]? = some u → WB P C [(x, some (g u))] σ (testsT ifs C.env) fun ok ρ' σ' => ok = p u ∧ ρ' = [(x, some (g u))] ∧ σ.Sublist σ' ∧
      (p u = true → WV P C ρ' σ (eval elt C.env) fun a ρ'' σ'' => a = f u ∧ (∃ z, ρ'' = [(x, z)]) ∧ σ.Sublist σ''))
    (fin : ∀ z, Ψ ys [(x, z)] σ) : Loop1 P C x ifs xs src (Emit1 P C elt) [] [(x, z₀)] σ Ψ :=
  loop_filter g p f hxs hsrc (by rw [List.length_nil, Nat.zero_add]; exact hz) hk h (fun z => by rw [List.nil_append, hys]; exact fin z)
theorem loop_all {α : Type} {x : Str} {elt : Expr} {xs : List AV} {src : Ledger → Prop} {Ψ : List AV → Frame → Ledger → Prop} {z₀ : Option AV} {us : List α} {ys : List AV} (g : α → AV) (f : α → AV) (hxs : xs = us.map g) (hys : us.map f = ys)
    (hsrc : src σ) (hz : us.length ≤ sizeLine) (hk : sc.names.lookup x = some .local)
    (h : ∀ (i : Nat) (u : α), us[i]? = some u → WV P C [(x, some (g u))] σ (eval elt C.env) fun a ρ'' σ'' => a = f u ∧ (∃ z, ρ'' = [(x, z)]) ∧ σ.Sublist σ'')
    (fin : ∀ z, Ψ ys [(x, z)] σ) : Loop1 P C x [] xs src (Emit1 P C elt) [] [(x, z₀)] σ Ψ :=
  loop_to g (fun _ => true) f hxs (by rw [List.filter_eq_self.mpr (fun _ _ => rfl)]; exact hys) hsrc hz hk (fun i u hu => t_nil ⟨rfl, rfl, .refl _, fun _ => h i u hu⟩) fin
theorem call_sumE {l : Addr} {ns : List Int} {k : Int} {Φ : AV → Frame → Ledger → Prop} (hm : (l, .list (ns.map AV.int)) ∈ σ) (e : ns.sum = k) (h : Φ (.int k) ρ σ) : Then P C (fun vs => call (.builtin "sum") vs) Φ [.ref l] ρ σ := call_sum_ints hm (by rw [e]; exact h)
theorem call_joinE {x : Str} {t : Tok} {l : Addr} {ys : List Str} {y : Str} {Φ : AV → Frame → Ledger → Prop} (hm : (l, .list (ys.map AV.str)) ∈ σ) (hsep : x.length ≤ 64) (hok : (ys.map (·.length)).sum + ys.length * 64 ≤ 16777216) (e : Txt.join x ys = y)
    (h : Φ (.str y) ρ σ) : Then P C (fun vs => call (.builtin "str.join") ([.str x t] ++ vs)) Φ [.ref l] ρ σ := call_join_list hm hsep hok (by rw [e]; exact h)
theorem Then.eq1 {f : List Value → Sem Value} {a a' : AV} {Φ : AV → Frame → Ledger → Prop} (e : a = a') (h : Then P C f Φ [a'] ρ σ) : Then P C f Φ [a] ρ σ := by rw [e]; exact h
theorem Then.eq2 {f : List Value → Sem Value} {a a' b : AV} {Φ : AV → Frame → Ledger → Prop} (e : a = a') (h : Then P C f Φ [a', b] ρ σ) : Then P C f Φ [a, b] ρ σ := by rw [e]; exact h
theorem compH {scope : Scope} {cl : List (Str × Addr)} {x : Str} {ifs : List Expr} {Em : Ctxt w K (relabelS scope sc) → EmitT} {ρ₀ : Frame} {Fin : Addr → Frame → Ledger → Prop} {a : Addr} {xs : List AV} {src : Ledger → Prop} {io : Nat → Obj → Prop}
    (hsrc : Src P w K (.ref a) xs src io) (hs : src σ) (h : ∀ C' : Ctxt w K (relabelS scope sc), C'.d = C.d → C'.env.cells = cl → Loop1 P C' x ifs xs src (Em C') [] ρ₀ σ fun ys _ σ' => ∀ D, Fin D ρ ((D, .list ys) :: σ')) :
    CompH P C scope cl x ifs Em ρ₀ Fin (.ref a) ρ σ := ⟨.ref a, xs, src, io, rfl, fun _ e => e, hsrc, hs, h⟩
theorem forH {x : Str} {body orelse : List Stmt} {Φ : AFlow → Frame → Ledger → Prop} {a : Addr} {xs : List AV} {src : Ledger → Prop} {io : Nat → Obj → Prop}
    (spec : IterSpec P C (.ref a) xs src io) (hs : src σ) (I : Nat → Frame → Ledger → Prop) (h0 : I 0 ρ σ) (hI : ∀ i ρ σ, I i ρ σ → src σ)
    (turn : ∀ i b ρ σ, I i ρ σ → xs[i]? = some b → ∀ vb, b.is vb → WU P C ρ σ (storeName C.env x vb) fun ρ' σ' => WF P C ρ' σ' (execs body C.env) (LoopK (I (i + 1)) Φ)) (fin : ∀ ρ σ, I xs.length ρ σ → WF P C ρ σ (execs orelse C.env) Φ) :
    ∃ v xs src io, (AV.ref a).is v ∧ (∀ v', (AV.ref a).is v' → v' = v) ∧ IterSpec P C v xs src io ∧ src σ ∧ ∃ I : Nat → Frame → Ledger → Prop, I 0 ρ σ ∧ (∀ i ρ σ, I i ρ σ → src σ) ∧
      (∀ i b ρ σ, I i ρ σ → xs[i]? = some b → ∀ vb, b.is vb → WU P C ρ σ (storeName C.env x vb) fun ρ' σ' => WF P C ρ' σ' (execs body C.env) (LoopK (I (i + 1)) Φ)) ∧
      ∀ ρ σ, I xs.length ρ σ → WF P C ρ σ (execs orelse C.env) Φ := ⟨.ref a, xs, src, io, rfl, fun _ e => e, spec, hs, I, h0, hI, turn, fin⟩
end
end Mine
end
section -- B53
open PySem PySem.W PySem.Calls PyProof.Rows
set_option Elab.async false
set_option maxRecDepth 100000
set_option linter.unusedVariables false
namespace Mine
section
variable {P : Program} {w : World} {K : Frag} {sc : Scope} {C : Ctxt w K sc} {ρ ρ' : Frame} {σ σ' τ : Ledger} {s : Shared}
theorem iop_add_ss {x y : Str} {Φ : AV → Frame → Ledger → Prop} (hz : x.length + y.length ≤ sizeLine) (h : Φ (.str (x ++ y)) ρ σ) : OpV P C ρ σ (inplaceOp .Add) (.str x) (.str y) Φ := by
  rintro _ _ ⟨t, rfl⟩ ⟨u, rfl⟩ τ s Q E S k
  exact SB.iadd (fun t' kk => k _ (.str (x ++ y)) ρ σ _ ⟨t', rfl⟩ h (S.toks _)) hz
theorem call_max_list {l : Addr} {ns : List Int} {Φ : AV → Frame → Ledger → Prop} (hm : (l, .list (ns.map AV.int)) ∈ σ) (hne : 0 < ns.length) (h : ∀ M, M ∈ ns → (∀ a ∈ ns, a ≤ M) → Φ (.int M) ρ σ) : Then P C (fun vs => call (.builtin "max") vs) Φ [.ref l] ρ σ := by
  intro vs rs τ s Q E S k
  cases rs with | cons h1 h2 => cases h2; cases h1; exact (by
    obtain ⟨us, hl, hi⟩ := S.isInts hm
    obtain ⟨m, news, F, N, hback⟩ := S.via
    exact max_list_N C.hand F N hl hi hne fun h' M t tk F' N' h3 h4 => k _ (.int M) ρ σ _ ⟨_, rfl⟩ (h M h3 h4) (hback _ F' N' rfl S.gens))
theorem cmp_in_strs {l : Addr} {ys : List Str} {x : Str} {Φ : AV → Frame → Ledger → Prop} (hm : (l, .list (ys.map AV.str)) ∈ σ) (h : Φ (.bool (ys.any (· == x))) ρ σ) : OpV P C ρ σ (compareOp .In) (.str x) (.ref l) Φ := by
  rintro _ _ ⟨t, rfl⟩ rfl τ s Q E S kk
  obtain ⟨vs, hl, hA⟩ := S.isList hm
  exact in_list_strs (by simpa using hl) hA.strs (kk _ (.bool _) ρ σ _ rfl h S)
theorem sub_listN {e sl : Expr} {l : Addr} {xs : List AV} {k : Int} {a : AV} {Φ : AV → Frame → Ledger → Prop} (hm : (l, .list xs) ∈ σ) (h0 : k < 0) (h1 : -(xs.length : Int) ≤ k) (hf : -(2 ^ 63) ≤ k) (hx : xs[(k + xs.length).toNat]? = some a) (h : Φ a ρ σ)
    (hs : ∀ u, subscripted sl false (.ref l) (.int k u) = operate [.ref l, .int k u] (getItem (.ref l) (.int k u)) := by intro u; with_unfolding_all rfl) :
    OpV P C ρ σ (subscriptTail e sl) (.ref l) (.int k) Φ := by
  rintro _ _ rfl ⟨u, rfl⟩ τ s Q E S kk
  obtain ⟨vs, hl, hA⟩ := S.isList hm
  obtain ⟨v, hv, ha⟩ := hA.get hx
  have hlen := hA.length
  exact tail_any hl.typeIs slot_list_getitem.lookup (wpAny_getItem_list_neg hl h0 (by show -(vs.length : Int) ≤ k; omega) hf (by rw [show ((⟨vs⟩ : Array Value).size) = xs.length from hlen.symm]; simpa using hv) (kk v a ρ σ s ha h S)) (hs u)
theorem spec_tuple {l : Addr} {xs : List AV} : IterSpec P C (.ref l) xs (fun σ => (l, .tuple xs) ∈ σ) (fun i o => o.cls = .type "tuple_iterator" ∧ o.data = .fields #[.ref l, .int i 0]) where
  start := fun ρ σ Φ hsrc h τ s Q E S k => by
    obtain ⟨vs, hl, _⟩ := S.isTup hsrc
    exact wpAny_pyIter_tuple hl (k _ (.ref s.heap.objs.size) ρ _ _ rfl (h _) (S.push ⟨rfl, rfl⟩ rfl))
  next := fun ρ σ it i x Φ hsrc hx h τ s Q E S k => by
    obtain ⟨vs, hl, hA⟩ := S.isTup (.tail _ hsrc)
    obtain ⟨o, hg, hc, hd⟩ := S.get (.head _)
    obtain ⟨v, hv, ha⟩ := hA.get hx
    refine wpAny_pyNext_tuple_item ⟨o, hg, hc, hd⟩ hl (by simpa using hv) fun h' hit' hs' => ?_
    obtain ⟨o', hg', hc', hd'⟩ := hit'
    exact k _ (some x) ρ _ _ ⟨v, rfl, ha⟩ h (S.put (n := s.toks) .head hs' hg' ⟨hc', hd'⟩)
  stop := fun ρ σ it i Φ hsrc hx h τ s Q E S k => by
    obtain ⟨vs, hl, hA⟩ := S.isTup (.tail _ hsrc)
    obtain ⟨o, hg, hc, hd⟩ := S.get (.head _)
    refine wpAny_pyNext_tuple_end C.hand ⟨o, hg, hc, hd⟩ hl ?_ fun h' he' => ?_
    · have hlen := hA.length
      rw [List.getElem?_eq_none_iff] at hx
      rw [Array.getElem?_eq_none_iff]; show vs.length ≤ i; omega
    · exact k none none ρ σ _ rfl h (St.but (n := s.toks) S he')
theorem items_av {vs : List Value} {n : Nat} {f : Nat → Int} (h : ItemsOf (fun (i : Nat) (v : Value) => ∃ t, v = Value.int (f i) t) ⟨vs⟩ n) : All2 AV.is ((List.range n).map fun i => AV.int (f i)) vs := by
  obtain ⟨h1, h2⟩ := h
  have h1' : vs.length = n := h1
  subst h1'
  have key : ∀ (us : List Value) (k : Nat), (∀ j v, us[j]? = some v → ∃ t, v = Value.int (f (k + j)) t) → All2 AV.is ((List.range' k us.length).map fun i => AV.int (f i)) us := by
    intro us
    induction us with
    | nil => intro k _; exact .nil
    | cons u r ih =>
      intro k hk
      rw [List.length_cons, List.range'_succ, List.map_cons]
      refine .cons (hk 0 u rfl) (ih (k + 1) fun j v hj => ?_)
      obtain ⟨t, e⟩ := hk (j + 1) v (by simpa using hj)
      exact ⟨t, by rw [e, show k + 1 + j = k + (j + 1) by omega]⟩
  have := key vs 0 (fun j v hj => by obtain ⟨t, e⟩ := h2 j v (by simpa using hj); exact ⟨t, by rw [e, Nat.zero_add]⟩)
  rw [List.range_eq_range']
  exact this
theorem call_listR {r : Addr} {a b c : Int} {n : Nat} {Φ : AV → Frame → Ledger → Prop} (hm : (r, .range a b c) ∈ σ) (hsm : Builtin.Range.small a b c = true) (hn : Builtin.Range.rangeSize a b c = n) (hz : n ≤ 2 ^ 24)
    (h : ∀ D, Φ (.ref D) ρ ((D, .list ((List.range n).map fun (i : Nat) => AV.int (a + i * c))) :: σ)) : Then P C (fun vs => call (.type "list") vs) Φ [.ref r] ρ σ := by
  intro vs rs τ s Q E S k
  cases rs with | cons h1 h2 => cases h2; cases h1; exact (by
    obtain ⟨o, hg, t, u, v, rfl⟩ := S.get hm
    refine call_list_range C.hand hg hsm hn hz (fun h' tk acc' c' hk hn' hI => ?_)
    obtain ⟨us⟩ := acc'
    exact k _ (.ref s.heap.objs.size) ρ _ _ rfl (h _) (S.add (n := tk) hk (Nat.le_refl _) hn' ⟨us, c', rfl, items_av (f := fun i => a + i * c) hI⟩))
/-- a text from a place on -/
theorem sub_strF {e sle : Expr} {sl : Addr} {x : Str} {i : Int} {Φ : AV → Frame → Ledger → Prop} (hsl : (sl, .slice (.int i) .none .none) ∈ σ) (hz : x.length ≤ sizeLine) (h : Φ (.str (Txt.slice x (some i) none)) ρ σ)
    (hs : ∀ t, subscripted sle false (.str x t) (.ref sl) = operate [.ref sl, .str x t] (getItem (.str x t) (.ref sl)) := by intro t; with_unfolding_all rfl) :
    OpV P C ρ σ (subscriptTail e sle) (.str x) (.ref sl) Φ := by
  rintro _ _ ⟨t, rfl⟩ rfl τ s Q E S kk
  obtain ⟨os, hos, va, vb, vc, rfl, ⟨ti, rfl⟩, hvb, hvc⟩ := S.get hsl
  cases hvb
  cases hvc
  unfold subscriptTail
  refine wpAny_bind ?_
  rw [getitemInPython_of_ne (by intro q; cases q)]
  refine wpAny_bind (wpAny_specialOf (typeIs_str _ _ _) F.slot_str_getitem.lookup ?_)
  have fin : wpAny (model P w) C.A (subscripted sle false (.str x t) (.ref sl)) (fun r s₃ => wpAny (model P w) C.A (letTemporaryGo e (.str x t) r >>= fun _ => pure r) Q E s₃) E s := by
    rw [hs]
    refine wpAny_operating (wpAny_mono (Q := Q) (E := E) (wpAny_getItem_str_slice (l := some (i, ti)) (u := none) (st := none) ⟨_, hos, rfl, rfl⟩ rfl (post_val_or_str ⟨Nat.le_trans (Txt.slice_le x _ _) hz, fun t' k => ?_⟩)) (fun r s₃ h₃ => wpAny_bind (wpAny_letTemporaryGo (wpAny_pure h₃))) fun _ _ x => x)
    exact kk _ (.str (Txt.slice x (some i) none)) ρ σ _ ⟨t', rfl⟩ h (S.toks k)
  first
    | exact wpAny_pure (wpAny_bind fin)
    | exact wpAny_bind (wpAny_pure (wpAny_bind fin))
    | exact wpAny_bind fin
/-- an attribute of what is no name -/
theorem ev_attrT {e : Expr} {name : Str} {pos : Pos} {Φ : AV → Frame → Ledger → Prop} (h : WV P C ρ σ (eval e C.env) fun a ρ1 σ1 => ∀ v, a.is v → WV P C ρ1 σ1 (getAttr v name true) Φ)
    (hb : attributeBase e name C.env (eval e C.env) = eval e C.env := by rfl) : WV P C ρ σ (eval (.Attribute e name pos) C.env) Φ := by
  intro τ s Q E S k
  rw [arm_eval_Attribute, hb]
  refine wpAny_bind (h τ s _ E S fun v a ρ1 σ1 s1 r p S1 => wpAny_bind (wpAny_standAt (wpAny_bind (wpAny_holding (p v r τ s1 _ E S1 fun v2 a2 ρ2 σ2 s2 r2 p2 S2 => ?_)))))
  exact wpAny_bind (wpAny_letTemporaryGo (wpAny_pure (k v2 a2 ρ2 σ2 s2 r2 p2 S2)))
end
end Mine
end
section -- G0
open PySem PySem.W PyProof.Rows
set_option Elab.async false
set_option maxRecDepth 100000
namespace Mine
noncomputable abbrev K1 (w : World) : Frag := KK.heap_1 w.params
noncomputable abbrev P1 : Program := PySem.Challenge.rw_ty0057_02.row.prog
end Mine
end
section -- M2
open PySem PySem.W PySem.Calls PyProof.Rows
set_option Elab.async false
set_option maxRecDepth 100000
set_option linter.unusedVariables false
namespace Mine
theorem strExt {x y : Str} (h : x.cps.toList = y.cps.toList) : x = y := Str.ext' (Array.toList_inj.mp h)
/-! join and split by one sign -/
noncomputable def tailJ (c : Nat) (r : List (List Nat)) : List Nat := r.flatMap fun q => c :: q
theorem glue_fold (c : Nat) : ∀ (r : List Str) (acc : Array Nat), (r.foldl (fun acc p => acc ++ (⟨#[c]⟩ : Str).cps ++ p.cps) acc).toList = acc.toList ++ tailJ c (r.map fun q => q.cps.toList)
  | [], acc => by simp [tailJ]
  | p :: r, acc => by
    rw [List.foldl_cons, glue_fold c r]
    simp [tailJ]
theorem join_list (c : Nat) (p : Str) (r : List Str) : (Txt.join ⟨#[c]⟩ (p :: r)).cps.toList = p.cps.toList ++ tailJ c (r.map fun q => q.cps.toList) := glue_fold c r p.cps
theorem take_to (c : Nat) : ∀ (p : List Nat) (r : List (List Nat)), c ∉ p → (p ++ tailJ c r).takeWhile (· != c) = p
  | [], [], _ => rfl
  | [], q :: r, _ => by simp [tailJ]
  | a :: p, r, h => by
    have h1 : a ≠ c := fun e => h (e ▸ .head _)
    have h2 := take_to c p r fun m => h (.tail _ m)
    rw [List.cons_append, List.takeWhile_cons]
    simp [h1, h2]
theorem join_uniq (c : Nat) : ∀ (r s : List (List Nat)) (p q : List Nat), c ∉ p → c ∉ q → (∀ x ∈ r, c ∉ x) → (∀ x ∈ s, c ∉ x) → p ++ tailJ c r = q ++ tailJ c s → p = q ∧ r = s := by
  intro r
  induction r with
  | nil =>
    intro s p q hp hq hr hs e
    have e1 : p = q := by rw [← take_to c p [] hp, ← take_to c q s hq, e]
    subst e1
    have e2 := List.append_cancel_left e
    cases s with
    | nil => exact ⟨rfl, rfl⟩
    | cons b s => simp [tailJ] at e2
  | cons a r ih =>
    intro s p q hp hq hr hs e
    have e1 : p = q := by rw [← take_to c p (a :: r) hp, ← take_to c q s hq, e]
    subst e1
    have e2 := List.append_cancel_left e
    cases s with
    | nil => simp [tailJ] at e2
    | cons b s =>
      have e3 : a ++ tailJ c r = b ++ tailJ c s := by simpa [tailJ] using e2
      obtain ⟨h1, h2⟩ := ih s a b (hr a (.head _)) (hs b (.head _)) (fun x hx => hr x (.tail _ hx)) (fun x hx => hs x (.tail _ hx)) e3
      exact ⟨rfl, by rw [h1, h2]⟩
theorem map_list_inj : ∀ {r s : List Str}, (r.map fun q => q.cps.toList) = s.map (fun q => q.cps.toList) → r = s
  | [], [], _ => rfl
  | [], _ :: _, h => by simp at h
  | _ :: _, [], h => by simp at h
  | a :: r, b :: s, h => by
    simp only [List.map_cons, List.cons.injEq] at h
    rw [strExt h.1, map_list_inj h.2]
theorem split_join (c : Nat) (parts : List Str) (hne : parts ≠ []) (hf : ∀ p ∈ parts, c ∉ p.cps.toList) : Txt.split (Txt.join ⟨#[c]⟩ parts) ⟨#[c]⟩ = parts := by
  have h1 := StrLaws.join_split (Txt.join ⟨#[c]⟩ parts) ⟨#[c]⟩
  rw [show Str.join ⟨#[c]⟩ (Txt.split (Txt.join ⟨#[c]⟩ parts) ⟨#[c]⟩) = Txt.join ⟨#[c]⟩ (Txt.split (Txt.join ⟨#[c]⟩ parts) ⟨#[c]⟩) from (StrLaws.glued_eq_join _ _).symm] at h1
  have h2 := StrLaws.split_free (Txt.join ⟨#[c]⟩ parts) c
  have h3 := split_pos (Txt.join ⟨#[c]⟩ parts) ⟨#[c]⟩
  generalize hq : Txt.split (Txt.join ⟨#[c]⟩ parts) ⟨#[c]⟩ = qs at h1 h2 h3 ⊢
  cases qs with
  | nil => simp at h3
  | cons q s =>
    cases parts with
    | nil => exact absurd rfl hne
    | cons p r =>
      have e : (Txt.join ⟨#[c]⟩ (q :: s)).cps.toList = (Txt.join ⟨#[c]⟩ (p :: r)).cps.toList := congrArg (fun x : Str => x.cps.toList) h1
      rw [join_list, join_list] at e
      obtain ⟨e1, e2⟩ := join_uniq c _ _ _ _ (h2 q (.head _)) (hf p (.head _)) (fun x hx => by obtain ⟨z, hz, rfl⟩ := List.mem_map.mp hx; exact h2 z (.tail _ hz)) (fun x hx => by obtain ⟨z, hz, rfl⟩ := List.mem_map.mp hx; exact hf z (.tail _ hz)) e
      rw [strExt e1, map_list_inj e2]
/-! padded words -/
noncomputable def padded (w : Str) : List Nat := List.replicate (20 - w.length) 32 ++ w.cps.toList
noncomputable def rowStr (l : List Str) : Str := ⟨((l.map padded).flatten).toArray⟩
structure WordOk (w : Str) : Prop where
  pos : 1 ≤ w.length
  le : w.length ≤ 19
  sp : ∀ c ∈ w.cps.toList, Unicode.isSpace c = false
  nl : 10 ∉ w.cps.toList
  ok : PyData.strOk w = true
theorem padded_len {w : Str} (h : WordOk w) : (padded w).length = 20 := by
  have := h.le
  have e : w.cps.toList.length = w.length := by simp [Str.length]
  unfold padded
  rw [List.length_append, List.length_replicate, e]
  omega
theorem rowStr_list (l : List Str) : (rowStr l).cps.toList = (l.map padded).flatten := by unfold rowStr; simp
theorem flat_len : ∀ {l : List Str}, (∀ w ∈ l, WordOk w) → (l.map padded).flatten.length = 20 * l.length
  | [], _ => rfl
  | w :: r, h => by
    rw [List.map_cons, List.flatten_cons, List.length_append, padded_len (h w (.head _)), flat_len fun x hx => h x (.tail _ hx), List.length_cons]
    omega
theorem rowStr_len {l : List Str} (h : ∀ w ∈ l, WordOk w) : (rowStr l).length = 20 * l.length := by
  have := flat_len h
  rw [← rowStr_list] at this
  simpa [Str.length] using this
open KWd in
theorem scan_letters : ∀ (l : List Nat) (st : KWd.St), (∀ c ∈ l, Unicode.isSpace c = false) → l.foldl KWd.step st = (st.1, st.2 ++ ⟨l.toArray⟩)
  | [], st, _ => by
    show st = _
    have : st.2 ++ (⟨([] : List Nat).toArray⟩ : Str) = st.2 := strExt (by rw [Str.cps_append]; simp)
    rw [this]
  | c :: l, st, h => by
    rw [List.foldl_cons]
    have e : KWd.step st c = (st.1, st.2 ++ ⟨#[c]⟩) := by unfold KWd.step; rw [if_neg (by rw [h c (.head _)]; decide)]
    rw [e, scan_letters l _ fun x hx => h x (.tail _ hx)]
    congr 1
    refine strExt ?_
    simp only [Str.cps_append]
    simp
open KWd in
theorem scan_blanks : ∀ (k : Nat) (st : KWd.St), 1 ≤ k → (List.replicate k 32).foldl KWd.step st = (fin st, Str.empty)
  | 1, st, _ => by
    show KWd.step st 32 = _
    unfold KWd.step fin
    rw [if_pos (by decide +kernel)]
    split
    · rename_i h
      obtain ⟨a, b⟩ := st
      rw [show b = Str.empty from len0 h]
    · rfl
  | k + 2, st, _ => by
    rw [List.replicate_succ, List.foldl_cons, scan_blanks (k + 1) _ (by omega)]
    have e : KWd.step st 32 = if st.2.length = 0 then st else (st.1 ++ [st.2], Str.empty) := by
      unfold KWd.step; rw [if_pos (show Unicode.isSpace 32 = true by decide +kernel)]
    rw [e]
    congr 1
    by_cases h : st.2.length = 0
    · rw [if_pos h]
    · rw [if_neg h]
      unfold fin
      rw [if_neg h, if_pos (by rfl)]
open KWd in
theorem words_row {l : List Str} (h : ∀ w ∈ l, WordOk w) : Txt.words (rowStr l) = l := by
  rw [words_scan]
  have key : ∀ (l : List Str) (st : KWd.St), (∀ w ∈ l, WordOk w) → fin (((l.map padded).flatten).foldl KWd.step st) = fin st ++ l := by
    intro l
    induction l with
    | nil => intro st _; simp
    | cons w r ih =>
      intro st h
      have hw := h w (.head _)
      have h1 := hw.le
      have h2 := hw.pos
      rw [List.map_cons, List.flatten_cons, List.foldl_append, ih _ fun x hx => h x (.tail _ hx)]
      unfold padded
      rw [List.foldl_append, scan_blanks _ _ (by omega), scan_letters _ _ hw.sp]
      have e : Str.empty ++ (⟨w.cps.toList.toArray⟩ : Str) = w := strExt (by rw [Str.cps_append]; simp [Str.empty])
      dsimp only
      rw [e]
      have e2 : fin (fin st, w) = fin st ++ [w] := by unfold fin; rw [if_neg (by show ¬ w.length = 0; omega)]
      rw [e2]
      simp
  have := key l ([], Str.empty) h
  unfold KWd.scan
  rw [rowStr_list, this]
  rfl
theorem row_nl {l : List Str} (h : ∀ w ∈ l, WordOk w) : 10 ∉ (rowStr l).cps.toList := by
  rw [rowStr_list]
  intro hm
  obtain ⟨x, hx, hm⟩ := List.mem_flatten.mp hm
  obtain ⟨w, hw, rfl⟩ := List.mem_map.mp hx
  unfold padded at hm
  rcases List.mem_append.mp hm with hm | hm
  · have := (List.mem_replicate.mp hm).2
    cases this
  · exact (h w hw).nl hm
end Mine
end
section -- M3
open PySem PySem.W PySem.Calls PyProof.Rows
set_option Elab.async false
set_option maxRecDepth 100000
set_option linter.unusedVariables false
namespace Mine
/-! the rows: words laid n to a row -/
/-- the blanks ahead of a word -/
noncomputable def padS (w : Str) : Str := rep 32 ((20 : Int) - w.length)
theorem padS_list (w : Str) : (padS w).cps.toList = List.replicate (20 - w.length) 32 := by
  unfold padS rep
  have e : ((20 : Int) - w.length).toNat = 20 - w.length := by omega
  rw [e]
  simp
theorem padS_len (w : Str) : (padS w).length = 20 - w.length := by
  have := congrArg List.length (padS_list w)
  simpa [Str.length] using this
theorem padded_eq (w : Str) : padded w = (padS w).cps.toList ++ w.cps.toList := by rw [padS_list]; rfl
/-- the items of a row -/
noncomputable def ItemsAre (items : accItems) (l : List Str) : Prop := items.map (fun i => i.2) = l.map fun w => (padS w, w)
theorem ItemsAre.snoc {items : accItems} {l : List Str} {t : Addr} {w : Str} (h : ItemsAre items l) : ItemsAre (items ++ [(t, padS w, w)]) (l ++ [w]) := by
  unfold ItemsAre at *; rw [List.map_append, List.map_append, h]; rfl
theorem ItemsAre.len {items : accItems} {l : List Str} (h : ItemsAre items l) : items.length = l.length := by
  have := congrArg List.length h; simpa using this
theorem ItemsAre.str {items : accItems} {l : List Str} (h : ItemsAre items l) : accStr items = rowStr l := by
  refine strExt ?_
  rw [accStr_list, rowStr_list]
  have e1 : (items.map fun i => i.2.1.cps.toList ++ i.2.2.cps.toList) = (items.map (fun i => i.2)).map fun q => q.1.cps.toList ++ q.2.cps.toList := by rw [List.map_map]; rfl
  rw [e1, h, List.map_map]
  congr 1
  refine List.map_congr_left fun w _ => ?_
  exact (padded_eq w).symm
theorem ItemsAre.size {items : accItems} {l : List Str} (h : ItemsAre items l) (hw : ∀ w ∈ l, w.length ≤ 19) : sizeOf' items = 20 * l.length := by
  unfold sizeOf'
  have e1 : (items.map fun i => ((i.2.1.length : Int) + i.2.2.length)) = (items.map (fun i => i.2)).map fun q => ((q.1.length : Int) + q.2.length) := by rw [List.map_map]; rfl
  rw [e1, h, List.map_map]
  clear e1 h
  induction l with
  | nil => rfl
  | cons w r ih =>
    rw [List.map_cons, List.sum_cons, ih fun x hx => hw x (.tail _ hx), List.length_cons]
    have h1 := hw w (.head _)
    show ((padS w).length : Int) + w.length + _ = _
    rw [padS_len]
    push_cast
    omega
theorem ItemsAre.bounds {items : accItems} {l : List Str} (h : ItemsAre items l) (hw : ∀ w ∈ l, w.length ≤ 19) : ∀ i ∈ items, i.2.1.length ≤ 1000 ∧ i.2.2.length ≤ 1000 := by
  intro i hi
  have : i.2 ∈ items.map (fun i => i.2) := List.mem_map_of_mem hi
  rw [h] at this
  obtain ⟨w, hw', e⟩ := List.mem_map.mp this
  have h1 := hw w hw'
  rw [← e]
  dsimp only
  rw [padS_len]
  omega
theorem strOk_pad (w : Str) : PyData.strOk (padS w) = true := by
  show (padS w).cps.all (· < 0x110000) = true
  rw [← Array.all_toList, padS_list, List.all_eq_true]
  intro c hc
  rw [(List.mem_replicate.mp hc).2]; decide
end Mine
end
section -- M4
open PySem PySem.W PySem.Calls PyProof.Rows
set_option Elab.async false
set_option maxRecDepth 100000
set_option linter.unusedVariables false
namespace Mine
theorem sum_rows : ∀ {ls : List (List Str)}, (∀ l ∈ ls, ∀ w ∈ l, WordOk w) → ((ls.map rowStr).map (·.length)).sum = 20 * ls.flatten.length
  | [], _ => rfl
  | l :: r, h => by
    have h1 := sum_rows fun x hx => h x (.tail _ hx)
    rw [List.map_cons, List.map_cons, List.sum_cons, h1, rowStr_len (h l (.head _)), List.flatten_cons, List.length_append]
    omega
theorem row_notspace {l : List Str} (h : ∀ w ∈ l, WordOk w) (hne : l ≠ []) : Txt.isspace (rowStr l) = false := by
  cases l with
  | nil => exact absurd rfl hne
  | cons w r =>
    have hw := h w (.head _)
    show (decide ((rowStr (w :: r)).length > 0) && (rowStr (w :: r)).cps.all Unicode.isSpace) = false
    rw [Bool.and_eq_false_iff]
    right
    rw [← Array.all_toList, rowStr_list, List.all_eq_false]
    have hl : 0 < w.cps.toList.length := by
      have h1 := hw.pos
      have e : w.cps.toList.length = w.length := by simp [Str.length]
      omega
    refine ⟨w.cps.toList[0], ?_, ?_⟩
    · rw [List.map_cons, List.flatten_cons]
      exact List.mem_append_left _ (List.mem_append_right _ (List.getElem_mem hl))
    · rw [hw.sp _ (List.getElem_mem hl)]; decide
theorem word_ne {w : Str} (h : WordOk w) (f : Str) : (f == Str.ofString " " && (w == (⟨#[]⟩ : Str) && true)) = false := by
  have : (w == (⟨#[]⟩ : Str)) = false := by
    rw [beq_eq_false_iff_ne]
    rintro rfl
    exact absurd h.pos (by decide)
  rw [this]; simp
theorem items_last {items : accItems} {l : List Str} (h : ItemsAre items l) (hne : l ≠ []) : ∃ items' t w, items = items' ++ [(t, padS w, w)] ∧ w ∈ l := by
  rcases List.eq_nil_or_concat items with e | ⟨a, b, e⟩
  · subst e
    have := h.len
    simp at this
    exact absurd this.symm (by simpa using hne)
  · have e' : items = a ++ [b] := by rw [e, List.concat_eq_append]
    subst e'
    have hb : b.2 ∈ (a ++ [b]).map (fun i => i.2) := List.mem_map_of_mem (by simp)
    have h' : (a ++ [b]).map (fun i => i.2) = l.map fun w => (padS w, w) := h
    rw [h'] at hb
    obtain ⟨w, hw, e2⟩ := List.mem_map.mp hb
    refine ⟨a, b.1, w, ?_, hw⟩
    rw [show b = (b.1, b.2) from rfl, ← e2]
end Mine
end
section -- N1
open PySem PySem.W PySem.Calls PyProof.Rows
set_option Elab.async false
set_option maxRecDepth 100000
set_option linter.unusedVariables false
namespace Mine
/-! flags -/
noncomputable def flagSum (S : Nat → Bool) (base k : Nat) : Nat := (((List.range k).filter S).map fun p => 2 ^ (base + p)).sum
theorem flagSum_succ (S : Nat → Bool) (base k : Nat) : flagSum S base (k + 1) = flagSum S base k + if S k then 2 ^ (base + k) else 0 := by
  unfold flagSum
  rw [List.range_succ, List.filter_append, List.map_append, List.sum_append]
  cases h : S k <;> simp [h]
theorem flagSum_lt (S : Nat → Bool) (base : Nat) : ∀ k, flagSum S base k < 2 ^ (base + k)
  | 0 => by
    show 0 < _
    exact Nat.two_pow_pos _
  | k + 1 => by
    have ih := flagSum_lt S base k
    rw [flagSum_succ, ← Nat.add_assoc, Nat.pow_succ]
    split <;> omega
theorem flagSum_bit (S : Nat → Bool) (base : Nat) : ∀ k j, (flagSum S base k).testBit j = (decide (base ≤ j) && decide (j < base + k) && S (j - base))
  | 0, j => by
    have : ¬ (base ≤ j ∧ j < base + 0) := by omega
    show (0 : Nat).testBit j = _
    rw [Nat.zero_testBit]
    by_cases h : base ≤ j
    · simp [h]; omega
    · simp [h]
  | k + 1, j => by
    have ih := flagSum_bit S base k j
    have hlt := flagSum_lt S base k
    rw [flagSum_succ]
    cases hS : S k with
    | false =>
      rw [if_neg (by decide), Nat.add_zero, ih]
      by_cases e : j = base + k
      · subst e
        have : base + k - base = k := by omega
        simp [this, hS]
      · have : decide (j < base + k) = decide (j < base + (k + 1)) ∨ ¬ base ≤ j := by
          by_cases h1 : j < base + k
          · left; simp [h1]; omega
          · left; have : ¬ j < base + (k + 1) := by omega
            simp [h1, this]
        rcases this with h | h
        · rw [h]
        · simp [h]
    | true =>
      rw [if_pos rfl, Nat.add_comm]
      by_cases e : j = base + k
      · subst e
        rw [Nat.testBit_two_pow_add_eq, Nat.testBit_lt_two_pow hlt]
        have h1 : base + k - base = k := by omega
        simp [h1, hS]
      · by_cases hj : j < base + k
        · rw [Nat.testBit_two_pow_add_gt hj, ih]
          have : j < base + (k + 1) := by omega
          simp [hj, this]
        · have hb : 2 ^ (base + k) + flagSum S base k < 2 ^ j := by
            have h1 : 2 ^ (base + k + 1) ≤ 2 ^ j := Nat.pow_le_pow_right (by decide) (by omega)
            rw [Nat.pow_succ] at h1
            omega
          rw [Nat.testBit_lt_two_pow hb]
          have : ¬ j < base + (k + 1) := by omega
          simp [this]
theorem flags_words (S : Nat → Bool) (base k : Nat) (h : base + k ≤ 32) : wordsOf (flagSum S base k) 32 = ((List.range k).filter S).map fun p => flagWord (base + p) := by
  unfold wordsOf
  have e : 32 = base + (k + (32 - base - k)) := by omega
  have e1 : (List.range 32) = List.range base ++ ((List.range k).map (base + ·) ++ ((List.range (32 - base - k)).map (base + k + ·))) := by
    rw [e, List.range_add, List.range_add, List.map_append, List.map_map]
    congr 2
    have e2 : base + (k + (32 - base - k)) - base - k = 32 - base - k := by omega
    rw [e2]
    apply List.map_congr_left
    intro x _
    show base + (k + x) = base + k + x
    omega
  rw [e1, List.filter_append, List.filter_append]
  have f1 : (List.range base).filter (flagSum S base k).testBit = [] := by
    rw [List.filter_eq_nil_iff]
    intro x hx
    have := List.mem_range.mp hx
    rw [flagSum_bit]
    have h1 : ¬ base ≤ x := by omega
    simp [h1]
  have f3 : ((List.range (32 - base - k)).map (base + k + ·)).filter (flagSum S base k).testBit = [] := by
    rw [List.filter_eq_nil_iff]
    intro x hx
    obtain ⟨y, _, rfl⟩ := List.mem_map.mp hx
    rw [flagSum_bit]
    have h1 : ¬ base + k + y < base + k := by omega
    simp [h1]
  have f2 : ((List.range k).map (base + ·)).filter (flagSum S base k).testBit = ((List.range k).filter S).map (base + ·) := by
    rw [List.filter_map]
    congr 1
    apply List.filter_congr
    intro x hx
    have := List.mem_range.mp hx
    show (flagSum S base k).testBit (base + x) = S x
    rw [flagSum_bit]
    have h1 : base + x < base + k := by omega
    have h2 : base + x - base = x := by omega
    rw [h2]
    simp [h1]
  rw [f1, f2, f3, List.append_nil, List.nil_append, List.map_map]
  rfl
theorem flagSum_zero (S : Nat → Bool) (base k : Nat) : flagSum S base k = 0 ↔ (List.range k).filter S = [] := by
  constructor
  · intro h
    apply Classical.byContradiction
    intro hne
    obtain ⟨p, r, e⟩ : ∃ p r, (List.range k).filter S = p :: r := by
      cases q : (List.range k).filter S with
      | nil => exact absurd q hne
      | cons p r => exact ⟨p, r, rfl⟩
    unfold flagSum at h
    rw [e, List.map_cons, List.sum_cons] at h
    have := Nat.two_pow_pos (base + p)
    omega
  · intro h
    unfold flagSum; rw [h]; rfl
theorem pretty_sumN (S : Nat → Bool) (base k : Nat) (h : base + k ≤ 32) (hne : (List.range k).filter S ≠ []) : prettyOf (flagSum S base k) = Txt.join (Str.ofString ", ") (((List.range k).filter S).map fun p => flagWord (base + p)) := by
  unfold prettyOf
  rw [if_neg (fun e => hne ((flagSum_zero S base k).mp e)), flags_words S base k h]
/-! words -/
noncomputable def wordOkB (w : Str) : Bool := decide (1 ≤ w.length) && decide (w.length ≤ 19) && w.cps.toList.all (fun c => !Unicode.isSpace c && c != 10) && PyData.strOk w
theorem wordOk_of {w : Str} (h : wordOkB w = true) : WordOk w := by
  unfold wordOkB at h
  simp only [Bool.and_eq_true, decide_eq_true_eq, List.all_eq_true] at h
  obtain ⟨⟨⟨h1, h2⟩, h3⟩, h4⟩ := h
  refine ⟨h1, h2, fun c hc => ?_, fun hc => ?_, h4⟩
  · have := (h3 c hc).1
    simpa using this
  · have := (h3 10 hc).2
    simp at this
theorem flags_ok : (List.range 40).all (fun k => wordOkB (flagWord k) && flagWord k != Str.ofString "-" && !(flagWord k).cps.toList.contains 44) = true := by decide +kernel
theorem flag_ok {k : Nat} (h : k < 40) : WordOk (flagWord k) ∧ flagWord k ≠ Str.ofString "-" ∧ 44 ∉ (flagWord k).cps.toList := by
  have := List.all_eq_true.mp flags_ok k (List.mem_range.mpr h)
  rw [Bool.and_eq_true, Bool.and_eq_true] at this
  exact ⟨wordOk_of this.1.1, by simpa using this.1.2, by simpa using this.2⟩
noncomputable abbrev hy : Str := Str.ofString "-"
theorem hy_ok : WordOk hy := wordOk_of (by decide +kernel)
/-! a text cut at each place of another one -/
noncomputable def tailY (y : List Nat) (r : List (List Nat)) : List Nat := r.flatMap fun q => y ++ q
theorem glueY_fold (y : Str) : ∀ (r : List Str) (acc : Array Nat), (r.foldl (fun acc p => acc ++ y.cps ++ p.cps) acc).toList = acc.toList ++ tailY y.cps.toList (r.map fun q => q.cps.toList)
  | [], acc => by simp [tailY]
  | p :: r, acc => by
    rw [List.foldl_cons, glueY_fold y r]
    simp [tailY]
theorem joinY_list (y p : Str) (r : List Str) : (Txt.join y (p :: r)).cps.toList = p.cps.toList ++ tailY y.cps.toList (r.map fun q => q.cps.toList) := glueY_fold y r p.cps
open StrLaws Builtin.Str in
theorem at_of_drop {x y : Str} {k : Nat} {r : List Nat} (hy : 1 ≤ y.length) (h : x.cps.toList.drop k = y.cps.toList ++ r) : At x y x.length k := by
  have hn : x.cps.toList.length = x.length := by simp [Str.length]
  have hm : y.cps.toList.length = y.length := by simp [Str.length]
  have hl := congrArg List.length h
  rw [List.length_drop, List.length_append, hn, hm] at hl
  refine ⟨by omega, ?_⟩
  rw [subAt_eq, h, List.take_left' hm]
  simp
open StrLaws Builtin.Str in
theorem at_head {x y : Str} {k c : Nat} {r : List Nat} (hy : y.cps.toList = c :: r) (h : At x y x.length k) : x.cps.toList[k]? = some c := by
  have h2 := h.2
  rw [subAt_eq] at h2
  have h3 := eq_of_beq h2
  rw [hy] at h3
  have h4 := congrArg (fun l => l[0]?) h3
  have hm : 0 < y.length := by
    have : y.cps.toList.length = y.length := by simp [Str.length]
    rw [hy] at this
    simp at this
    omega
  simp only [List.getElem?_take_of_lt hm, List.getElem?_drop, Nat.add_zero, List.getElem?_cons_zero] at h4
  exact h4
open StrLaws Builtin.Str in
theorem parts_uniq (x y : Str) {c : Nat} {yr : List Nat} (hy : y.cps.toList = c :: yr) : ∀ (r : List Str) (p : Str) (a f : Nat) (cuts : List Nat), a ≤ x.length → x.cps.toList.drop a = p.cps.toList ++ tailY y.cps.toList (r.map fun q => q.cps.toList) →
    c ∉ p.cps.toList → (∀ q ∈ r, c ∉ q.cps.toList) → ChainG x y x.length a cuts f → (∀ k, f ≤ k → ¬ At x y x.length k) → partsFrom x y.length a cuts = p :: r := by
  have hn : x.cps.toList.length = x.length := by simp [Str.length]
  have hm : y.cps.toList.length = y.length := by simp [Str.length]
  have hy1 : 1 ≤ y.length := by rw [← hm, hy]; simp
  have inP : ∀ (p : Str) (t : List Nat) (a k : Nat), x.cps.toList.drop a = p.cps.toList ++ t → a ≤ k → k < a + p.cps.toList.length → At x y x.length k → c ∈ p.cps.toList := by
    intro p t a k h h1 h2 hA
    have h3 := at_head hy hA
    have h4 : (x.cps.toList.drop a)[k - a]? = some c := by rw [List.getElem?_drop, show a + (k - a) = k by omega]; exact h3
    rw [h, List.getElem?_append_left (by omega)] at h4
    exact List.mem_of_getElem? h4
  intro r
  induction r with
  | nil =>
    intro p a f cuts ha hd hp hr hG hN
    have hd' : x.cps.toList.drop a = p.cps.toList := by rw [hd]; simp [tailY]
    have hlen : x.length - a = p.cps.toList.length := by
      have := congrArg List.length hd'
      rw [List.length_drop, hn] at this
      exact this
    cases cuts with
    | nil =>
      show [strSub x a x.length] = [p]
      congr 1
      refine strExt ?_
      rw [strSub_toList, hd', List.take_of_length_le (by omega)]
    | cons d ds =>
      obtain ⟨h1, h2, -, -⟩ := hG
      have := h2.1
      exact absurd (inP p [] a d (by rw [hd', List.append_nil]) h1 (by omega) h2) hp
  | cons q r ih =>
    intro p a f cuts ha hd hp hr hG hN
    have e1 : tailY y.cps.toList ((q :: r).map fun q => q.cps.toList) = y.cps.toList ++ (q.cps.toList ++ tailY y.cps.toList (r.map fun q => q.cps.toList)) := by
      simp [tailY]
    rw [e1] at hd
    have e2 : x.cps.toList.drop (a + p.cps.toList.length) = y.cps.toList ++ (q.cps.toList ++ tailY y.cps.toList (r.map fun q => q.cps.toList)) := by
      rw [← List.drop_drop, hd, List.drop_left]
    have hAt := at_of_drop hy1 e2
    cases cuts with
    | nil =>
      have ef : f = a := hG
      exact absurd hAt (hN _ (by omega))
    | cons d ds =>
      obtain ⟨h1, h2, h3, h4⟩ := hG
      have hle : d ≤ a + p.cps.toList.length := by
        rcases Nat.lt_or_ge (a + p.cps.toList.length) d with h | h
        · exact absurd hAt (h3 _ (by omega) h)
        · exact h
      have hge : a + p.cps.toList.length ≤ d := by
        rcases Nat.lt_or_ge d (a + p.cps.toList.length) with h | h
        · exact absurd (inP p _ a d hd h1 h h2) hp
        · exact h
      have ed : d = a + p.cps.toList.length := by omega
      subst ed
      show strSub x a (a + p.cps.toList.length) :: partsFrom x y.length (a + p.cps.toList.length + y.length) ds = p :: q :: r
      congr 1
      · refine strExt ?_
        rw [strSub_toList, hd, Nat.add_sub_cancel_left, List.take_left]
      · refine ih q _ f ds h2.1 ?_ (hr q (.head _)) (fun z hz => hr z (.tail _ hz)) h4 hN
        rw [← List.drop_drop, e2, ← hm, List.drop_left]
open StrLaws Builtin.Str in
theorem splitY (y : Str) {c : Nat} {yr : List Nat} (hy : y.cps.toList = c :: yr) (hk : y.cps.all (· < 256) = true) (p : Str) (r : List Str) (hp : c ∉ p.cps.toList) (hr : ∀ q ∈ r, c ∉ q.cps.toList) : Txt.split (Txt.join y (p :: r)) y = p :: r := by
  have hm : y.cps.toList.length = y.length := by simp [Str.length]
  have hy1 : 1 ≤ y.length := by rw [← hm, hy]; simp
  obtain ⟨f, hG, hN⟩ := occ_tight (Txt.join y (p :: r)) y hy1
  have hl := joinY_list y p r
  generalize Txt.join y (p :: r) = x at *
  have hn : x.cps.toList.length = x.length := by simp [Str.length]
  have key := parts_uniq x y hy r p 0 f (occurrences x y 0 x.length (x.length + 1)) (Nat.zero_le _) (by rw [List.drop_zero]; exact hl) hp hr hG hN
  have whole : ∀ (h : partsFrom x y.length 0 [] = p :: r), [x] = p :: r := fun h => by
    have e : partsFrom x y.length 0 [] = [strSub x 0 x.length] := rfl
    rw [e, sub_whole] at h
    exact h
  unfold Txt.split
  split
  · rename_i hc
    rw [Bool.or_eq_true, decide_eq_true_eq, decide_eq_true_eq] at hc
    rcases hc with h | h
    · have e0 : occurrences x y 0 x.length (x.length + 1) = [] := by
        cases ho : occurrences x y 0 x.length (x.length + 1) with
        | nil => rfl
        | cons d ds =>
          rw [ho] at hG
          have := hG.2.1.1
          omega
      rw [e0] at key
      exact whole key
    · exfalso
      have e1 : Builtin.Str.strKind y = 1 := by unfold Builtin.Str.strKind; rw [if_pos hk]
      have e2 : 1 ≤ Builtin.Str.strKind x := by
        unfold Builtin.Str.strKind
        split
        · exact Nat.le_refl _
        · split <;> decide
      omega
  · split
    · rename_i he
      rw [List.isEmpty_iff.mp he] at key
      exact whole key
    · rw [partsBetween_eq]
      exact key
theorem flags_split {base : Nat} (hb : base < 23) (p : Nat) (r : List Nat) (hp : p < 8) (hr : ∀ q ∈ r, q < 8) : Txt.split (Txt.join (Str.ofString ", ") ((p :: r).map fun p => flagWord (base + p))) (Str.ofString ", ") = (p :: r).map fun p => flagWord (base + p) := by
  refine splitY _ (c := 44) (yr := [32]) (by decide +kernel) (by decide +kernel) _ _ (flag_ok (by omega)).2.2 fun q hq => ?_
  obtain ⟨k, hk, rfl⟩ := List.mem_map.mp hq
  have := hr k hk
  exact (flag_ok (by omega)).2.2
end Mine
end
section -- G1
open PySem PySem.W PySem.Calls PyProof.Rows
set_option Elab.async false
set_option maxRecDepth 100000
set_option linter.unusedVariables false
namespace Mine
noncomputable def flagTail (i : Nat) : Str := (Str.ofString "0x" ++ ⟨#[[49, 50, 52, 56].getD (i % 4) 0]⟩) ++ rep 48 ((i : Int).fdiv 4)
theorem flagTail_ok : ∀ i : Fin 40, 10 ≤ i.val → flagTail i = flagWord i := by decide +kernel
theorem flagName_ok : ∀ i : Fin 10, flagNames[i.val]? = some (flagWord i) := by decide +kernel
theorem flagMod : ∀ i : Fin 40, ([49, 50, 52, 56] : List Nat)[((i.val : Int).fmod 4).toNat]? = some ([49, 50, 52, 56].getD (i.val % 4) 0) ∧ 0 ≤ (i.val : Int).fmod 4 ∧ (i.val : Int).fmod 4 < 4 := by decide +kernel
theorem flagDiv : ∀ i : Fin 40, 0 ≤ (i.val : Int).fdiv 4 ∧ (i.val : Int).fdiv 4 ≤ 10 := by decide +kernel
theorem rep_len (c : Nat) (n : Int) : (rep c n).length = n.toNat := by unfold rep Str.length; simp
theorem lw {w : World} {sc : Scope} {C : Ctxt w (K1 w) sc} {ρ : Frame} {σ : Ledger} {i : Nat} {Φ : AV → Frame → Ledger → Prop} (hd : 1 ≤ C.d) (h1 : i < 40) (t : Tok)
    (h : Φ (.str (flagWord i)) ρ σ) : WV P1 C ρ σ (call (.ref 263) [.int (i : Int) t]) Φ := by
  have hsz := sizeLine_eq
  refine W.sub ?_
  refine call_fn (args := [.int i]) (names := [Str.ofString "flag"]) (others := [Str.ofString "names"]) rfl hd (fun h _ => ⟨_, BindsTo.of_eq rfl, .cons ⟨t, rfl⟩ .nil⟩) (by kernel_rfl) (by decide +kernel) (by decide +kernel) (by decide +kernel) rfl rfl rfl ?_
  intro C' hd' hcl
  obtain ⟨hf, hf0, hf1⟩ := flagMod ⟨i, h1⟩
  obtain ⟨hq0, hq1⟩ := flagDiv ⟨i, h1⟩
  dsimp only at hf hf0 hf1 hq0 hq1
  refine x_cons ?_
  refine x_asgL ?_
  refine ev_list ?_
  refine sp_cons ?_
  refine ev_str ?_
  refine sp_cons ?_
  refine ev_str ?_
  refine sp_cons ?_
  refine ev_str ?_
  refine sp_cons ?_
  refine ev_str ?_
  refine sp_cons ?_
  refine ev_str ?_
  refine sp_cons ?_
  refine ev_str ?_
  refine sp_cons ?_
  refine ev_str ?_
  refine sp_cons ?_
  refine ev_str ?_
  refine sp_cons ?_
  refine ev_str ?_
  refine sp_cons ?_
  refine ev_str ?_
  refine sp_nil ?_
  refine new_list (by decide +kernel) fun l => ⟨_, .tail .head, ?_⟩
  refine x_cons ?_
  refine x_if ?_
  refine tst_cmp ?_
  refine ev_loc (.head _) ?_
  refine ev_int ?_
  refine cmp_lt_ii ?_
  refine ⟨fun hb => ?_, fun hb => ?_⟩
  · have hb := of_decide_eq_true hb
    refine x_cons ?_
    refine x_ret ?_
    refine ev_sub ?_
    refine ev_loc (mget 1 rfl) ?_
    refine ev_loc (.head _) ?_
    refine sub_list (.head _) (by omega) (by omega) (a := .str (flagWord i)) ?_ ?_
    · have := flagName_ok ⟨i, by omega⟩
      show (flagNames.map AV.str)[(i : Int).toNat]? = _
      rw [List.getElem?_map, Int.toNat_natCast, this]; rfl
    · exact ⟨_, .cons _ (.refl _), h⟩
  · have hb := of_decide_eq_false hb
    refine x_nil ?_
    refine x_cons ?_
    refine x_ret ?_
    refine ev_bin ?_
    refine ev_bin ?_
    refine ev_str ?_
    refine ev_sub ?_
    refine ev_str ?_
    refine ev_bin ?_
    refine ev_loc (.head _) ?_
    refine ev_int ?_
    refine op_mod_ii (by decide) ?_
    refine sub_str (c := [49, 50, 52, 56].getD (i % 4) 0) hf0 (by omega) hf ?_
    refine op_add_ss (by show 2 + 1 ≤ _; omega) ?_
    refine ev_bin ?_
    refine ev_str ?_
    refine ev_bin ?_
    refine ev_loc (.head _) ?_
    refine ev_int ?_
    refine op_fdiv_ii (by decide) (PyProof.noPylong_small (by decide)) ?_
    refine op_mul_si (c := 48) rfl (by omega) (by omega) ?_
    refine op_add_ss (by rw [rep_len]; show 2 + 1 + _ ≤ _; omega) ?_
    have := flagTail_ok ⟨i, h1⟩ (by show 10 ≤ i; omega)
    unfold flagTail at this
    rw [this]
    exact ⟨_, .cons _ (.refl _), h⟩
end Mine
end
section -- G2
open PySem PySem.W PySem.Calls PyProof.Rows
set_option Elab.async false
set_option maxRecDepth 100000
set_option linter.unusedVariables false
namespace Mine
noncomputable def intKeysB (es : List DictEntry) : Bool := es.all fun e => match e.key with
  | .int k _ => e.hash == hashInt k
  | _ => false
theorem intKeys_of {es : List DictEntry} (h : intKeysB es = true) : IntKeys es := by
  intro e he
  have := List.all_eq_true.mp h e he
  split at this
  · rename_i k t hk; exact ⟨k, t, hk, beq_iff_eq.mp this⟩
  · cases this
/-- what the table of flags gives, or the number to the base 16 -/
noncomputable def tabIs (es : Array DictEntry) (i : Nat) : Bool := match findBy Value.isInt es ((2 ^ i : Nat) : Int) with
  | some (.str x _) => x == flagWord i
  | none => baseText "0x" 16 ((2 ^ i : Nat) : Int) == flagWord i
  | _ => false
theorem tab_ok {es : Array DictEntry} {i : Nat} (h : tabIs es i = true) : match findBy Value.isInt es ((2 ^ i : Nat) : Int) with
    | some v => (AV.str (flagWord i)).is v
    | none => AV.str (flagWord i) = AV.str (baseText "0x" 16 ((2 ^ i : Nat) : Int)) := by
  unfold tabIs at h
  split at h
  · rename_i x t e; rw [e]; exact ⟨t, by rw [beq_iff_eq.mp h]⟩
  · rename_i e; rw [e]; rw [beq_iff_eq.mp h]
  · cases h
theorem tab_all {es : Array DictEntry} {i : Nat} (h : ∀ i : Fin 32, tabIs es i = true) (hi : i < 32) : tabIs es i = true := h ⟨i, hi⟩
theorem hex_len : ∀ i : Fin 32, (baseText "0x" 16 ((2 ^ (i : Nat) : Nat) : Int)).length ≤ 40 := by decide +kernel
theorem pretty_ne {n i : Nat} (h : n ≠ 0) (hi : i ≤ 32) (hc : clearLow n i = 0) : Txt.join (Str.ofString ", ") (wordsOf n i) = prettyOf n := by
  unfold prettyOf; rw [if_neg h, words_end n i hc hi]
section
variable {w : World} {sc : Scope} {C : Ctxt w (K1 w) sc} {ρ : Frame} {σ : Ledger}
theorem pf {n : Nat} {Φ : AV → Frame → Ledger → Prop} (hd : 1 ≤ C.d) (hn : n < 2 ^ 32) (t : Tok)
    (h : Φ (.str (prettyOf n)) ρ σ) : WV P1 C ρ σ (call (.ref 190) [.int n t]) Φ := by
  refine W.sub ?_
  refine call_fn (args := [.int n]) (names := [Str.ofString "flags"]) (others := [Str.ofString "names", Str.ofString "i", Str.ofString "flag"]) rfl hd (fun h _ => ⟨_, BindsTo.of_eq rfl, .cons ⟨t, rfl⟩ .nil⟩) (by kernel_rfl) (by decide +kernel) (by decide +kernel) (by decide +kernel) rfl rfl rfl ?_
  intro C' hd' hcl
  refine x_cons ?_
  refine x_asgL ?_
  refine ev_list ?_
  refine sp_nil ?_
  refine new_list (by decide +kernel) fun l => ⟨_, .tail .head, ?_⟩
  refine x_cons ?_
  refine x_for ?_
  refine ev_callT rfl (by boot_fast) (by decide) ?_
  refine sp_cons ?_
  refine ev_int ?_
  refine sp_nil ?_
  refine mk_range1 ?_
  intro r
  refine forH (spec_range (n := 32) (by decide +kernel) (by decide +kernel)) (.head _) (fun i ρ' σ' => ∃ iv fv, (n = 0 ∨ clearLow n i ≠ 0) ∧ ρ' = [(Str.ofString "flags", some (.int (clearLow n i))), (Str.ofString "names", some (.ref l)), (Str.ofString "i", iv), (Str.ofString "flag", fv)] ∧ σ' = (r, .range 0 32 1) :: (l, .list ((wordsOf n i).map AV.str)) :: σ) (⟨none, none, ?_, rfl, rfl⟩) ?_ ?_ ?_
  · rw [clear0]; omega
  · rintro i _ _ ⟨_, _, _, rfl, rfl⟩; exact .head _
  · rintro i b _ _ ⟨iv, fv, hI, rfl, rfl⟩ hx vb hb
    have hi : i < 32 := by
      have := (List.getElem?_eq_some_iff.mp hx).1
      simpa using this
    have hb' : b = .int (i : Int) := by
      rw [List.getElem?_map, List.getElem?_range hi] at hx
      simp at hx; exact hx.symm
    subst hb'
    have e2 : (1 : Int) * 2 ^ (i : Int).toNat = ((2 ^ i : Nat) : Int) := by simp
    refine st_loc (.tail (.tail .head)) hb ?_
    refine x_cons ?_
    refine x_asgL ?_
    refine ev_bin ?_
    refine ev_int ?_
    refine ev_loc (mget 2 rfl) ?_
    refine op_shl_ii (by omega) (by omega) (by decide) ?_
    rw [e2]
    refine ⟨_, .tail (.tail (.tail .head)), ?_⟩
    refine x_cons ?_
    refine x_if ?_
    refine tst_plain ?_
    refine ev_bin ?_
    refine ev_loc (.head _) ?_
    refine ev_loc (mget 3 rfl) ?_
    refine op_and_ii ?_
    refine tr_int ?_
    rw [bitAnd_nat, and_two, clear_bit]
    refine ⟨fun hb => ?_, fun hb => ?_⟩
    · have hbit : n.testBit i = true := by
        cases h : n.testBit i
        · rw [h] at hb; simp at hb
        · rfl
      refine x_cons ?_
      refine x_expr ?_
      refine ev_meth ?_
      refine ev_loc (mget 1 rfl) ?_
      refine tm_append (mget 1 rfl) ?_
      refine cw_b ?_
      refine sp_cons ?_
      refine ev_meth ?_
      refine ev_glob (.ref 183) rfl rfl ?_
      refine tm_dictget rfl ?_
      refine cw_b ?_
      refine sp_cons ?_
      refine ev_loc (mget 3 rfl) ?_
      refine sp_cons ?_
      refine ev_callB rfl (by boot_fast) (by decide) ?_
      refine sp_cons ?_
      refine ev_loc (mget 3 rfl) ?_
      refine sp_nil ?_
      refine call_hex (Nat.le_trans (hex_len ⟨i, hi⟩) (by rw [sizeLine_eq]; omega)) ?_
      refine sp_nil ?_
      refine call_dictget (r := .str (flagWord i)) rfl (intKeys_of (by kernel_rfl)) (by decide) (tab_ok (tab_all (by decide +kernel) hi)) ?_
      refine sp_nil ?_
      refine call_append (.tail .head) (by rw [List.length_map]; exact Nat.le_trans (words_len n i) (by rw [sizeLine_eq]; omega)) ?_
      refine x_cons ?_
      refine x_augL (.head _) ?_
      refine ev_loc (mget 3 rfl) ?_
      refine iop_xor_ii ?_
      rw [bitXor_low n i hbit]
      refine ⟨_, .head, ?_⟩
      refine x_cons ?_
      refine x_if ?_
      refine tst_not ?_
      refine tst_plain ?_
      refine ev_loc (.head _) ?_
      refine tr_int ?_
      refine ⟨fun hb => ?_, fun hb => ?_⟩
      · have h0 : clearLow n (i + 1) = 0 := by simpa using hb
        have hn0 : n ≠ 0 := by rintro rfl; simp at hbit
        refine x_cons ?_
        refine x_brk ?_
        refine x_cons ?_
        refine x_ret ?_
        refine ev_meth ?_
        refine ev_str ?_
        refine tm_str PySem.F.slot_str_join PySem.F.type_str_join ?_
        intro t
        refine cw_b ?_
        refine sp_cons ?_
        refine ev_loc (mget 1 rfl) ?_
        refine sp_nil ?_
        refine call_join_list (ys := wordsOf n (i + 1)) ?_ (by decide) ?_ ?_
        · rw [words_next_set n i hbit, List.map_append]; exact .tail _ (.head _)
        · have := words_sum n (i + 1) (by omega)
          have := words_len n (i + 1)
          omega
        · rw [pretty_ne hn0 (by omega) h0]
          exact ⟨σ, .cons _ (.cons _ (.refl _)), h⟩
      · have h0 : clearLow n (i + 1) ≠ 0 := by simpa using hb
        refine x_nil ?_
        refine x_nil ?_
        refine x_nil ?_
        refine ⟨_, _, .inr h0, rfl, ?_⟩
        rw [words_next_set n i hbit, List.map_append]; rfl
    · have hbit : n.testBit i = false := by
        cases h : n.testBit i
        · rfl
        · rw [h] at hb
          exact absurd (show ((2 ^ i : Nat) : Int) = 0 by simpa using hb) (by have := Nat.two_pow_pos i; omega)
      refine x_nil ?_
      refine x_nil ?_
      refine ⟨some (.int i), some (.int ((2 ^ i : Nat) : Int)), ?_, ?_, ?_⟩
      · exact hI.imp id fun h => by rwa [← clear_next_not n i hbit]
      · rw [← clear_next_not n i hbit]
      · rw [words_next_not n i hbit]
  · rintro _ _ ⟨iv, fv, hI, rfl, rfl⟩
    have hn0 : n = 0 := hI.elim id fun h => absurd (clear_32 n hn) h
    subst hn0
    refine x_cons ?_
    refine x_expr ?_
    refine ev_meth ?_
    refine ev_loc (mget 1 rfl) ?_
    refine tm_append (mget 1 rfl) ?_
    refine cw_b ?_
    refine sp_cons ?_
    refine ev_callB rfl (by boot_fast) (by decide) ?_
    refine sp_cons ?_
    refine ev_loc (.head _) ?_
    refine sp_nil ?_
    refine call_hex (by decide +kernel) ?_
    refine sp_nil ?_
    refine call_append (.tail .head) (by decide +kernel) ?_
    refine x_nil ?_
    refine x_cons ?_
    refine x_ret ?_
    refine ev_meth ?_
    refine ev_str ?_
    refine tm_str PySem.F.slot_str_join PySem.F.type_str_join ?_
    intro t
    refine cw_b ?_
    refine sp_cons ?_
    refine ev_loc (mget 1 rfl) ?_
    refine sp_nil ?_
    refine call_join_list (ys := [Str.ofString "0x0"]) ?_ (by decide) (by decide +kernel) ?_
    · exact .tail _ (.head _)
    · exact ⟨σ, .cons _ (.cons _ (.refl _)), h⟩
end
end Mine
end
section -- G5
open PySem PySem.W PySem.Calls PyProof.Rows
set_option Elab.async false
set_option maxRecDepth 100000
set_option linter.unusedVariables false
namespace Mine
/-- count, b, n, nt -/
structure WsSt where
  count : List Nat
  b : Nat
  n : Nat
  nt : Nat
noncomputable def wsGrow (count : List Nat) (b : Nat) : List Nat := if b ≥ count.length then count ++ List.replicate (b - count.length + 1) 0 else count
noncomputable def wsStep (st : WsSt) (ch : Nat) : WsSt := if ch = 32 then ⟨st.count, st.b + 1, st.n + 1, st.nt⟩ else ⟨(wsGrow st.count st.b).set st.b ((wsGrow st.count st.b).getD st.b 0 + 1), 0, st.n + 1, st.nt + 1⟩
noncomputable def wsRun (cs : List Nat) : WsSt := cs.foldl wsStep ⟨[], 0, 0, 0⟩
noncomputable def wsDict (ws : Str) (st : WsSt) (t : Addr) : List (Str × AV) := [(Str.ofString "raw", .str ws), (Str.ofString "n", .int st.n), (Str.ofString "nt", .int st.nt), (Str.ofString "norm", .ref t), (Str.ofString "is_simple", .bool (decide (st.count.length ≤ 1)))]
theorem wsGrow_len (count : List Nat) (b : Nat) : b < (wsGrow count b).length ∧ (wsGrow count b).length ≤ max count.length (b + 1) := by
  unfold wsGrow
  split
  · rw [List.length_append, List.length_replicate]; omega
  · omega
theorem wsStep_ok {st : WsSt} {i : Nat} (ch : Nat) (h1 : st.b ≤ i) (h2 : st.count.length ≤ i) : (wsStep st ch).b ≤ i + 1 ∧ (wsStep st ch).count.length ≤ i + 1 := by
  unfold wsStep
  split
  · exact ⟨by dsimp only; omega, by dsimp only; omega⟩
  · have := wsGrow_len st.count st.b
    exact ⟨by dsimp only; omega, by dsimp only; rw [List.length_set]; omega⟩
theorem wsRun_ok (cs : List Nat) : ∀ i, i ≤ cs.length → (wsRun (cs.take i)).b ≤ i ∧ (wsRun (cs.take i)).count.length ≤ i := by
  intro i
  induction i with
  | zero => intro _; exact ⟨Nat.le_refl _, Nat.le_refl _⟩
  | succ i ih =>
    intro hi
    have h := ih (by omega)
    have e : cs.take (i + 1) = cs.take i ++ [cs[i]] := by rw [List.take_add_one, List.getElem?_eq_getElem (by omega)]; rfl
    rw [e]
    unfold wsRun
    rw [List.foldl_append]
    exact wsStep_ok _ h.1 h.2
theorem wsRun_succ {cs : List Nat} {i c : Nat} (h : cs[i]? = some c) : wsRun (cs.take (i + 1)) = wsStep (wsRun (cs.take i)) c := by
  rw [List.take_add_one, h]
  unfold wsRun
  rw [List.foldl_append]; rfl
theorem sign_str (c : Nat) (hc : c = 32 ∨ c = 9) : ((⟨#[c]⟩ : Str) == Str.ofString " ") = decide (c = 32) ∧ ((⟨#[c]⟩ : Str) == Str.ofString "\t") = decide (c = 9) := by
  rcases hc with rfl | rfl <;> decide +kernel
section
variable {w : World} {sc : Scope} {C : Ctxt w (K1 w) sc} {ρ : Frame} {σ : Ledger}
theorem wsi {x d : Addr} {ws : Str} {tk : Tok} {Φ : AV → Frame → Ledger → Prop} (hd : 1 ≤ C.d) (hcs : ∀ c ∈ ws.cps.toList, c = 32 ∨ c = 9) (hlen : ws.length ≤ 200)
    (h : ∀ t tc, Φ .none ρ ((t, .tuple [.ref tc, .int (wsRun ws.cps.toList).b]) :: (tc, .tuple ((wsRun ws.cps.toList).count.map fun (k : Nat) => AV.int k)) :: (x, .inst 252 d) :: (d, .dict (wsDict ws (wsRun ws.cps.toList) t)) :: σ)) :
    WC P1 C ρ ((x, .inst 252 d) :: (d, .dict []) :: σ) (.call (.ref 207) ⟨[.ref x, .str ws tk], []⟩) Φ := by
  have hsz := sizeLine_eq
  refine WC.sub ?_
  refine code_fn (args := [.ref x, .str ws]) (names := [Str.ofString "self", Str.ofString "ws"]) (others := [Str.ofString "S", Str.ofString "T", Str.ofString "count", Str.ofString "b", Str.ofString "n", Str.ofString "nt", Str.ofString "ch"]) rfl hd (fun h _ => ⟨_, BindsTo.of_eq rfl, .cons rfl (.cons ⟨tk, rfl⟩ .nil)⟩) (by kernel_rfl) (by decide +kernel) (by decide +kernel) (by decide +kernel) rfl rfl rfl ?_
  intro C' hd' hcl
  refine x_cons ?_
  refine x_asgattr ?_
  refine ev_loc (mget 1 rfl) ?_
  refine ev_loc (.head _) ?_
  refine sa_self (.inst (.head _)) (.tail .head) (by kernel_rfl) (by kernel_rfl) ?_
  refine x_cons ?_
  refine x_unpack2s ?_ (swapped2 rfl rfl rfl (by decide +kernel) rfl (by decide +kernel) (by decide +kernel))
  refine ev_tuple ?_
  refine sp_cons ?_
  refine ev_attr ?_
  refine ev_glob (.ref 252) rfl rfl ?_
  refine ga_clsS (mc := .type "type") (x := Str.ofString " ") rfl (by kernel_rfl) (by kernel_rfl) ?_
  refine sp_cons ?_
  refine ev_attr ?_
  refine ev_glob (.ref 252) rfl rfl ?_
  refine ga_clsS (mc := .type "type") (x := Str.ofString "\t") rfl (by kernel_rfl) (by kernel_rfl) ?_
  refine sp_nil ?_
  refine new_tuple (by decide +kernel) fun t0 => ⟨t0, _, _, rfl, .head _, fun vb vc hb hc => ?_⟩
  refine st_loc (.tail (.tail (.tail .head))) hc ?_
  refine st_loc (.tail (.tail .head)) hb ?_
  refine x_cons ?_
  refine x_asgL ?_
  refine ev_list ?_
  refine sp_nil ?_
  refine new_list (by decide +kernel) (fun a0 => ⟨_, .tail (.tail (.tail (.tail .head))), ?_⟩)
  refine x_cons ?_
  refine x_asg3 ?_
  refine ev_int ?_
  intro v hv
  refine st_loc (.tail (.tail (.tail (.tail (.tail .head))))) hv ?_
  refine st_loc (.tail (.tail (.tail (.tail (.tail (.tail .head)))))) hv ?_
  refine st_loc (.tail (.tail (.tail (.tail (.tail (.tail (.tail .head))))))) hv ?_
  refine W.less (σ' := (a0, .list []) :: (x, .inst 252 d) :: (d, .dict [(Str.ofString "raw", .str ws)]) :: σ) (.cons_cons _ (.cons _ (.refl _))) ?_
  refine x_cons ?_
  refine x_forV ?_
  refine ev_attr ?_
  refine ev_loc (.head _) ?_
  refine ga_own (.inst (mget 1 rfl)) (mget 2 rfl) (by kernel_rfl) rfl rfl ?_
  refine ⟨ws.cps.toList.map fun c => AV.str ⟨#[c]⟩, fun _ => True, fun v hv => ?_, trivial, ?_⟩
  · obtain ⟨t, rfl⟩ := hv
    refine ⟨_, spec_str ?_⟩
    rw [← Array.all_toList]
    refine List.all_eq_true.mpr fun c hc => ?_
    rcases hcs c hc with rfl | rfl <;> rfl
  refine ⟨fun i ρ' σ' => ∃ a z, ρ' = [(Str.ofString "self", some (.ref x)), (Str.ofString "ws", some (.str ws)), (Str.ofString "S", some (.str (Str.ofString " "))), (Str.ofString "T", some (.str (Str.ofString "\t"))), (Str.ofString "count", some (.ref a)), (Str.ofString "b", some (.int (wsRun (ws.cps.toList.take i)).b)), (Str.ofString "n", some (.int (wsRun (ws.cps.toList.take i)).n)), (Str.ofString "nt", some (.int (wsRun (ws.cps.toList.take i)).nt)), (Str.ofString "ch", z)] ∧ σ' = (a, .list ((wsRun (ws.cps.toList.take i)).count.map fun (k : Nat) => AV.int k)) :: (x, .inst 252 d) :: (d, .dict [(Str.ofString "raw", .str ws)]) :: σ, ⟨a0, none, rfl, rfl⟩, fun _ _ _ _ => trivial, ?_, ?_⟩
  · rintro i b _ _ ⟨a, z, rfl, rfl⟩ hx vb hb
    rw [List.getElem?_map, Option.map_eq_some_iff] at hx
    obtain ⟨c, hc, rfl⟩ := hx
    have hil : i < ws.cps.toList.length := (List.getElem?_eq_some_iff.mp hc).1
    have hwl : ws.cps.toList.length ≤ 200 := by rw [Array.length_toList]; exact hlen
    have hcc := hcs c (List.mem_of_getElem? hc)
    obtain ⟨hsg, htg⟩ := sign_str c hcc
    obtain ⟨hbi, hci⟩ := wsRun_ok ws.cps.toList i (by omega)
    have hstep := wsRun_succ hc
    generalize wsRun (ws.cps.toList.take i) = st at hbi hci hstep ⊢
    refine W.mono (Φ := fun _ ρ' σ' => WF P1 C' ρ' σ' (execs _ C'.env) _) ?_ (fun _ ρ' σ' h => W.sub h)
    refine st_loc (.tail (.tail (.tail (.tail (.tail (.tail (.tail (.tail .head)))))))) hb ?_
    refine x_cons ?_
    refine x_if ?_
    refine tst_cmp ?_
    refine ev_loc (mget 8 rfl) ?_
    refine ev_loc (mget 2 rfl) ?_
    refine cmp_eq_ss ?_
    refine ⟨fun hb => ?_, fun hb => ?_⟩
    · rw [hsg] at hb
      have h32 := of_decide_eq_true hb
      refine x_cons ?_
      refine x_asgL ?_
      refine ev_bin ?_
      refine ev_loc (mget 6 rfl) ?_
      refine ev_int ?_
      refine op_add_ii ?_
      refine ⟨_, .tail (.tail (.tail (.tail (.tail (.tail .head))))), ?_⟩
      refine x_cons ?_
      refine x_asgL ?_
      refine ev_bin ?_
      refine ev_loc (mget 5 rfl) ?_
      refine ev_int ?_
      refine op_add_ii ?_
      refine ⟨_, .tail (.tail (.tail (.tail (.tail .head)))), ?_⟩
      refine x_nil ?_
      refine x_nil ?_
      unfold wsStep at hstep
      rw [if_pos h32] at hstep
      refine ⟨_, .refl _, ?_⟩
      show ∃ _ _, _ ∧ _
      rw [hstep]
      exact ⟨a, _, rfl, rfl⟩
    · rw [hsg] at hb
      have h32 := of_decide_eq_false hb
      have h9 : c = 9 := hcc.resolve_left h32
      refine x_cons ?_
      refine x_if ?_
      refine tst_cmp ?_
      refine ev_loc (mget 8 rfl) ?_
      refine ev_loc (mget 3 rfl) ?_
      refine cmp_eq_ss ?_
      refine ⟨fun hb => ?_, fun hb => ?_⟩
      · refine x_cons ?_
        refine x_asgL ?_
        refine ev_bin ?_
        refine ev_loc (mget 6 rfl) ?_
        refine ev_int ?_
        refine op_add_ii ?_
        refine ⟨_, .tail (.tail (.tail (.tail (.tail (.tail .head))))), ?_⟩
        refine x_cons ?_
        refine x_asgL ?_
        refine ev_bin ?_
        refine ev_loc (mget 7 rfl) ?_
        refine ev_int ?_
        refine op_add_ii ?_
        refine ⟨_, .tail (.tail (.tail (.tail (.tail (.tail (.tail .head)))))), ?_⟩
        refine x_cons ?_
        refine x_if ?_
        refine tst_cmp ?_
        refine ev_loc (mget 5 rfl) ?_
        refine ev_callB rfl (by boot_fast) (by decide) ?_
        refine sp_cons ?_
        refine ev_loc (mget 4 rfl) ?_
        refine sp_nil ?_
        refine call_len_list (.head _) (by rw [List.length_map]; omega) ?_
        refine cmp_ge_ii ?_
        unfold wsStep at hstep
        rw [if_neg h32] at hstep
        obtain ⟨hg1, hg2⟩ := wsGrow_len st.count st.b
        refine ⟨fun hb => ?_, fun hb => ?_⟩
        · have hb := of_decide_eq_true hb
          rw [List.length_map] at hb
          have hgr : wsGrow st.count st.b = st.count ++ List.replicate (st.b - st.count.length + 1) 0 := if_pos (by omega)
          refine x_cons ?_
          refine x_asgL ?_
          refine ev_bin ?_
          refine ev_loc (mget 4 rfl) ?_
          refine ev_bin ?_
          refine ev_list ?_
          refine sp_cons ?_
          refine ev_int ?_
          refine sp_nil ?_
          refine new_list (by decide +kernel) (fun a1 => ?_)
          refine ev_bin ?_
          refine ev_bin ?_
          refine ev_loc (mget 5 rfl) ?_
          refine ev_callB rfl (by boot_fast) (by decide) ?_
          refine sp_cons ?_
          refine ev_loc (mget 4 rfl) ?_
          refine sp_nil ?_
          refine call_len_list (mget 1 rfl) (by rw [List.length_map]; omega) ?_
          refine op_sub_ii ?_
          refine ev_int ?_
          refine op_add_ii ?_
          rw [List.length_map]
          refine op_mul_li (xs := [.int 0]) (.head _) (by omega) (by omega) (by simp; omega) (fun a2 => ?_)
          refine op_add_ll (mget 2 rfl) (.head _) (by simp; omega) (fun a3 => ⟨_, .tail (.tail (.tail (.tail .head))), ?_⟩)
          have e1 : (st.count.map fun (k : Nat) => AV.int k) ++ (List.replicate ((st.b : Int) - (st.count.length : Int) + 1).toNat [AV.int 0]).flatten = (wsGrow st.count st.b).map fun (k : Nat) => AV.int k := by
            rw [hgr, show ((st.b : Int) - (st.count.length : Int) + 1).toNat = st.b - st.count.length + 1 by omega]
            simp
          rw [e1]
          refine W.less (σ' := (a3, .list ((wsGrow st.count st.b).map fun (k : Nat) => AV.int k)) :: (x, .inst 252 d) :: (d, .dict [(Str.ofString "raw", .str ws)]) :: σ) (.cons_cons _ (.cons _ (.cons _ (.cons _ (.refl _))))) ?_
          refine x_nil ?_
          have hg3 := List.getElem?_eq_getElem hg1
          have hg4 : (wsGrow st.count st.b).getD st.b 0 = (wsGrow st.count st.b)[st.b] := by rw [List.getD_eq_getElem?_getD, hg3]; rfl
          refine x_cons ?_
          refine x_setitem ?_
          refine ev_bin ?_
          refine ev_sub ?_
          refine ev_loc (mget 4 rfl) ?_
          refine ev_loc (mget 5 rfl) ?_
          refine sub_list (a := .int ((wsGrow st.count st.b).getD st.b 0 : Nat)) (.head _) (by omega) (by omega) (by rw [List.getElem?_map, Int.toNat_natCast, hg3, hg4]; rfl) ?_
          refine ev_int ?_
          refine op_add_ii ?_
          refine ev_loc (mget 4 rfl) ?_
          refine ev_loc (mget 5 rfl) ?_
          refine set_list (xs := (wsGrow st.count st.b).map fun (k : Nat) => AV.int k) .head (by omega) (by omega) (by rw [List.length_map]; omega) ?_
          refine x_cons ?_
          refine x_asgL ?_
          refine ev_int ?_
          refine ⟨_, .tail (.tail (.tail (.tail (.tail .head)))), ?_⟩
          refine x_nil ?_
          refine x_nil ?_
          refine x_nil ?_
          refine ⟨_, .refl _, ?_⟩
          show ∃ _ _, _ ∧ _
          rw [hstep]
          refine ⟨_, _, rfl, ?_⟩
          rw [List.map_set]
          rfl
        · have hb := of_decide_eq_false hb
          rw [List.length_map] at hb
          have hgr : wsGrow st.count st.b = st.count := if_neg (by omega)
          refine x_nil ?_
          rw [← hgr] at hci ⊢
          have hg3 := List.getElem?_eq_getElem hg1
          have hg4 : (wsGrow st.count st.b).getD st.b 0 = (wsGrow st.count st.b)[st.b] := by rw [List.getD_eq_getElem?_getD, hg3]; rfl
          refine x_cons ?_
          refine x_setitem ?_
          refine ev_bin ?_
          refine ev_sub ?_
          refine ev_loc (mget 4 rfl) ?_
          refine ev_loc (mget 5 rfl) ?_
          refine sub_list (a := .int ((wsGrow st.count st.b).getD st.b 0 : Nat)) (.head _) (by omega) (by omega) (by rw [List.getElem?_map, Int.toNat_natCast, hg3, hg4]; rfl) ?_
          refine ev_int ?_
          refine op_add_ii ?_
          refine ev_loc (mget 4 rfl) ?_
          refine ev_loc (mget 5 rfl) ?_
          refine set_list (xs := (wsGrow st.count st.b).map fun (k : Nat) => AV.int k) .head (by omega) (by omega) (by rw [List.length_map]; omega) ?_
          refine x_cons ?_
          refine x_asgL ?_
          refine ev_int ?_
          refine ⟨_, .tail (.tail (.tail (.tail (.tail .head)))), ?_⟩
          refine x_nil ?_
          refine x_nil ?_
          refine x_nil ?_
          refine ⟨_, .refl _, ?_⟩
          show ∃ _ _, _ ∧ _
          rw [hstep]
          refine ⟨_, _, rfl, ?_⟩
          rw [List.map_set]
          rfl
      · rw [htg, h9] at hb; cases hb
  · rintro _ _ ⟨a, z, rfl, rfl⟩
    have hfull : wsRun (ws.cps.toList.take (ws.cps.toList.map fun c => AV.str ⟨#[c]⟩).length) = wsRun ws.cps.toList := by
      rw [List.length_map, List.take_length]
    rw [hfull]
    have hok := wsRun_ok ws.cps.toList ws.cps.toList.length (Nat.le_refl _)
    rw [List.take_length] at hok
    have hwl : ws.cps.toList.length ≤ 200 := by rw [Array.length_toList]; exact hlen
    generalize wsRun ws.cps.toList = st at h hok ⊢
    refine x_nil ?_
    refine x_cons ?_
    refine x_asgattr ?_
    refine ev_loc (mget 6 rfl) ?_
    refine ev_loc (.head _) ?_
    refine sa_self (.inst (mget 1 rfl)) (.tail (.tail .head)) (by kernel_rfl) (by kernel_rfl) ?_
    refine x_cons ?_
    refine x_asgattr ?_
    refine ev_loc (mget 7 rfl) ?_
    refine ev_loc (.head _) ?_
    refine sa_self (.inst (mget 1 rfl)) (.tail (.tail .head)) (by kernel_rfl) (by kernel_rfl) ?_
    refine x_cons ?_
    refine x_asgattr ?_
    refine ev_tuple ?_
    refine sp_cons ?_
    refine ev_callT rfl (by boot_fast) (by decide) ?_
    refine sp_cons ?_
    refine ev_loc (mget 4 rfl) ?_
    refine sp_nil ?_
    refine call_tuple (.head _) (by rw [List.length_map]; omega) (fun tc => ?_)
    refine sp_cons ?_
    refine ev_loc (mget 5 rfl) ?_
    refine sp_nil ?_
    refine new_tuple (by show 2 ≤ _; omega) (fun t => ?_)
    refine ev_loc (.head _) ?_
    refine sa_self (.inst (mget 3 rfl)) (.tail (.tail (.tail (.tail .head)))) (by kernel_rfl) (by kernel_rfl) ?_
    refine x_cons ?_
    refine x_asgattr ?_
    refine ev_cmp ?_
    refine ev_callB rfl (by boot_fast) (by decide) ?_
    refine sp_cons ?_
    refine ev_loc (mget 4 rfl) ?_
    refine sp_nil ?_
    refine call_len_list (mget 2 rfl) (by rw [List.length_map]; omega) ?_
    refine ev_int ?_
    refine cmp_le_ii ?_
    refine ev_loc (.head _) ?_
    refine sa_self (.inst (mget 3 rfl)) (.tail (.tail (.tail (.tail .head)))) (by kernel_rfl) (by kernel_rfl) ?_
    refine x_nil ?_
    refine ⟨_, .cons_cons _ (.cons_cons _ (.cons _ (.refl _))), ?_⟩
    have e2 : decide (((st.count.map fun (k : Nat) => AV.int k).length : Int) ≤ 1) = decide (st.count.length ≤ 1) := by
      rw [List.length_map]; exact decide_eq_decide.mpr (by omega)
    have := h t tc
    unfold wsDict at this
    rw [← e2] at this
    exact this
end
end Mine
end
section -- G6
open PySem PySem.W PySem.Calls PyProof.Rows
set_option Elab.async false
set_option maxRecDepth 100000
set_option linter.unusedVariables false
namespace Mine
noncomputable def WsAt (σ : Ledger) (x : Addr) (st : WsSt) : Prop := ∃ d ws t tc, (x, .inst 252 d) ∈ σ ∧ (d, .dict (wsDict ws st t)) ∈ σ ∧ (t, .tuple [.ref tc, .int st.b]) ∈ σ ∧ (tc, .tuple (st.count.map fun (k : Nat) => AV.int k)) ∈ σ
/-- the sum of a level -/
noncomputable def lvSum (st : WsSt) (ts : Nat) (k : Nat) : Nat := ((List.range k).map fun j => (ts + j) / ts * st.count.getD (ts + j) 0).sum
noncomputable def level (st : WsSt) (ts : Nat) : Nat := st.b + ts * (lvSum st ts (st.count.length - ts) + st.nt)
noncomputable def longest (st : WsSt) : Int := if (st.b : Int) > (st.count.length : Int) - 1 then (st.b : Int) else (st.count.length : Int) - 1
theorem lvSum_succ (st : WsSt) (ts k : Nat) : lvSum st ts (k + 1) = lvSum st ts k + (ts + k) / ts * st.count.getD (ts + k) 0 := by
  unfold lvSum; rw [List.range_succ, List.map_append, List.sum_append]; simp
theorem src_rangeM {P : Program} {w : World} {K : Frag} {r : Addr} {a b : Int} {n : Nat} (ha : -1000000 ≤ a ∧ a ≤ 1000000) (hb : -1000000 ≤ b ∧ b ≤ 1000000) (h : n = (b - a).toNat) : Src P w K (.ref r) ((List.range n).map fun (i : Nat) => AV.int (a + i)) (fun σ => (r, .range a b 1) ∈ σ) (rio a n) := by
  have := src_range (P := P) (w := w) (K := K) (r := r) (a := a) (b := b) (c := 1) (n := n) (small_one (a := a) (b := b) (by omega) (by omega) (by omega) (by omega)) (by rw [rangeSize_one]; split <;> omega)
  simp only [Int.mul_one] at this
  exact this
theorem getD_le {l : List Nat} {m : Nat} (h : ∀ k ∈ l, k ≤ m) (i : Nat) : l.getD i 0 ≤ m := by
  rw [List.getD_eq_getElem?_getD]
  cases e : l[i]? with
  | none => simp
  | some k => exact h k (List.mem_of_getElem? e)
theorem lvSum_le {st : WsSt} (ts : Nat) (hc : ∀ k ∈ st.count, k ≤ 1000) (hz : st.count.length ≤ 1000) (h1 : 1 ≤ ts) : ∀ k, k ≤ st.count.length - ts → lvSum st ts k ≤ k * 1000000
  | 0, _ => by simp [lvSum]
  | k + 1, hk => by
    have := lvSum_le ts hc hz h1 k (by omega)
    have h2 := getD_le hc (ts + k)
    have h3 : (ts + k) / ts ≤ 1000 := Nat.le_trans (Nat.div_le_self _ _) (by omega)
    have h4 : (ts + k) / ts * st.count.getD (ts + k) 0 ≤ 1000 * 1000 := Nat.mul_le_mul h3 h2
    rw [lvSum_succ, Nat.succ_mul]; omega
section
variable {w : World} {sc : Scope} {C : Ctxt w (K1 w) sc} {ρ : Frame} {σ : Ledger}
theorem lr {x : Addr} {st : WsSt} {Φ : AV → Frame → Ledger → Prop} (hd : 1 ≤ C.d) (hw : WsAt σ x st) (hz : st.count.length ≤ 1000) (h : Φ (.int (longest st)) ρ σ) : WV P1 C ρ σ (call (.ref 214) [.ref x]) Φ := by
  have hsz := sizeLine_eq
  obtain ⟨d, ws, t, tc, hx, hdi, ht, htc⟩ := hw
  refine call_fn (args := [.ref x]) (names := [Str.ofString "self"]) (others := [Str.ofString "count", Str.ofString "trailing"]) rfl hd (fun h _ => ⟨_, BindsTo.of_eq rfl, .cons rfl .nil⟩) (by kernel_rfl) (by decide +kernel) (by decide +kernel) (by decide +kernel) rfl rfl rfl ?_
  intro C' hd' hcl
  refine x_cons ?_
  refine x_unpack2 ?_
  refine ev_attr ?_
  refine ev_loc (.head _) ?_
  refine ga_own (.inst hx) hdi (by kernel_rfl) rfl rfl ?_
  refine ⟨t, _, _, rfl, ht, fun vb vc hb hc => ?_⟩
  refine st_loc (.tail .head) hb ?_
  refine st_loc (.tail (.tail .head)) hc ?_
  refine x_cons ?_
  refine x_ret ?_
  refine ev_callB rfl (by boot_fast) (by decide) ?_
  refine sp_cons ?_
  refine ev_bin ?_
  refine ev_callB rfl (by boot_fast) (by decide) ?_
  refine sp_cons ?_
  refine ev_loc (mget 1 rfl) ?_
  refine sp_nil ?_
  refine call_len_tuple htc (by rw [List.length_map]; omega) ?_
  refine ev_int ?_
  refine op_sub_ii ?_
  refine sp_cons ?_
  refine ev_loc (mget 2 rfl) ?_
  refine sp_nil ?_
  refine call_max2 ?_
  rw [List.length_map]
  exact h
theorem il {x : Addr} {st : WsSt} {ts : Nat} {tk : Tok} {Φ : AV → Frame → Ledger → Prop} (hd : 1 ≤ C.d) (hw : WsAt σ x st) (hz : st.count.length ≤ 1000) (ht1 : 1 ≤ ts) (ht2 : ts ≤ 1000) (hc : ∀ k ∈ st.count, k ≤ 1000) (hn : st.nt ≤ 1000) (h : Φ (.int (level st ts)) ρ σ) : WV P1 C ρ σ (call (.ref 221) [.ref x, .int ts tk]) Φ := by
  have hsz := sizeLine_eq
  obtain ⟨d, ws, t, tc, hx, hdi, ht, htc⟩ := hw
  refine W.sub ?_
  refine call_fn (args := [.ref x, .int ts]) (names := [Str.ofString "self", Str.ofString "tabsize"]) (others := [Str.ofString "count", Str.ofString "trailing", Str.ofString "il", Str.ofString "i"]) rfl hd (fun h _ => ⟨_, BindsTo.of_eq rfl, .cons rfl (.cons ⟨tk, rfl⟩ .nil)⟩) (by kernel_rfl) (by decide +kernel) (by decide +kernel) (by decide +kernel) rfl rfl rfl ?_
  intro C' hd' hcl
  refine x_cons ?_
  refine x_unpack2 ?_
  refine ev_attr ?_
  refine ev_loc (.head _) ?_
  refine ga_own (.inst hx) hdi (by kernel_rfl) rfl rfl ?_
  refine ⟨t, _, _, rfl, ht, fun vb vc hvb hvc => ?_⟩
  refine st_loc (.tail (.tail .head)) hvb ?_
  refine st_loc (.tail (.tail (.tail .head))) hvc ?_
  refine x_cons ?_
  refine x_asgL ?_
  refine ev_int ?_
  refine ⟨_, .tail (.tail (.tail (.tail .head))), ?_⟩
  refine x_cons ?_
  refine x_for ?_
  refine ev_callT rfl (by boot_fast) (by decide) ?_
  refine sp_cons ?_
  refine ev_loc (mget 1 rfl) ?_
  refine sp_cons ?_
  refine ev_callB rfl (by boot_fast) (by decide) ?_
  refine sp_cons ?_
  refine ev_loc (mget 2 rfl) ?_
  refine sp_nil ?_
  refine call_len_tuple htc (by rw [List.length_map]; omega) ?_
  refine sp_nil ?_
  refine mk_range2 (fun r => ?_)
  rw [List.length_map]
  refine forH ((src_rangeM (n := st.count.length - ts) (by omega) (by omega) (by omega)).spec C') (.head _) (fun j ρ' σ' => ∃ z, ρ' = [(Str.ofString "self", some (.ref x)), (Str.ofString "tabsize", some (.int ts)), (Str.ofString "count", some (.ref tc)), (Str.ofString "trailing", some (.int st.b)), (Str.ofString "il", some (.int (lvSum st ts j))), (Str.ofString "i", z)] ∧ σ' = (r, .range ts st.count.length 1) :: σ) (⟨_, rfl, rfl⟩) ?_ ?_ ?_
  · rintro j _ _ ⟨_, rfl, rfl⟩; exact .head _
  · rintro j b _ _ ⟨z, rfl, rfl⟩ hx' vb hb
    rw [List.getElem?_map, Option.map_eq_some_iff] at hx'
    obtain ⟨j', hj', rfl⟩ := hx'
    obtain ⟨hjl, hje⟩ := List.getElem?_eq_some_iff.mp hj'
    rw [List.length_range] at hjl
    rw [List.getElem_range] at hje
    subst hje
    replace hb : (AV.int ((ts + j : Nat) : Int)).is vb := by rw [Int.natCast_add]; exact hb
    have hg := List.getElem?_eq_getElem (show ts + j < st.count.length by omega)
    have hge : st.count.getD (ts + j) 0 = st.count[ts + j]'(by omega) := by rw [List.getD_eq_getElem?_getD, hg]; rfl
    have hgl := getD_le hc (ts + j)
    have hdl : (ts + j) / ts ≤ 1000 := Nat.le_trans (Nat.div_le_self _ _) (by omega)
    have hfd : ((ts + j : Nat) : Int).fdiv ts = (((ts + j) / ts : Nat) : Int) := by
      rw [Int.fdiv_eq_ediv_of_nonneg _ (by omega)]; rfl
    refine st_loc (.tail (.tail (.tail (.tail (.tail .head))))) hb ?_
    refine x_cons ?_
    refine x_asgL ?_
    refine ev_bin ?_
    refine ev_loc (mget 4 rfl) ?_
    refine ev_bin ?_
    refine ev_bin ?_
    refine ev_loc (mget 5 rfl) ?_
    refine ev_loc (mget 1 rfl) ?_
    refine op_fdiv_ii (by omega) (PyProof.noPylong_small (by omega)) ?_
    have hfl : ((ts + j : Nat) : Int).fdiv ts ≤ 1000 ∧ 0 ≤ ((ts + j : Nat) : Int).fdiv ts := ⟨by rw [hfd]; exact Int.ofNat_le.mpr hdl, by rw [hfd]; exact Int.natCast_nonneg _⟩
    refine ev_sub ?_
    refine ev_loc (mget 2 rfl) ?_
    refine ev_loc (mget 5 rfl) ?_
    refine sub_tuple (a := .int (st.count.getD (ts + j) 0 : Nat)) (.tail _ htc) (by omega) (by omega) (by rw [List.getElem?_map, Int.toNat_natCast, hg, hge]; rfl) ?_
    refine op_mul_ii (IntMulOk.of_left (intBits_le_64 (by omega) (by omega))) ?_
    refine op_add_ii ?_
    refine ⟨_, .tail (.tail (.tail (.tail .head))), ?_⟩
    refine x_nil ⟨some (.int (ts + j : Nat)), ?_, rfl⟩
    rw [hfd, lvSum_succ]
    simp only [Int.natCast_add, Int.natCast_mul]
  · rintro _ _ ⟨z, rfl, rfl⟩
    have hb3 := (wsRun_ok [] 0 (Nat.le_refl _)).1
    have hlv := lvSum_le ts hc hz ht1 (st.count.length - ts) (Nat.le_refl _)
    have hlv2 : (st.count.length - ts) * 1000000 ≤ 1000 * 1000000 := Nat.mul_le_mul_right _ (by omega)
    rw [List.length_map, List.length_range]
    refine x_nil ?_
    refine x_cons ?_
    refine x_ret ?_
    refine ev_bin ?_
    refine ev_loc (mget 3 rfl) ?_
    refine ev_bin ?_
    refine ev_loc (mget 1 rfl) ?_
    refine ev_bin ?_
    refine ev_loc (mget 4 rfl) ?_
    refine ev_attr ?_
    refine ev_loc (.head _) ?_
    refine ga_own (.inst (.tail _ hx)) (.tail _ hdi) (by kernel_rfl) rfl rfl ?_
    refine op_add_ii ?_
    refine op_mul_ii (IntMulOk.of_left (intBits_le_64 (by omega) (by omega))) ?_
    refine op_add_ii ?_
    refine ⟨_, .cons _ (.refl _), ?_⟩
    unfold level at h
    push_cast at h
    exact h
end
end Mine
end
section -- G7
open PySem PySem.W PySem.Calls PyProof.Rows PySem.SeqAt
set_option Elab.async false
set_option maxRecDepth 100000
set_option linter.unusedVariables false
namespace Mine
noncomputable abbrev nats (l : List Nat) : List AV := l.map fun (k : Nat) => AV.int k
theorem nats_eq (l : List Nat) : nats l = (l.map Int.ofNat).map AV.int := by rw [List.map_map]; rfl
theorem ADats.nats {σ : Ledger} (l : List Nat) : ADats σ (nats l) ((l.map Int.ofNat).map PyData.int) := by
  rw [nats_eq]; exact ADats.ints _
mutual
theorem ADat.mono {σ σ' : Ledger} (hs : ∀ p ∈ σ, p ∈ σ') {a : AV} {d : PyData} (h : ADat σ a d) : ADat σ' a d := by
  cases h with
  | none => exact .none
  | bool b => exact .bool b
  | int i => exact .int i
  | str x => exact .str x
  | list hm hx => exact .list (hs _ hm) (ADats.mono hs hx)
  | tuple hm hx => exact .tuple (hs _ hm) (ADats.mono hs hx)
theorem ADats.mono {σ σ' : Ledger} (hs : ∀ p ∈ σ, p ∈ σ') {xs : List AV} {ds : List PyData} (h : ADats σ xs ds) : ADats σ' xs ds := by
  cases h with
  | nil => exact .nil
  | cons h1 h2 => exact .cons (ADat.mono hs h1) (ADats.mono hs h2)
end
theorem ADats.app {σ : Ledger} : ∀ {xs ys : List AV} {ds es : List PyData}, ADats σ xs ds → ADats σ ys es → ADats σ (xs ++ ys) (ds ++ es)
  | [], _, _, _, .nil, h2 => h2
  | _ :: _, _, _, _, .cons h h1, h2 => .cons h (ADats.app h1 h2)
noncomputable def normD (st : WsSt) : PyData := .tuple [.tuple ((st.count.map Int.ofNat).map PyData.int), .int st.b]
theorem normD_shaped (st : WsSt) : shaped (normD st) = true := by
  have h1 := W.depthAll_ints (st.count.map Int.ofNat)
  have h2 := canLayAll0_ints (st.count.map Int.ofNat)
  have h3 : PyData.depth (normD st) ≤ 64 := by
    unfold normD
    simp only [PyData.depth, PyData.depthAll]; omega
  show (PyData.canLay0 (normD st) && decide (PyData.depth (normD st) ≤ 64)) = true
  rw [Bool.and_eq_true]
  refine ⟨?_, decide_eq_true h3⟩
  unfold normD
  simp only [PyData.canLay0, PyData.canLayAll0, h2]; rfl
theorem normD_mix (s t : WsSt) : noMix (normD s) (normD t) = true := by
  have := noMix_ints (s.count.map Int.ofNat) (t.count.map Int.ofNat)
  unfold normD
  simp only [noMix, noMixAll, this]; rfl
theorem normD_same (s t : WsSt) : PySem.Spec.same (normD s) (normD t) = decide (s.count = t.count ∧ s.b = t.b) := by
  have := same_ints (s.count.map Int.ofNat) (t.count.map Int.ofNat)
  unfold normD
  simp only [PySem.Spec.same, PySem.Spec.sameAll, this]
  have e : (s.count.map Int.ofNat = t.count.map Int.ofNat) ↔ s.count = t.count := by
    refine ⟨fun h => ?_, fun h => by rw [h]⟩
    have := congrArg (List.map Int.toNat) h
    simpa [List.map_map, Function.comp_def] using this
  by_cases h1 : s.count = t.count <;> by_cases h2 : s.b = t.b <;> simp [h1, h2, e] <;> omega
theorem WsAt.mono {σ σ' : Ledger} {x : Addr} {st : WsSt} (hs : ∀ p ∈ σ, p ∈ σ') (h : WsAt σ x st) : WsAt σ' x st := by
  obtain ⟨d, ws, t, tc, h1, h2, h3, h4⟩ := h
  exact ⟨d, ws, t, tc, hs _ h1, hs _ h2, hs _ h3, hs _ h4⟩
section
variable {w : World} {sc : Scope} {C : Ctxt w (K1 w) sc} {ρ : Frame} {σ : Ledger}
theorem eqw {x y : Addr} {s t : WsSt} {Φ : AV → Frame → Ledger → Prop} (hd : 3 ≤ C.d) (hx : WsAt σ x s) (hy : WsAt σ y t) (h : Φ (.bool (decide (s.count = t.count ∧ s.b = t.b))) ρ σ) : WV P1 C ρ σ (call (.ref 228) [.ref x, .ref y]) Φ := by
  obtain ⟨d, ws, tt, tc, hx1, hx2, hx3, hx4⟩ := hx
  obtain ⟨d', ws', tt', tc', hy1, hy2, hy3, hy4⟩ := hy
  refine call_fn (args := [.ref x, .ref y]) (names := [Str.ofString "self", Str.ofString "other"]) (others := []) rfl (by omega) (fun h _ => ⟨_, BindsTo.of_eq rfl, .cons rfl (.cons rfl .nil)⟩) (by kernel_rfl) (by decide +kernel) (by decide +kernel) (by decide +kernel) rfl rfl rfl ?_
  intro C' hd' hcl
  refine x_cons ?_
  refine x_ret ?_
  refine ev_cmp ?_
  refine ev_attr ?_
  refine ev_loc (.head _) ?_
  refine ga_own (.inst hx1) hx2 (by kernel_rfl) rfl rfl ?_
  refine ev_attr ?_
  refine ev_loc (mget 1 rfl) ?_
  refine ga_own (.inst hy1) hy2 (by kernel_rfl) rfl rfl ?_
  exact cmp_eq_data (by omega) (.tuple hx3 (.cons (.tuple hx4 (ADats.nats _)) (.cons (.int _) .nil))) (.tuple hy3 (.cons (.tuple hy4 (ADats.nats _)) (.cons (.int _) .nil))) (normD_shaped s) (normD_shaped t) (normD_mix s t) (normD_same s t) h
noncomputable def triD (p : Nat × Nat × Nat) : PyData := .tuple [.int p.1, .int p.2.1, .int p.2.2]
noncomputable def witness (s t : WsSt) (k : Nat) : List (Nat × Nat × Nat) := ((List.range k).map (· + 1)).filterMap fun ts => if level t ts ≤ level s ts then some (ts, level s ts, level t ts) else none
theorem witness_succ (s t : WsSt) (k : Nat) : witness s t (k + 1) = witness s t k ++ (if level t (k + 1) ≤ level s (k + 1) then [(k + 1, level s (k + 1), level t (k + 1))] else []) := by
  unfold witness
  rw [List.range_succ, List.map_append, List.filterMap_append]
  congr 1
  by_cases h : level t (k + 1) ≤ level s (k + 1) <;> simp [h]
noncomputable def WsOk (s : WsSt) : Prop := s.count.length ≤ 100 ∧ (∀ k ∈ s.count, k ≤ 1000) ∧ s.nt ≤ 1000 ∧ s.b ≤ 100
noncomputable def topOf (s t : WsSt) : Nat := ((if longest t > longest s then longest t else longest s) + 1).toNat
theorem nlw {x y : Addr} {s t : WsSt} {Φ : AV → Frame → Ledger → Prop} (hd : 3 ≤ C.d) (hx : WsAt σ x s) (hy : WsAt σ y t) (hs : WsOk s) (ht : WsOk t)
    (h : ∀ a xs l, ADats l xs ((witness s t (topOf s t)).map triD) → Φ (.ref a) ρ ((a, .list xs) :: (l ++ σ))) : WV P1 C ρ σ (call (.ref 249) [.ref x, .ref y]) Φ := by
  have hsz := sizeLine_eq
  have hx' := hx
  have hy' := hy
  obtain ⟨d, ws, tt, tc, hx1, hx2, hx3, hx4⟩ := hx
  obtain ⟨d', ws', tt', tc', hy1, hy2, hy3, hy4⟩ := hy
  obtain ⟨hs1, hs2, hs3, hs4⟩ := hs
  obtain ⟨ht1, ht2, ht3, ht4⟩ := ht
  refine W.sub ?_
  refine call_fn (args := [.ref x, .ref y]) (names := [Str.ofString "self", Str.ofString "other"]) (others := [Str.ofString "n", Str.ofString "a", Str.ofString "ts"]) rfl (by omega) (fun h _ => ⟨_, BindsTo.of_eq rfl, .cons rfl (.cons rfl .nil)⟩) (by kernel_rfl) (by decide +kernel) (by decide +kernel) (by decide +kernel) rfl rfl rfl ?_
  intro C' hd' hcl
  refine x_cons ?_
  refine x_asgL ?_
  refine ev_bin ?_
  refine ev_callB rfl (by boot_fast) (by decide) ?_
  refine sp_cons ?_
  refine ev_meth ?_
  refine ev_loc (.head _) ?_
  refine tm_own (f := 214) (.inst hx1) hx2 (by kernel_rfl) rfl ?_
  refine cw_K0 (by kernel_rfl) ?_
  refine lr (by omega) hx' (by omega) ?_
  refine sp_cons ?_
  refine ev_meth ?_
  refine ev_loc (mget 1 rfl) ?_
  refine tm_own (f := 214) (.inst hy1) hy2 (by kernel_rfl) rfl ?_
  refine cw_K0 (by kernel_rfl) ?_
  refine lr (by omega) hy' (by omega) ?_
  refine sp_nil ?_
  refine call_max2 ?_
  refine ev_int ?_
  refine op_add_ii ?_
  refine ⟨_, .tail (.tail .head), ?_⟩
  generalize hN : (if longest t > longest s then longest t else longest s) + 1 = N
  have hNt : N.toNat = topOf s t := by rw [← hN]; rfl
  have hl1 : -1 ≤ longest s ∧ longest s ≤ 100 := by unfold longest; split <;> omega
  have hl2 : -1 ≤ longest t ∧ longest t ≤ 100 := by unfold longest; split <;> omega
  have hNb : 0 ≤ N ∧ N ≤ 101 := by rw [← hN]; split <;> omega
  refine x_cons ?_
  refine x_asgL ?_
  refine ev_list ?_
  refine sp_nil ?_
  refine new_list (by decide +kernel) (fun a => ⟨_, .tail (.tail (.tail .head)), ?_⟩)
  refine x_cons ?_
  refine x_for ?_
  refine ev_callT rfl (by boot_fast) (by decide) ?_
  refine sp_cons ?_
  refine ev_int ?_
  refine sp_cons ?_
  refine ev_bin ?_
  refine ev_loc (mget 2 rfl) ?_
  refine ev_int ?_
  refine op_add_ii ?_
  refine sp_nil ?_
  refine mk_range2 (fun r => ?_)
  refine forH ((src_rangeM (n := topOf s t) (by omega) (by omega) (by omega)).spec C') (.head _) (fun j ρ' σ' => ∃ xs l z, ρ' = [(Str.ofString "self", some (.ref x)), (Str.ofString "other", some (.ref y)), (Str.ofString "n", some (.int N)), (Str.ofString "a", some (.ref a)), (Str.ofString "ts", z)] ∧ σ' = (r, .range 1 (N + 1) 1) :: (a, .list xs) :: (l ++ σ) ∧ ADats l xs ((witness s t j).map triD) ∧ xs.length ≤ j) (⟨[], [], _, rfl, rfl, .nil, Nat.le_refl _⟩) ?_ ?_ ?_
  · rintro j _ _ ⟨_, _, _, rfl, rfl, _⟩; exact .head _
  · rintro j b _ _ ⟨xs, l, z, rfl, rfl, hA, hxl⟩ hx'' vb hb
    rw [List.getElem?_map, Option.map_eq_some_iff] at hx''
    obtain ⟨j', hj', rfl⟩ := hx''
    obtain ⟨hjl, hje⟩ := List.getElem?_eq_some_iff.mp hj'
    rw [List.length_range] at hjl
    rw [List.getElem_range] at hje
    subst hje
    have hj2 : j + 1 ≤ 101 := by omega
    replace hb : (AV.int ((j + 1 : Nat) : Int)).is vb := by
      have e : (1 : Int) + (j : Int) = ((j + 1 : Nat) : Int) := by omega
      rw [← e]; exact hb
    have sub : ∀ p ∈ σ, p ∈ (r, AObj.range 1 (N + 1) 1) :: (a, AObj.list xs) :: (l ++ σ) := fun p hp => .tail _ (.tail _ (List.mem_append_right _ hp))
    refine st_loc (.tail (.tail (.tail (.tail .head)))) hb ?_
    refine x_cons ?_
    refine x_if ?_
    refine tst_cmp ?_
    refine ev_meth ?_
    refine ev_loc (.head _) ?_
    refine tm_own (f := 221) (.inst (sub _ hx1)) (sub _ hx2) (by kernel_rfl) rfl ?_
    refine cw_K (by kernel_rfl) ?_
    refine sp_cons ?_
    refine ev_loc (mget 4 rfl) ?_
    refine sp_nil ?_
    refine th_i fun t1 => ?_
    refine il (by omega) (hx'.mono sub) (by omega) (by omega) (by omega) hs2 hs3 ?_
    refine ev_meth ?_
    refine ev_loc (mget 1 rfl) ?_
    refine tm_own (f := 221) (.inst (sub _ hy1)) (sub _ hy2) (by kernel_rfl) rfl ?_
    refine cw_K (by kernel_rfl) ?_
    refine sp_cons ?_
    refine ev_loc (mget 4 rfl) ?_
    refine sp_nil ?_
    refine th_i fun t2 => ?_
    refine il (by omega) (hy'.mono sub) (by omega) (by omega) (by omega) ht2 ht3 ?_
    refine cmp_ge_ii ?_
    refine ⟨fun hb => ?_, fun hb => ?_⟩
    · have hne : level t (j + 1) ≤ level s (j + 1) := by have := of_decide_eq_true hb; omega
      refine W.subp ?_
      refine x_cons ?_
      refine x_expr ?_
      refine ev_meth ?_
      refine ev_loc (mget 3 rfl) ?_
      refine tm_append (mget 1 rfl) ?_
      refine cw_b ?_
      refine sp_cons ?_
      refine ev_tuple ?_
      refine sp_cons ?_
      refine ev_loc (mget 4 rfl) ?_
      refine sp_cons ?_
      refine ev_meth ?_
      refine ev_loc (.head _) ?_
      refine tm_own (f := 221) (.inst (sub _ hx1)) (sub _ hx2) (by kernel_rfl) rfl ?_
      refine cw_K (by kernel_rfl) ?_
      refine sp_cons ?_
      refine ev_loc (mget 4 rfl) ?_
      refine sp_nil ?_
      refine th_i fun t3 => ?_
      refine il (by omega) (hx'.mono sub) (by omega) (by omega) (by omega) hs2 hs3 ?_
      refine sp_cons ?_
      refine ev_meth ?_
      refine ev_loc (mget 1 rfl) ?_
      refine tm_own (f := 221) (.inst (sub _ hy1)) (sub _ hy2) (by kernel_rfl) rfl ?_
      refine cw_K (by kernel_rfl) ?_
      refine sp_cons ?_
      refine ev_loc (mget 4 rfl) ?_
      refine sp_nil ?_
      refine th_i fun t4 => ?_
      refine il (by omega) (hy'.mono sub) (by omega) (by omega) (by omega) ht2 ht3 ?_
      refine sp_nil ?_
      refine new_tuple (by show 3 ≤ _; omega) (fun tu => ?_)
      refine sp_nil ?_
      refine call_append (.tail (.tail .head)) (by omega) ?_
      refine x_nil ?_
      refine ⟨_, (r, .range 1 (N + 1) 1) :: (a, .list (xs ++ [AV.ref tu])) :: (((tu, .tuple [AV.int ((j + 1 : Nat) : Int), AV.int (level s (j + 1)), AV.int (level t (j + 1))]) :: l) ++ σ), .refl _, ?_, ?_⟩
      · refine (List.Perm.swap _ _ _).trans (.cons _ ?_)
        exact List.Perm.swap _ _ _
      refine x_nil ⟨_, _, _, rfl, rfl, ?_, by rw [List.length_append]; exact Nat.succ_le_succ hxl⟩
      rw [witness_succ, if_pos hne, List.map_append]
      exact ADats.app (hA.mono fun p hp => .tail _ hp) (.cons (.tuple (.head _) (.cons (.int _) (.cons (.int _) (.cons (.int _) .nil)))) .nil)
    · have heq : ¬ level t (j + 1) ≤ level s (j + 1) := by have := of_decide_eq_false hb; omega
      refine x_nil ?_
      refine x_nil ?_
      refine ⟨xs, l, _, rfl, rfl, ?_, by omega⟩
      rw [witness_succ, if_neg heq, List.append_nil]
      exact hA
  · rintro _ _ ⟨xs, l, z, rfl, rfl, hA, hxl⟩
    rw [List.length_map, List.length_range] at hA
    refine x_nil ?_
    refine x_cons ?_
    refine x_ret ?_
    refine ev_loc (mget 3 rfl) ?_
    exact ⟨_, .cons _ (.refl _), h a xs l hA⟩
end
end Mine
end
section -- G17
open PySem PySem.W PySem.Calls PyProof.Rows PySem.SeqAt
set_option Elab.async false
set_option maxRecDepth 100000
set_option linter.unusedVariables false
namespace Mine
noncomputable def lessAll (s t : WsSt) (k : Nat) : Bool := (List.range k).all fun j => decide (level s (2 + j) < level t (2 + j))
noncomputable def lessW (s t : WsSt) : Bool := if s.n ≥ t.n then false else if s.count.length ≤ 1 ∧ t.count.length ≤ 1 then decide (s.nt ≤ t.nt) else lessAll s t (topOf s t - 1)
theorem lessAll_succ (s t : WsSt) (k : Nat) : lessAll s t (k + 1) = (lessAll s t k && decide (level s (2 + k) < level t (2 + k))) := by
  unfold lessAll
  rw [List.range_succ, List.all_append]; simp
theorem lessAll_false {s t : WsSt} {j k : Nat} (hj : j < k) (h : ¬ level s (2 + j) < level t (2 + j)) : lessAll s t k = false := by
  unfold lessAll
  rw [List.all_eq_false]
  exact ⟨j, List.mem_range.mpr hj, by simpa using h⟩
section
variable {w : World} {sc : Scope} {C : Ctxt w (K1 w) sc} {ρ : Frame} {σ : Ledger}
theorem lsw {x y : Addr} {s t : WsSt} {Φ : AV → Frame → Ledger → Prop} (hd : 3 ≤ C.d) (hx : WsAt σ x s) (hy : WsAt σ y t) (hs : WsOk s) (ht : WsOk t)
    (h : Φ (.bool (lessW s t)) ρ σ) : WV P1 C ρ σ (call (.ref 242) [.ref x, .ref y]) Φ := by
  have hsz := sizeLine_eq
  have hx' := hx
  have hy' := hy
  obtain ⟨d, ws, tt, tc, hx1, hx2, hx3, hx4⟩ := hx
  obtain ⟨d', ws', tt', tc', hy1, hy2, hy3, hy4⟩ := hy
  obtain ⟨hs1, hs2, hs3, hs4⟩ := hs
  obtain ⟨ht1, ht2, ht3, ht4⟩ := ht
  refine W.sub ?_
  refine call_fn (args := [.ref x, .ref y]) (names := [Str.ofString "self", Str.ofString "other"]) (others := [Str.ofString "n", Str.ofString "ts"]) rfl (by omega) (fun h _ => ⟨_, BindsTo.of_eq rfl, .cons rfl (.cons rfl .nil)⟩) (by kernel_rfl) (by decide +kernel) (by decide +kernel) (by decide +kernel) rfl rfl rfl ?_
  intro C' hd' hcl
  refine x_cons ?_
  refine x_if ?_
  refine tst_cmp ?_
  refine ev_attr ?_
  refine ev_loc (.head _) ?_
  refine ga_own (.inst hx1) hx2 (by kernel_rfl) rfl rfl ?_
  refine ev_attr ?_
  refine ev_loc (mget 1 rfl) ?_
  refine ga_own (.inst hy1) hy2 (by kernel_rfl) rfl rfl ?_
  refine cmp_ge_ii ?_
  refine ⟨fun hb => ?_, fun hb => ?_⟩
  · refine x_cons ?_
    refine x_ret ?_
    refine ev_bool ?_
    have hge : s.n ≥ t.n := by have := of_decide_eq_true hb; omega
    refine ⟨_, .refl _, ?_⟩
    have e : lessW s t = false := by unfold lessW; rw [if_pos hge]
    rw [e] at h
    exact h
  have hlt : ¬ s.n ≥ t.n := by have := of_decide_eq_false hb; omega
  refine x_nil ?_
  refine x_cons ?_
  refine x_if ?_
  refine W.mono (Φ := fun b ρ' σ' => b = decide (s.count.length ≤ 1 ∧ t.count.length ≤ 1) ∧ ρ' = [(Str.ofString "self", some (.ref x)), (Str.ofString "other", some (.ref y)), (Str.ofString "n", none), (Str.ofString "ts", none)] ∧ σ = σ') ?_ ?_
  · refine tst_and ?_
    refine tst_plain ?_
    refine ev_attr ?_
    refine ev_loc (.head _) ?_
    refine ga_own (.inst hx1) hx2 (by kernel_rfl) rfl rfl ?_
    refine tr_bool ?_
    refine ⟨fun h1 => ?_, fun h1 => ?_⟩
    · refine tst_plain ?_
      refine ev_attr ?_
      refine ev_loc (mget 1 rfl) ?_
      refine ga_own (.inst hy1) hy2 (by kernel_rfl) rfl rfl ?_
      refine tr_bool ?_
      exact ⟨by simp [of_decide_eq_true h1], rfl, rfl⟩
    · exact ⟨by simp [of_decide_eq_false h1], rfl, rfl⟩
  rintro b _ _ ⟨rfl, rfl, rfl⟩
  refine ⟨fun hb => ?_, fun hb => ?_⟩
  · have hb := of_decide_eq_true hb
    refine x_cons ?_
    refine x_ret ?_
    refine ev_cmp ?_
    refine ev_attr ?_
    refine ev_loc (.head _) ?_
    refine ga_own (.inst hx1) hx2 (by kernel_rfl) rfl rfl ?_
    refine ev_attr ?_
    refine ev_loc (mget 1 rfl) ?_
    refine ga_own (.inst hy1) hy2 (by kernel_rfl) rfl rfl ?_
    refine cmp_le_ii ?_
    refine ⟨_, .refl _, ?_⟩
    have e : lessW s t = decide ((s.nt : Int) ≤ (t.nt : Int)) := by
      unfold lessW; rw [if_neg hlt, if_pos hb]
      simp
    rw [e] at h
    exact h
  have hb := of_decide_eq_false hb
  have eL : lessW s t = lessAll s t (topOf s t - 1) := by unfold lessW; rw [if_neg hlt, if_neg hb]
  rw [eL] at h
  refine x_nil ?_
  refine x_cons ?_
  refine x_asgL ?_
  refine ev_bin ?_
  refine ev_callB rfl (by boot_fast) (by decide) ?_
  refine sp_cons ?_
  refine ev_meth ?_
  refine ev_loc (.head _) ?_
  refine tm_own (f := 214) (.inst hx1) hx2 (by kernel_rfl) rfl ?_
  refine cw_K0 (by kernel_rfl) ?_
  refine lr (by omega) hx' (by omega) ?_
  refine sp_cons ?_
  refine ev_meth ?_
  refine ev_loc (mget 1 rfl) ?_
  refine tm_own (f := 214) (.inst hy1) hy2 (by kernel_rfl) rfl ?_
  refine cw_K0 (by kernel_rfl) ?_
  refine lr (by omega) hy' (by omega) ?_
  refine sp_nil ?_
  refine call_max2 ?_
  refine ev_int ?_
  refine op_add_ii ?_
  refine ⟨_, .tail (.tail .head), ?_⟩
  generalize hN : (if longest t > longest s then longest t else longest s) + 1 = N
  have hNt : N.toNat = topOf s t := by rw [← hN]; rfl
  have hl1 : -1 ≤ longest s ∧ longest s ≤ 100 := by unfold longest; split <;> omega
  have hl2 : -1 ≤ longest t ∧ longest t ≤ 100 := by unfold longest; split <;> omega
  have hNb : 0 ≤ N ∧ N ≤ 101 := by rw [← hN]; split <;> omega
  refine x_cons ?_
  refine x_for ?_
  refine ev_callT rfl (by boot_fast) (by decide) ?_
  refine sp_cons ?_
  refine ev_int ?_
  refine sp_cons ?_
  refine ev_bin ?_
  refine ev_loc (mget 2 rfl) ?_
  refine ev_int ?_
  refine op_add_ii ?_
  refine sp_nil ?_
  refine mk_range2 (fun r => ?_)
  refine forH ((src_rangeM (n := topOf s t - 1) (by omega) (by omega) (by omega)).spec C') (.head _) (fun j ρ' σ' => ∃ z, ρ' = [(Str.ofString "self", some (.ref x)), (Str.ofString "other", some (.ref y)), (Str.ofString "n", some (.int N)), (Str.ofString "ts", z)] ∧ σ' = (r, .range 2 (N + 1) 1) :: σ ∧ lessAll s t j = true) (⟨_, rfl, rfl, rfl⟩) ?_ ?_ ?_
  · rintro j _ _ ⟨_, rfl, rfl, _⟩; exact .head _
  · rintro j b _ _ ⟨z, rfl, rfl, hA⟩ hx'' vb hb
    rw [List.getElem?_map, Option.map_eq_some_iff] at hx''
    obtain ⟨j', hj', rfl⟩ := hx''
    obtain ⟨hjl, hje⟩ := List.getElem?_eq_some_iff.mp hj'
    rw [List.length_range] at hjl
    rw [List.getElem_range] at hje
    subst hje
    replace hb : (AV.int ((2 + j : Nat) : Int)).is vb := by
      have e : (2 : Int) + (j : Int) = ((2 + j : Nat) : Int) := by omega
      rw [← e]; exact hb
    have sub : ∀ p ∈ σ, p ∈ (r, AObj.range 2 (N + 1) 1) :: σ := fun p hp => .tail _ hp
    refine st_loc (.tail (.tail (.tail (.head)))) hb ?_
    refine x_cons ?_
    refine x_if ?_
    refine tst_cmp ?_
    refine ev_meth ?_
    refine ev_loc (.head _) ?_
    refine tm_own (f := 221) (.inst (sub _ hx1)) (sub _ hx2) (by kernel_rfl) rfl ?_
    refine cw_K (by kernel_rfl) ?_
    refine sp_cons ?_
    refine ev_loc (mget 3 rfl) ?_
    refine sp_nil ?_
    refine th_i fun t1 => ?_
    refine il (by omega) (hx'.mono sub) (by omega) (by omega) (by omega) hs2 hs3 ?_
    refine ev_meth ?_
    refine ev_loc (mget 1 rfl) ?_
    refine tm_own (f := 221) (.inst (sub _ hy1)) (sub _ hy2) (by kernel_rfl) rfl ?_
    refine cw_K (by kernel_rfl) ?_
    refine sp_cons ?_
    refine ev_loc (mget 3 rfl) ?_
    refine sp_nil ?_
    refine th_i fun t2 => ?_
    refine il (by omega) (hy'.mono sub) (by omega) (by omega) (by omega) ht2 ht3 ?_
    refine cmp_ge_ii ?_
    refine ⟨fun hb => ?_, fun hb => ?_⟩
    · have hge : ¬ level s (2 + j) < level t (2 + j) := by have := of_decide_eq_true hb; omega
      refine x_cons ?_
      refine x_ret ?_
      refine ev_bool ?_
      rw [lessAll_false hjl hge] at h
      exact ⟨_, .cons _ (.refl _), h⟩
    · have hlt : level s (2 + j) < level t (2 + j) := by have := of_decide_eq_false hb; omega
      refine x_nil ?_
      refine x_nil ?_
      exact ⟨_, rfl, rfl, by rw [lessAll_succ, hA, decide_eq_true hlt]; rfl⟩
  · rintro _ _ ⟨z, rfl, rfl, hA⟩
    rw [List.length_map, List.length_range] at hA
    refine x_nil ?_
    refine x_cons ?_
    refine x_ret ?_
    refine ev_bool ?_
    rw [hA] at h
    exact ⟨_, .cons _ (.refl _), h⟩
end
end Mine
end
section -- N2
open PySem PySem.W PySem.Calls PyProof.Rows PySem.SeqAt
set_option Elab.async false
set_option maxRecDepth 100000
set_option linter.unusedVariables false
namespace Mine
noncomputable def tabSt (st : WsSt) (h : Nat) : WsSt := ⟨(wsGrow st.count h).set h ((wsGrow st.count h).getD h 0 + 1), 0, st.n + h + 1, st.nt + 1⟩
noncomputable def tabRun (hs : List Nat) : WsSt := hs.foldl tabSt ⟨[], 0, 0, 0⟩
/-! the texts of the hooks -/
noncomputable def tabS (h : Nat) : Str := rep 32 h ++ Str.ofString "\t"
theorem tabS_list (h : Nat) : (tabS h).cps.toList = List.replicate h 32 ++ [9] := by
  unfold tabS
  rw [Str.cps_append, Array.toList_append]
  unfold rep
  simp
  rfl
theorem tabS_len (h : Nat) : (tabS h).length = h + 1 := by
  have e : (tabS h).cps.toList.length = (tabS h).length := by simp [Str.length]
  rw [← e, tabS_list]; simp
noncomputable def tabsS (hs : List Nat) : Str := Txt.join ⟨#[]⟩ (hs.map tabS)
theorem tabsS_list (hs : List Nat) : (tabsS hs).cps.toList = hs.flatMap fun h => List.replicate h 32 ++ [9] := by
  unfold tabsS
  rw [join0, List.map_map, List.flatMap_def]
  congr 1
  exact List.map_congr_left fun h _ => tabS_list h
theorem tabsS_sign (hs : List Nat) : ∀ c ∈ (tabsS hs).cps.toList, c = 32 ∨ c = 9 := by
  rw [tabsS_list]
  intro c hc
  obtain ⟨h, -, h2⟩ := List.mem_flatMap.mp hc
  rcases List.mem_append.mp h2 with h3 | h3
  · exact .inl (List.mem_replicate.mp h3).2
  · exact .inr (List.mem_singleton.mp h3)
theorem tabsS_len (hs : List Nat) : (tabsS hs).length = (hs.map (· + 1)).sum := by
  have e : (tabsS hs).cps.toList.length = (tabsS hs).length := by simp [Str.length]
  rw [← e, tabsS_list, List.length_flatMap]
  congr 1
  refine List.map_congr_left fun h _ => ?_
  simp
theorem blanks_run : ∀ (h : Nat) (st : WsSt), (List.replicate h 32).foldl wsStep st = ⟨st.count, st.b + h, st.n + h, st.nt⟩
  | 0, st => rfl
  | h + 1, st => by
    rw [List.replicate_succ, List.foldl_cons, blanks_run h]
    unfold wsStep
    rw [if_pos rfl]
    simp only [WsSt.mk.injEq]
    exact ⟨trivial, by omega, by omega, trivial⟩
theorem tab_run (h : Nat) {st : WsSt} (hb : st.b = 0) : (List.replicate h 32 ++ [9]).foldl wsStep st = tabSt st h := by
  rw [List.foldl_append, blanks_run, List.foldl_cons, List.foldl_nil]
  unfold wsStep tabSt
  rw [if_neg (by decide)]
  simp only [hb, Nat.zero_add]
theorem tabs_run : ∀ (hs : List Nat) (st : WsSt), st.b = 0 → (hs.flatMap fun h => List.replicate h 32 ++ [9]).foldl wsStep st = hs.foldl tabSt st
  | [], _, _ => rfl
  | h :: r, st, hb => by
    rw [List.flatMap_cons, List.foldl_append, tab_run h hb, List.foldl_cons]
    exact tabs_run r _ rfl
theorem ws_run (hs : List Nat) : wsRun (tabsS hs).cps.toList = tabRun hs := by
  rw [tabsS_list]; exact tabs_run hs _ rfl
theorem tabsS_snoc (hs : List Nat) (h : Nat) : tabsS (hs ++ [h]) = tabsS hs ++ (rep 32 h ++ Str.ofString "\t") := by
  refine strExt ?_
  rw [Str.cps_append, Array.toList_append, tabsS_list, tabsS_list, List.flatMap_append]
  congr 1
  rw [List.flatMap_cons, List.flatMap_nil, List.append_nil]
  exact (tabS_list h).symm
/-! the climb -/
noncomputable def clStep (n h : Nat) (st : List Nat × List Nat) (c : Nat) : List Nat × List Nat :=
  if st.1.getD c 0 < 7 ∧ st.1.getD c 0 + 1 ∉ st.1 then (st.1.set c (st.1.getD c 0 + 1), st.2 ++ [(st.1.getD c 0 + h) % n]) else st
noncomputable def clRun (n h : Nat) (calls : List Nat) : List Nat × List Nat := calls.foldl (clStep n h) ([0, 1, 2], [])
/-- how many of the three stand in a column -/
noncomputable def cntS (n h : Nat) (stand : List Nat) (k : Nat) : Nat := (stand.map fun p => if (p + h) % n = k then 1 else 0).sum
structure ClOk (n h : Nat) (st : List Nat × List Nat) : Prop where
  tri : ∃ a b c, st.1 = [a, b, c] ∧ a < b ∧ b < c ∧ c ≤ 7 ∧ a + b + c = 3 + st.2.length
  lt : ∀ e ∈ st.2, e < n
  bal : ∀ k, k < n → cntS n h st.1 k + st.2.count k = cntS n h [0, 1, 2] k + st.2.count ((k + n - 1) % n)
theorem col_succ {n h k p : Nat} (hn : 2 ≤ n ∧ n ≤ 5) (hk : k < n) : (p + 1 + h) % n = k ↔ (p + h) % n = (k + n - 1) % n := by
  obtain ⟨h1, h2⟩ := hn
  match n, h1, h2 with
  | 2, _, _ => omega
  | 3, _, _ => omega
  | 4, _, _ => omega
  | 5, _, _ => omega
theorem clStep_ok {n h c : Nat} {st : List Nat × List Nat} (hn : 2 ≤ n ∧ n ≤ 5) (hc : c < 3) (H : ClOk n h st) : ClOk n h (clStep n h st c) := by
  unfold clStep
  split
  · rename_i hg
    obtain ⟨⟨a, b, d, e1, hab, hbd, hd7, hs⟩, hlt, hbal⟩ := H
    obtain ⟨stand, em⟩ := st
    dsimp only at e1 hg hs hlt hbal ⊢
    subst e1
    obtain ⟨hg1, hg2⟩ := hg
    have key : ∀ p k, k < n → (if (p + 1 + h) % n = k then 1 else 0) = (if (p + h) % n = (k + n - 1) % n then 1 else 0) := fun p k hk => by
      by_cases q : (p + 1 + h) % n = k
      · rw [if_pos q, if_pos ((col_succ hn hk).mp q)]
      · rw [if_neg q, if_neg fun z => q ((col_succ hn hk).mpr z)]
    have cnt : ∀ (x k : Nat), (em ++ [x]).count k = em.count k + if x = k then 1 else 0 := fun x k => by
      rw [List.count_append, List.count_singleton]
      simp
    have lt' : ∀ x, x < n → ∀ e ∈ em ++ [x], e < n := fun x hx e he => by
      rcases List.mem_append.mp he with he | he
      · exact hlt e he
      · rw [List.mem_singleton.mp he]; exact hx
    have hn0 : 0 < n := by omega
    match c, hc with
    | 0, _ =>
      refine ⟨⟨a + 1, b, d, rfl, ?_, hbd, hd7, ?_⟩, lt' _ (Nat.mod_lt _ hn0), fun k hk => ?_⟩
      · simp at hg2; omega
      · rw [List.length_append, List.length_singleton]; omega
      · have h1 := hbal k hk
        have h2 := key a k hk
        have h3 := cnt ((a + h) % n) k
        have h4 := cnt ((a + h) % n) ((k + n - 1) % n)
        simp only [List.getD_cons_zero, List.set_cons_zero, cntS, List.map_cons, List.map_nil, List.sum_cons, List.sum_nil, h2, h3, h4] at h1 ⊢
        omega
    | 1, _ =>
      refine ⟨⟨a, b + 1, d, rfl, by omega, ?_, hd7, ?_⟩, lt' _ (Nat.mod_lt _ hn0), fun k hk => ?_⟩
      · simp at hg2; omega
      · rw [List.length_append, List.length_singleton]; omega
      · have h1 := hbal k hk
        have h2 := key b k hk
        have h3 := cnt ((b + h) % n) k
        have h4 := cnt ((b + h) % n) ((k + n - 1) % n)
        simp only [List.getD_cons_zero, List.getD_cons_succ, List.set_cons_zero, List.set_cons_succ, cntS, List.map_cons, List.map_nil, List.sum_cons, List.sum_nil, h2, h3, h4] at h1 ⊢
        omega
    | 2, _ =>
      refine ⟨⟨a, b, d + 1, rfl, hab, by omega, ?_, ?_⟩, lt' _ (Nat.mod_lt _ hn0), fun k hk => ?_⟩
      · simp at hg1; omega
      · rw [List.length_append, List.length_singleton]; omega
      · have h1 := hbal k hk
        have h2 := key d k hk
        have h3 := cnt ((d + h) % n) k
        have h4 := cnt ((d + h) % n) ((k + n - 1) % n)
        simp only [List.getD_cons_zero, List.getD_cons_succ, List.set_cons_zero, List.set_cons_succ, cntS, List.map_cons, List.map_nil, List.sum_cons, List.sum_nil, h2, h3, h4] at h1 ⊢
        omega
  · exact H
theorem clRun_ok {n h : Nat} (hn : 2 ≤ n ∧ n ≤ 5) {calls : List Nat} (hc : ∀ c ∈ calls, c < 3) : ClOk n h (clRun n h calls) := by
  unfold clRun
  have key : ∀ (l : List Nat) (st : List Nat × List Nat), (∀ c ∈ l, c < 3) → ClOk n h st → ClOk n h (l.foldl (clStep n h) st) := by
    intro l
    induction l with
    | nil => intro st _ H; exact H
    | cons c r ih => intro st hl H; exact ih _ (fun x hx => hl x (.tail _ hx)) (clStep_ok hn (hl c (.head _)) H)
  exact key calls _ hc ⟨⟨0, 1, 2, rfl, by decide, by decide, by decide, rfl⟩, (fun e he => nomatch he), fun k hk => rfl⟩
theorem clRun_snoc (n h : Nat) (calls : List Nat) (c : Nat) : clRun n h (calls ++ [c]) = clStep n h (clRun n h calls) c := by
  unfold clRun; rw [List.foldl_append]; rfl
end Mine
end
section -- G18
open PySem PySem.W PySem.Calls PyProof.Rows
set_option Elab.async false
set_option maxRecDepth 100000
set_option linter.unusedVariables false
namespace Mine
theorem clRun_len {n h : Nat} (hn : 2 ≤ n ∧ n ≤ 5) {calls : List Nat} (hc : ∀ c ∈ calls, c < 3) : (clRun n h calls).2.length ≤ 15 := by
  obtain ⟨a, b, c, -, h1, h2, h3, h4⟩ := (clRun_ok (h := h) hn hc).tri
  omega
theorem sum_em {n : Nat} : ∀ {l : List Nat}, (∀ e ∈ l, e < n) → (l.map (· + 1)).sum ≤ n * l.length
  | [], _ => by simp
  | a :: r, h => by
    have h1 := sum_em fun e he => h e (.tail _ he)
    have h2 := h a (.head _)
    rw [List.map_cons, List.sum_cons, List.length_cons, Nat.mul_succ]; omega
theorem clRun_text {n h : Nat} (hn : 2 ≤ n ∧ n ≤ 5) {calls : List Nat} (hc : ∀ c ∈ calls, c < 3) : (tabsS (clRun n h calls).2).length ≤ 75 := by
  rw [tabsS_len]
  have h1 := sum_em (clRun_ok (h := h) hn hc).lt
  have h2 := clRun_len (h := h) hn hc
  have h3 : n * (clRun n h calls).2.length ≤ 5 * 15 := Nat.mul_le_mul hn.2 h2
  omega
theorem any_mem (st : List Nat) (k : Nat) : ((st.map Int.ofNat).any fun x => x == (k : Int)) = decide (k ∈ st) := by
  rw [Bool.eq_iff_iff, List.any_eq_true, decide_eq_true_iff]
  constructor
  · rintro ⟨x, hx, e⟩
    obtain ⟨y, hy, rfl⟩ := List.mem_map.mp hx
    have e := beq_iff_eq.mp e
    have : y = k := Int.ofNat.inj e
    rw [← this]; exact hy
  · intro h
    exact ⟨Int.ofNat k, List.mem_map_of_mem h, by simp⟩
section
variable {w : World} {sc : Scope} {C : Ctxt w (K1 w) sc} {ρ : Frame} {σ : Ledger}
theorem cl {l : Addr} {calls : List Nat} {n h : Nat} {tn th : Tok} {Φ : AV → Frame → Ledger → Prop} (hd : 1 ≤ C.d) (hm : (l, .list (nats calls)) ∈ σ) (hn : 2 ≤ n ∧ n ≤ 5) (hh : h ≤ 5) (hc : ∀ c ∈ calls, c < 3) (hl : calls.length ≤ 20)
    (k : ∀ t s, Φ (.ref t) ρ ((t, .tuple [.ref s, .str (tabsS (clRun n h calls).2)]) :: (s, .list (nats (clRun n h calls).1)) :: σ)) : WV P1 C ρ σ (call (.ref 270) [.ref l, .int n tn, .int h th]) Φ := by
  have hsz := sizeLine_eq
  refine W.sub ?_
  refine call_fn (args := [.ref l, .int n, .int h]) (names := [Str.ofString "calls", Str.ofString "size", Str.ofString "head"]) (others := [Str.ofString "stand", Str.ofString "typed", Str.ofString "call", Str.ofString "place"]) rfl hd (fun h _ => ⟨_, BindsTo.of_eq rfl, .cons rfl (.cons ⟨tn, rfl⟩ (.cons ⟨th, rfl⟩ .nil))⟩) (by kernel_rfl) (by decide +kernel) (by decide +kernel) (by decide +kernel) rfl rfl rfl ?_
  intro C' hd' hcl
  refine x_cons ?_
  refine x_asgL ?_
  refine ev_list ?_
  refine sp_cons ?_
  refine ev_int ?_
  refine sp_cons ?_
  refine ev_int ?_
  refine sp_cons ?_
  refine ev_int ?_
  refine sp_nil ?_
  refine new_list (by decide +kernel) (fun s => ⟨_, (.tail (.tail (.tail (.head)))), ?_⟩)
  refine x_cons ?_
  refine x_asgL ?_
  refine ev_str ?_
  refine ⟨_, (.tail (.tail (.tail (.tail (.head))))), ?_⟩
  refine x_cons ?_
  refine x_for ?_
  refine ev_loc (.head _) ?_
  refine forH ((src_list (xs := nats calls)).spec C') (.tail _ hm) (fun j ρ' σ' => ∃ z1 z2, ρ' = [(Str.ofString "calls", some (.ref l)), (Str.ofString "size", some (.int n)), (Str.ofString "head", some (.int h)), (Str.ofString "stand", some (.ref s)), (Str.ofString "typed", some (.str (tabsS (clRun n h (calls.take j)).2))), (Str.ofString "call", z1), (Str.ofString "place", z2)] ∧ σ' = (s, .list (nats (clRun n h (calls.take j)).1)) :: σ) (⟨_, _, rfl, rfl⟩) ?_ ?_ ?_
  · rintro i _ _ ⟨_, _, rfl, rfl⟩; exact .tail _ hm
  · rintro j b _ _ ⟨z1, z2, rfl, rfl⟩ hx vb hb
    rw [List.getElem?_map, Option.map_eq_some_iff] at hx
    obtain ⟨c, hcj, rfl⟩ := hx
    have hc3 := hc c (List.mem_of_getElem? hcj)
    have htake : calls.take (j + 1) = calls.take j ++ [c] := by rw [List.take_add_one, hcj]; rfl
    have hct : ∀ x ∈ calls.take j, x < 3 := fun x hx => hc x (List.mem_of_mem_take hx)
    have hok := clRun_ok (h := h) hn hct
    have htx := clRun_text (h := h) hn hct
    rw [htake, clRun_snoc]
    generalize clRun n h (calls.take j) = st at *
    obtain ⟨stand, em⟩ := st
    obtain ⟨⟨a, b, d, e1, hab, hbd, hd7, hs⟩, hlt, hbal⟩ := hok
    dsimp only at e1 htx hs hlt ⊢
    have hlen : stand.length = 3 := by rw [e1]; rfl
    have hge := List.getElem?_eq_getElem (show c < stand.length by omega)
    have hgd : stand.getD c 0 = stand[c]'(by omega) := by rw [List.getD_eq_getElem?_getD, hge]; rfl
    have hp7 : stand.getD c 0 ≤ 7 := by
      rw [e1]
      match c, hc3 with
      | 0, _ => simp; omega
      | 1, _ => simp; omega
      | 2, _ => simp; omega
    generalize hp : stand.getD c 0 = p at *
    refine st_loc (.tail (.tail (.tail (.tail (.tail (.head)))))) hb ?_
    refine x_cons ?_
    refine x_asgL ?_
    refine ev_sub ?_
    refine ev_loc (.tail _ (.tail _ (.tail _ (.head _)))) ?_
    refine ev_loc (.tail _ (.tail _ (.tail _ (.tail _ (.tail _ (.head _)))))) ?_
    refine sub_list (a := .int (p : Int)) (.head _) (by omega) (by omega) (by rw [List.getElem?_map, Int.toNat_natCast, hge, ← hgd]; rfl) ?_
    refine ⟨_, (.tail (.tail (.tail (.tail (.tail (.tail (.head))))))), ?_⟩
    refine x_cons ?_
    refine x_if ?_
    refine W.mono (Φ := fun b ρ' σ' => b = decide (p < 7 ∧ p + 1 ∉ stand) ∧ [(Str.ofString "calls", some (.ref l)), (Str.ofString "size", some (.int n)), (Str.ofString "head", some (.int h)), (Str.ofString "stand", some (.ref s)), (Str.ofString "typed", some (.str (tabsS em))), (Str.ofString "call", some (.int c)), (Str.ofString "place", some (.int p))] = ρ' ∧ (s, .list (nats stand)) :: σ = σ') ?_ ?_
    · refine tst_and ?_
      refine tst_cmp ?_
      refine ev_loc (.tail _ (.tail _ (.tail _ (.tail _ (.tail _ (.tail _ (.head _))))))) ?_
      refine ev_int ?_
      refine cmp_lt_ii ?_
      refine ⟨fun h1 => ?_, fun h1 => ?_⟩
      · refine tst_cmp ?_
        refine ev_bin ?_
        refine ev_loc (.tail _ (.tail _ (.tail _ (.tail _ (.tail _ (.tail _ (.head _))))))) ?_
        refine ev_int ?_
        refine op_add_ii ?_
        refine ev_loc (.tail _ (.tail _ (.tail _ (.head _)))) ?_
        refine cmp_notin_ints (ns := stand.map Int.ofNat) (by rw [← nats_eq]; exact (.head _)) ?_
        have h1 := of_decide_eq_true h1
        refine ⟨?_, rfl, rfl⟩
        have e2 : (p : Int) + 1 = ((p + 1 : Nat) : Int) := by omega
        rw [e2, any_mem]
        have h2 : p < 7 := by omega
        simp [h2]
      · have h1 := of_decide_eq_false h1
        refine ⟨?_, rfl, rfl⟩
        have h2 : ¬ p < 7 := by omega
        simp [h2]
    rintro bb _ _ ⟨rfl, rfl, rfl⟩
    refine ⟨fun hb => ?_, fun hb => ?_⟩
    · have hb := of_decide_eq_true hb
      refine x_cons ?_
      refine x_setitem ?_
      refine ev_bin ?_
      refine ev_loc (.tail _ (.tail _ (.tail _ (.tail _ (.tail _ (.tail _ (.head _))))))) ?_
      refine ev_int ?_
      refine op_add_ii ?_
      refine ev_loc (.tail _ (.tail _ (.tail _ (.head _)))) ?_
      refine ev_loc (.tail _ (.tail _ (.tail _ (.tail _ (.tail _ (.head _)))))) ?_
      refine set_list (xs := nats stand) (.head) (by omega) (by omega) (by rw [List.length_map]; omega) ?_
      refine x_cons ?_
      refine x_augL (.tail _ (.tail _ (.tail _ (.tail _ (.head _))))) ?_
      refine ev_bin ?_
      refine ev_bin ?_
      refine ev_str ?_
      refine ev_bin ?_
      refine ev_bin ?_
      refine ev_loc (.tail _ (.tail _ (.tail _ (.tail _ (.tail _ (.tail _ (.head _))))))) ?_
      refine ev_loc (.tail _ (.tail _ (.head _))) ?_
      refine op_add_ii ?_
      refine ev_loc (.tail _ (.head _)) ?_
      refine op_mod_ii (by omega) ?_
      have hmod : ((p : Int) + (h : Int)).fmod (n : Int) = (((p + h) % n : Nat) : Int) := by
        rw [Int.fmod_eq_emod_of_nonneg _ (by omega), ← Int.natCast_add]; rfl
      have hml := Nat.mod_lt (p + h) (show 0 < n by omega)
      rw [hmod]
      refine op_mul_si (c := 32) (by decide +kernel) (by omega) (by omega) ?_
      refine ev_str ?_
      refine op_add_ss (by rw [rep_len]; show _ + 1 ≤ _; omega) ?_
      refine iop_add_ss (by rw [show (rep 32 (((p + h) % n : Nat) : Int) ++ Str.ofString "\t").length = (p + h) % n + 1 from tabS_len _]; omega) ?_
      refine ⟨_, (.tail (.tail (.tail (.tail (.head))))), ?_⟩
      refine x_nil ?_
      refine x_nil ?_
      refine ⟨some (.int c), some (.int p), ?_, ?_⟩
      · unfold clStep
        dsimp only
        rw [hp, if_pos hb]
        dsimp only
        rw [tabsS_snoc]
      · unfold clStep
        dsimp only
        rw [hp, if_pos hb]
        dsimp only
        unfold nats
        rw [List.map_set, Int.toNat_natCast]
        rfl
    · have hb := of_decide_eq_false hb
      refine x_nil ?_
      refine x_nil ?_
      refine ⟨some (.int c), some (.int p), ?_, ?_⟩
      · unfold clStep
        dsimp only
        rw [hp, if_neg hb]
      · unfold clStep
        dsimp only
        rw [hp, if_neg hb]
  · rintro _ _ ⟨z1, z2, rfl, rfl⟩
    rw [List.length_map, List.take_length]
    refine x_nil ?_
    refine x_cons ?_
    refine x_ret ?_
    refine ev_tuple ?_
    refine sp_cons ?_
    refine ev_loc (.tail _ (.tail _ (.tail _ (.head _)))) ?_
    refine sp_cons ?_
    refine ev_loc (.tail _ (.tail _ (.tail _ (.tail _ (.head _))))) ?_
    refine sp_nil ?_
    refine new_tuple (by show 2 ≤ _; omega) (fun t => ?_)
    exact ⟨_, .refl _, k t s⟩
end
end Mine
end
section -- N3
open PySem PySem.W PySem.Calls PyProof.Rows
set_option Elab.async false
set_option maxRecDepth 100000
set_option linter.unusedVariables false
namespace Mine
/-! rows behind a head -/
noncomputable def capH {α : Type} (n h : Nat) (rows : List (List α)) : Nat := if rows.length = 0 then n - h else n
noncomputable def layStepH {α : Type} (n h : Nat) (st : List (List α) × List α) (w : α) : List (List α) × List α := if st.2.length = capH n h st.1 then (st.1 ++ [st.2], [w]) else (st.1, st.2 ++ [w])
noncomputable def layRunH {α : Type} (n h : Nat) (ws : List α) : List (List α) × List α := ws.foldl (layStepH n h) ([], [])
noncomputable def layH {α : Type} (n h : Nat) (ws : List α) : List (List α) := (layRunH n h ws).1 ++ [(layRunH n h ws).2]
theorem layRunH_snoc {α : Type} (n h : Nat) (ws : List α) (w : α) : layRunH n h (ws ++ [w]) = layStepH n h (layRunH n h ws) w := by
  unfold layRunH; rw [List.foldl_append]; rfl
theorem capH_snoc {α : Type} (n h : Nat) (rows : List (List α)) (l : List α) : capH n h (rows ++ [l]) = n := by
  unfold capH; rw [if_neg (by simp)]
theorem layFoldH_inv {α : Type} {n h : Nat} (hn : 1 ≤ n) : ∀ (ws : List α) (st : List (List α) × List α), st.2.length ≤ capH n h st.1 →
    (ws.foldl (layStepH n h) st).2.length ≤ capH n h (ws.foldl (layStepH n h) st).1 ∧ (ws ≠ [] ∨ st.2 ≠ [] → (ws.foldl (layStepH n h) st).2 ≠ []) ∧
    (ws.foldl (layStepH n h) st).1.flatten ++ (ws.foldl (layStepH n h) st).2 = st.1.flatten ++ st.2 ++ ws ∧ (ws.foldl (layStepH n h) st).1.length ≤ st.1.length + ws.length
  | [], st, h1 => ⟨h1, fun h => h.elim (fun h => absurd rfl h) id, by simp, Nat.le_refl _⟩
  | w :: r, st, h1 => by
    rw [List.foldl_cons]
    by_cases he : st.2.length = capH n h st.1
    · have e : layStepH n h st w = (st.1 ++ [st.2], [w]) := by unfold layStepH; rw [if_pos he]
      rw [e]
      obtain ⟨g1, g2, g3, g4⟩ := layFoldH_inv (h := h) hn r (st.1 ++ [st.2], [w]) (by rw [capH_snoc]; simpa using hn)
      refine ⟨g1, fun _ => g2 (.inr (by simp)), by rw [g3]; simp, ?_⟩
      refine Nat.le_trans g4 ?_
      simp; omega
    · have e : layStepH n h st w = (st.1, st.2 ++ [w]) := by unfold layStepH; rw [if_neg he]
      rw [e]
      obtain ⟨g1, g2, g3, g4⟩ := layFoldH_inv (h := h) hn r (st.1, st.2 ++ [w]) (by show (st.2 ++ [w]).length ≤ capH n h st.1; rw [List.length_append, List.length_singleton]; omega)
      refine ⟨g1, fun _ => g2 (.inr (by simp)), by rw [g3]; simp, ?_⟩
      refine Nat.le_trans g4 ?_
      simp; try omega
theorem layRunH_inv {α : Type} {n h : Nat} (hn : 1 ≤ n) (ws : List α) : (layRunH n h ws).2.length ≤ capH n h (layRunH n h ws).1 ∧ (ws ≠ [] → (layRunH n h ws).2 ≠ []) ∧ (layRunH n h ws).1.flatten ++ (layRunH n h ws).2 = ws ∧ (layRunH n h ws).1.length ≤ ws.length := by
  obtain ⟨g1, g2, g3, g4⟩ := layFoldH_inv (h := h) hn ws ([], []) (Nat.zero_le _)
  exact ⟨g1, fun h => g2 (.inl h), g3, by simpa [layRunH] using g4⟩
theorem layH_flat {α : Type} {n h : Nat} (hn : 1 ≤ n) (ws : List α) : (layH n h ws).flatten = ws := by
  obtain ⟨_, _, h3, _⟩ := layRunH_inv (h := h) hn ws
  unfold layH
  rw [List.flatten_append]
  simpa using h3
theorem layH_mem {α : Type} {n h : Nat} (hn : 1 ≤ n) {ws l : List α} {w : α} (hl : l ∈ layH n h ws) (hw : w ∈ l) : w ∈ ws := by
  rw [← layH_flat (h := h) hn ws]
  exact List.mem_flatten.mpr ⟨l, hl, hw⟩
theorem layStepH_map {α β : Type} (f : α → β) (n h : Nat) : ∀ (ws : List α) (st : List (List α) × List α), ((ws.foldl (layStepH n h) st).1.map (·.map f), (ws.foldl (layStepH n h) st).2.map f) = (ws.map f).foldl (layStepH n h) (st.1.map (·.map f), st.2.map f)
  | [], st => rfl
  | w :: r, st => by
    rw [List.foldl_cons, List.map_cons, List.foldl_cons, layStepH_map f n h r]
    congr 1
    have ec : capH n h (st.1.map (·.map f)) = capH n h st.1 := by unfold capH; rw [List.length_map]
    unfold layStepH
    rw [ec]
    by_cases q : st.2.length = capH n h st.1
    · rw [if_pos q, if_pos (by simpa using q)]; simp
    · rw [if_neg q, if_neg (by simpa using q)]; simp
theorem layH_map {α β : Type} (f : α → β) (n h : Nat) (ws : List α) : (layH n h ws).map (·.map f) = layH n h (ws.map f) := by
  have q := layStepH_map f n h ws ([], [])
  unfold layH layRunH
  rw [List.map_append]
  have h1 := congrArg Prod.fst q
  have h2 := congrArg Prod.snd q
  simp only [List.map_nil] at h1 h2
  rw [← h1, ← h2]
  rfl
noncomputable def endsN (n h : Nat) : Nat := (8 - (n - h) + n - 1) / n
noncomputable def cutH {α : Type} (n h : Nat) (ws : List α) (j : Nat) : List α := (ws.drop (n - h + j * n - n)).take (n - h + j * n - (n - h + j * n - n))
noncomputable def rowsCutB (n h : Nat) : Bool := decide (layH n h (List.range 8) = (List.range (endsN n h)).map (cutH n h (List.range 8)) ++ [(List.range 8).drop (n - h + (endsN n h - 1) * n)])
theorem rowsCut_all : ((List.range 6).all fun n => n < 2 || (List.range (n + 1)).all fun h => rowsCutB n h && decide (1 ≤ endsN n h) && decide (endsN n h ≤ 5) && decide (n - h + (endsN n h - 1) * n < 8)) = true := by decide +kernel
structure EndsOk (n h : Nat) : Prop where
  cut : layH n h (List.range 8) = (List.range (endsN n h)).map (cutH n h (List.range 8)) ++ [(List.range 8).drop (n - h + (endsN n h - 1) * n)]
  pos : 1 ≤ endsN n h
  le : endsN n h ≤ 5
  last : n - h + (endsN n h - 1) * n < 8
theorem ends_ok {n h : Nat} (hn : 2 ≤ n ∧ n ≤ 5) (hh : h ≤ n) : EndsOk n h := by
  have h1 := List.all_eq_true.mp rowsCut_all n (List.mem_range.mpr (by omega))
  have h2 : decide (n < 2) = false := decide_eq_false (by omega)
  rw [h2, Bool.false_or] at h1
  have h3 := List.all_eq_true.mp h1 h (List.mem_range.mpr (by omega))
  simp only [Bool.and_eq_true, decide_eq_true_eq] at h3
  exact ⟨of_decide_eq_true h3.1.1.1, h3.1.1.2, h3.1.2, h3.2⟩
theorem layH_cut {n h : Nat} (hn : 2 ≤ n ∧ n ≤ 5) (hh : h ≤ n) {ws : List Str} (hw : ws.length = 8) : layH n h ws = (List.range (endsN n h)).map (cutH n h ws) ++ [ws.drop (n - h + (endsN n h - 1) * n)] := by
  have e : ws = (List.range 8).map fun i => ws.getD i ⟨#[]⟩ := by
    refine List.ext_getElem (by simp [hw]) fun i h1 h2 => ?_
    rw [List.getElem_map, List.getElem_range, List.getD_eq_getElem?_getD, List.getElem?_eq_getElem h1]; rfl
  have q := congrArg (List.map (List.map fun i => ws.getD i (⟨#[]⟩ : Str))) (ends_ok hn hh).cut
  rw [layH_map, ← e] at q
  rw [q, List.map_append, List.map_map]
  congr 1
  · refine List.map_congr_left fun j _ => ?_
    show (cutH n h (List.range 8) j).map (fun i => ws.getD i ⟨#[]⟩) = cutH n h ws j
    unfold cutH
    rw [List.map_take, List.map_drop, ← e]
  · show [((List.range 8).drop _).map _] = _
    rw [List.map_drop, ← e]
/-! the strip, cut -/
theorem flat_drop : ∀ (l : List Str) (k : Nat), (∀ w ∈ l, WordOk w) → ((l.map padded).flatten).drop (20 * k) = ((l.drop k).map padded).flatten
  | [], k, _ => by simp
  | w :: r, 0, _ => rfl
  | w :: r, k + 1, h => by
    rw [List.map_cons, List.flatten_cons, List.drop_succ_cons]
    have e : 20 * (k + 1) = (padded w).length + 20 * k := by rw [padded_len (h w (.head _))]; omega
    rw [e, List.drop_append, List.drop_eq_nil_of_le (by omega), List.nil_append, Nat.add_sub_cancel_left]
    exact flat_drop r k fun x hx => h x (.tail _ hx)
theorem flat_take : ∀ (l : List Str) (k : Nat), (∀ w ∈ l, WordOk w) → ((l.map padded).flatten).take (20 * k) = ((l.take k).map padded).flatten
  | [], k, _ => by simp
  | w :: r, 0, _ => by simp
  | w :: r, k + 1, h => by
    rw [List.map_cons, List.flatten_cons, List.take_succ_cons, List.map_cons, List.flatten_cons]
    have e : 20 * (k + 1) = (padded w).length + 20 * k := by rw [padded_len (h w (.head _))]; omega
    rw [e, List.take_append, List.take_of_length_le (by omega), Nat.add_sub_cancel_left]
    rw [flat_take r k fun x hx => h x (.tail _ hx)]
theorem slice_any (x : Str) {i j : Nat} (hij : i ≤ j) (hi : i ≤ x.length) : (Txt.slice x (some (i : Int)) (some (j : Int))).cps.toList = (x.cps.toList.drop i).take (j - i) := by
  have hl : x.cps.toList.length = x.length := by simp [Str.length]
  by_cases hj : j ≤ x.length
  · have := StrLaws.sliceText_plain (x := x) (i := (i : Int)) (j := (j : Int)) ⟨by omega, by omega, by rw [hl]; omega⟩
    have e : Txt.slice x (some (i : Int)) (some (j : Int)) = StrLaws.sliceText x (some (i : Int)) (some (j : Int)) := rfl
    rw [e, this]
    have e2 : ((j : Int) - (i : Int)).toNat = j - i := by omega
    simp [e2]
  · have e0 : Builtin.Str.strSliceIndices (some (i : Int)) (some (j : Int)) 1 x.length = Builtin.Str.strSliceIndices (some (i : Int)) (some (x.length : Int)) 1 x.length := by
      unfold Builtin.Str.strSliceIndices
      have h1 : ¬ ((j : Int) < 0) := by omega
      have h2 : ¬ ((x.length : Int) < 0) := by omega
      simp only [h1, h2, if_false, show (1 : Int) > 0 by decide, if_true]
      have h3 : max 0 (min (j : Int) (x.length : Int)) = max 0 (min (x.length : Int) (x.length : Int)) := by omega
      rw [h3]
    have e1 : Txt.slice x (some (i : Int)) (some (j : Int)) = Txt.slice x (some (i : Int)) (some (x.length : Int)) := by
      unfold Txt.slice; rw [e0]
    have := StrLaws.sliceText_plain (x := x) (i := (i : Int)) (j := (x.length : Int)) ⟨by omega, by omega, by rw [hl]; omega⟩
    have e : Txt.slice x (some (i : Int)) (some (x.length : Int)) = StrLaws.sliceText x (some (i : Int)) (some (x.length : Int)) := rfl
    rw [e1, e, this]
    have e2 : ((x.length : Int) - (i : Int)).toNat = x.length - i := by omega
    simp only [Int.toNat_natCast, e2]
    rw [List.take_of_length_le (l := x.cps.toList.drop i) (i := x.length - i) (by rw [List.length_drop, hl]; omega), List.take_of_length_le (l := x.cps.toList.drop i) (i := j - i) (by rw [List.length_drop, hl]; omega)]
theorem slice_from (x : Str) {i : Nat} (hi : i ≤ x.length) : (Txt.slice x (some (i : Int)) none).cps.toList = x.cps.toList.drop i := by
  have hl : x.cps.toList.length = x.length := by simp [Str.length]
  have e0 : Builtin.Str.strSliceIndices (some (i : Int)) none 1 x.length = Builtin.Str.strSliceIndices (some (i : Int)) (some (x.length : Int)) 1 x.length := by
    unfold Builtin.Str.strSliceIndices
    have h2 : ¬ ((x.length : Int) < 0) := by omega
    simp only [h2, if_false, show (1 : Int) > 0 by decide, if_true]
    have h3 : max 0 (min (x.length : Int) (x.length : Int)) = (x.length : Int) := by omega
    simp [h3]
  have e1 : Txt.slice x (some (i : Int)) none = Txt.slice x (some (i : Int)) (some (x.length : Int)) := by
    unfold Txt.slice; rw [e0]
  rw [e1, slice_any x hi hi, List.take_of_length_le (by rw [List.length_drop, hl]; exact Nat.le_refl _)]
theorem strip_cutH {ws : List Str} (hw : ∀ w ∈ ws, WordOk w) {a b : Nat} (hab : a ≤ b) (hb : a ≤ ws.length) : Txt.slice (rowStr ws) (some ((20 * a : Nat) : Int)) (some ((20 * b : Nat) : Int)) = rowStr ((ws.drop a).take (b - a)) := by
  refine strExt ?_
  rw [slice_any _ (by omega) (by rw [rowStr_len hw]; omega), rowStr_list, rowStr_list, flat_drop ws a hw]
  have e : 20 * b - 20 * a = 20 * (b - a) := by omega
  rw [e, flat_take _ (b - a) fun w hm => hw w (List.mem_of_mem_drop hm)]
theorem strip_fromH {ws : List Str} (hw : ∀ w ∈ ws, WordOk w) {a : Nat} (hb : a ≤ ws.length) : Txt.slice (rowStr ws) (some ((20 * a : Nat) : Int)) none = rowStr (ws.drop a) := by
  refine strExt ?_
  rw [slice_from _ (by rw [rowStr_len hw]; omega), rowStr_list, rowStr_list, flat_drop ws a hw]
/-- the strip as the law joins it -/
theorem strip_join (ws : List Str) : Txt.join ⟨#[]⟩ (ws.map fun w => padS w ++ w) = rowStr ws := by
  refine strExt ?_
  rw [join0, rowStr_list, List.map_map]
  congr 1
  refine List.map_congr_left fun w _ => ?_
  show (padS w ++ w).cps.toList = padded w
  rw [Str.cps_append, Array.toList_append, padded_eq]
/-! data of lists of texts -/
theorem strs_lay : ∀ (xs : List Str), (∀ x ∈ xs, PyData.strOk x = true) → PyData.canLayAll0 (xs.map PyData.str) = true
  | [], _ => rfl
  | x :: r, h => by
    show (PyData.strOk x && PyData.canLayAll0 (r.map PyData.str)) = true
    rw [h x (.head _), strs_lay r fun y hy => h y (.tail _ hy)]; rfl
theorem strs_depth : ∀ (xs : List Str), PyData.depthAll (xs.map PyData.str) = 0
  | [] => rfl
  | x :: r => by
    have := strs_depth r
    rw [List.map_cons]
    simp only [PyData.depthAll, PyData.depth, this]; rfl
theorem strs_shaped {xs : List Str} (h : ∀ x ∈ xs, PyData.strOk x = true) : SeqAt.shaped (.list (xs.map PyData.str)) = true := by
  have h1 := strs_depth xs
  have h3 : PyData.depth (.list (xs.map PyData.str)) ≤ 64 := by simp only [PyData.depth, h1]; omega
  show (PyData.canLay0 (.list (xs.map PyData.str)) && decide (PyData.depth (.list (xs.map PyData.str)) ≤ 64)) = true
  rw [Bool.and_eq_true]
  refine ⟨?_, decide_eq_true h3⟩
  simp only [PyData.canLay0]
  exact strs_lay xs h
theorem strs_mix : ∀ (xs ys : List Str), SeqAt.noMixAll (xs.map PyData.str) (ys.map PyData.str) = true
  | [], ys => by cases ys <;> rfl
  | _ :: _, [] => rfl
  | x :: r, y :: s => by
    have := strs_mix r s
    simp only [List.map_cons, SeqAt.noMixAll, SeqAt.noMix, this]; rfl
theorem strs_same : ∀ (xs : List Str), PySem.Spec.sameAll (xs.map PyData.str) (xs.map PyData.str) = true
  | [] => rfl
  | x :: r => by
    have := strs_same r
    simp only [List.map_cons, PySem.Spec.sameAll, PySem.Spec.same, this]; simp
end Mine
end
section -- G8
open PySem PySem.W PySem.Calls PyProof.Rows
set_option Elab.async false
set_option maxRecDepth 100000
set_option linter.unusedVariables false
namespace Mine
noncomputable abbrev accD (n : Int) : List (Str × AV) := [(Str.ofString "_initial_size", .int n)]
section
variable {w : World} {sc : Scope} {C : Ctxt w (K1 w) sc} {ρ : Frame} {σ σ' : Ledger}
theorem ai {x d : Addr} {n : Int} {tk : Tok} {Φ : AV → Frame → Ledger → Prop} (hd : 1 ≤ C.d)
    (h : Φ .none ρ ((x, .acc 178 d []) :: (d, .dict (accD n)) :: σ)) :
    WC P1 C ρ ((x, .acc 178 d []) :: (d, .dict []) :: σ) (.call (.ref 115) ⟨[.ref x, .int n tk], []⟩) Φ := by
  refine WC.sub ?_
  refine code_fnS (args := [.ref x, .int n]) (names := [Str.ofString "self", Str.ofString "initial_size"]) (others := []) rfl hd (fun h hX => ⟨_, binds_K hX rfl rfl rfl rfl rfl, .cons rfl (.cons ⟨tk, rfl⟩ .nil)⟩) (by kernel_rfl) (by decide +kernel) (by decide +kernel) (by decide +kernel) rfl rfl rfl (fun C' hd' henv => ?_)
  refine at_cons ?_
  refine at_of ?_
  refine x_asgattr ?_
  refine ev_loc (mget 1 rfl) ?_
  refine ev_loc (.head _) ?_
  refine sa_self (.acc (.head _)) (.tail .head) (by kernel_rfl) (by kernel_rfl) ?_
  refine at_cons ?_
  refine at_expr ?_
  refine at_superC (.inl rfl) desc_init (by kernel_rfl) (by kernel_rfl) (by kernel_rfl) (f := 115) (cda := 114) (cc := 102) rfl (by rw [henv]; rfl) (by rw [henv]; rfl) (by rw [henv]; rfl) rfl (.head _) (.head _) (mget 1 rfl) (by kernel_rfl) (by kernel_rfl) (by kernel_rfl) (by kernel_rfl) (by kernel_rfl) (by decide +kernel) (by kernel_rfl) (by kernel_rfl) (by kernel_rfl) (by kernel_rfl) (by kernel_rfl) (fun so b => ?_)
  refine bnd_init (.head _) (mget 2 rfl) (mget 3 rfl) ?_
  refine at_of (x_nil ?_)
  exact ⟨_, .cons _ (.cons _ (.refl _)), h⟩
theorem apc {x d : Addr} {xs : List AV} {n : Int} {Φ : AV → Frame → Ledger → Prop} (hd : 1 ≤ C.d) (hx : (x, .acc 178 d xs) ∈ σ) (hdd : (d, .dict (accD n)) ∈ σ) (h : Φ (.int xs.length) ρ σ) :
    WV P1 C ρ σ (call (.ref 175) [.ref x]) Φ := by
  refine WC.call (WC.sub ?_)
  refine code_fnS (args := [.ref x]) (names := [Str.ofString "self"]) (others := []) rfl hd (fun h _ => ⟨_, BindsTo.of_eq rfl, .cons rfl .nil⟩) (by kernel_rfl) (by decide +kernel) (by decide +kernel) (by decide +kernel) rfl rfl rfl (fun C' hd' henv => ?_)
  refine at_cons ?_
  refine at_ret ?_
  refine at_superC (.inl rfl) desc_len (by kernel_rfl) (by kernel_rfl) (by kernel_rfl) (f := 175) (cda := 174) (cc := 102) rfl (by rw [henv]; rfl) (by rw [henv]; rfl) (by rw [henv]; rfl) rfl (.head _) hx hdd (by kernel_rfl) (by kernel_rfl) (by kernel_rfl) (by kernel_rfl) (by kernel_rfl) (by decide +kernel) (by kernel_rfl) (by kernel_rfl) (by kernel_rfl) (by kernel_rfl) (by kernel_rfl) (fun so b => ?_)
  refine bnd_len (.head _) (.tail _ (.tail _ hx)) (.tail _ (.tail _ hdd)) ?_
  exact ⟨_, .cons _ (.cons _ (.refl _)), h⟩
theorem apushC {x d : Addr} {xs : List AV} {n : Int} {f p : Str} {tf tp : Tok} {Φ : AV → Frame → Ledger → Prop} (hd : 1 ≤ C.d) (hdd : (d, .dict (accD n)) ∈ σ) (hz : xs.length < 1000)
    (hU : ∀ t, ∃ σ', PutL x (.acc 178 d xs) (.acc 178 d (xs ++ [.ref t])) σ σ' ∧ Φ .none ρ ((t, .tuple [.str f, .str p]) :: σ')) :
    WC P1 C ρ σ (.call (.ref 122) ⟨[.ref x, .str f tf, .str p tp], []⟩) Φ := by
  have hsz := sizeLine_eq
  refine code_fn (args := [.ref x, .str f, .str p]) (names := [Str.ofString "self", Str.ofString "fws", Str.ofString "string"]) (others := []) rfl hd (fun h _ => ⟨_, BindsTo.of_eq rfl, .cons rfl (.cons ⟨tf, rfl⟩ (.cons ⟨tp, rfl⟩ .nil))⟩) (by kernel_rfl) (by decide +kernel) (by decide +kernel) (by decide +kernel) rfl rfl rfl (fun C' hd' hcl => ?_)
  have hx : (x, AObj.acc 178 d xs) ∈ σ := by obtain ⟨σ', U, -⟩ := hU 0; exact U.mem
  refine x_cons ?_
  refine x_expr ?_
  refine ev_meth ?_
  refine ev_loc (.head _) ?_
  refine tm_biL (id := "list.append") hx hdd (by kernel_rfl) type_list_append rfl ?_
  refine cw_b ?_
  refine sp_cons ?_
  refine ev_tuple ?_
  refine sp_cons ?_
  refine ev_loc (mget 1 rfl) ?_
  refine sp_cons ?_
  refine ev_loc (mget 2 rfl) ?_
  refine sp_nil ?_
  refine new_tuple (by show 2 ≤ _; omega) (fun t => ?_)
  refine sp_nil ?_
  obtain ⟨σ', U, h⟩ := hU t
  refine acc_append (by kernel_rfl) (.tail _ hdd) (.tail U) (by omega) ?_
  refine x_nil ?_
  exact h
theorem apush {x d : Addr} {xs : List AV} {n : Int} {f p : Str} {tf tp : Tok} {Φ : AV → Frame → Ledger → Prop} (hd : 1 ≤ C.d) (hdd : (d, .dict (accD n)) ∈ σ) (hz : xs.length < 1000)
    (hU : ∀ t, ∃ σ', PutL x (.acc 178 d xs) (.acc 178 d (xs ++ [.ref t])) σ σ' ∧ Φ .none ρ ((t, .tuple [.str f, .str p]) :: σ')) :
    WV P1 C ρ σ (call (.ref 122) [.ref x, .str f tf, .str p tp]) Φ := WC.call (apushC hd hdd hz hU)
theorem apop {x d : Addr} {xs : List AV} {a : AV} {n : Int} {Φ : AV → Frame → Ledger → Prop} (hd : 2 ≤ C.d) (hdd : (d, .dict (accD n)) ∈ σ) (U : PutL x (.acc 178 d (xs ++ [a])) (.acc 178 d xs) σ σ') (hz : xs.length < 999)
    (h : Φ a ρ σ') : WV P1 C ρ σ (call (.ref 138) [.ref x]) Φ := by
  have hsz := sizeLine_eq
  refine WC.call (WC.sub ?_)
  refine code_fnS (args := [.ref x]) (names := [Str.ofString "self"]) (others := []) rfl (by omega) (fun h _ => ⟨_, BindsTo.of_eq rfl, .cons rfl .nil⟩) (by kernel_rfl) (by decide +kernel) (by decide +kernel) (by decide +kernel) rfl rfl rfl (fun C' hd' henv => ?_)
  refine at_cons ?_
  refine at_of ?_
  refine x_if ?_
  refine tst_cmp ?_
  refine ev_meth ?_
  refine ev_loc (.head _) ?_
  refine tm_ownL (f := 175) U.mem hdd (by kernel_rfl) rfl ?_
  refine cw_K0 (by kernel_rfl) ?_
  refine apc (by omega) U.mem hdd ?_
  refine ev_int ?_
  refine cmp_eq_ii ?_
  refine ⟨fun hb => ?_, fun hb => ?_⟩
  · exfalso
    rw [List.length_append] at hb
    simp at hb
    omega
  refine x_nil ?_
  refine at_cons ?_
  refine at_ret ?_
  refine at_superC (.inr rfl) desc_pop (by kernel_rfl) (by kernel_rfl) (by kernel_rfl) (f := 138) (cda := 137) (cc := 102) rfl (by rw [henv]; rfl) (by rw [henv]; rfl) (by rw [henv]; rfl) rfl (.head _) U.mem hdd (by kernel_rfl) (by kernel_rfl) (by kernel_rfl) (by kernel_rfl) (by kernel_rfl) (by decide +kernel) (by kernel_rfl) (by kernel_rfl) (by kernel_rfl) (by kernel_rfl) (by kernel_rfl) (fun so b => ?_)
  refine bnd_pop rfl (by decide +kernel) (by kernel_rfl) (by kernel_rfl) (.head _) (.tail _ (.tail _ hdd)) (.tail (.tail U)) (by omega) ?_
  exact ⟨_, .cons _ (.cons _ (.refl _)), h⟩
theorem apop0 {x d : Addr} {n : Int} {Φ : AV → Frame → Ledger → Prop} (hd : 2 ≤ C.d) (hx : (x, .acc 178 d []) ∈ σ) (hdd : (d, .dict (accD n)) ∈ σ)
    (h : ∀ t, Φ (.ref t) ρ ((t, .tuple [.str ⟨#[]⟩, .str ⟨#[]⟩]) :: σ)) : WV P1 C ρ σ (call (.ref 138) [.ref x]) Φ := by
  have hsz := sizeLine_eq
  refine WC.call ?_
  refine code_fn (args := [.ref x]) (names := [Str.ofString "self"]) (others := []) rfl (by omega) (fun h _ => ⟨_, BindsTo.of_eq rfl, .cons rfl .nil⟩) (by kernel_rfl) (by decide +kernel) (by decide +kernel) (by decide +kernel) rfl rfl rfl (fun C' hd' hcl => ?_)
  refine x_cons ?_
  refine x_if ?_
  refine tst_cmp ?_
  refine ev_meth ?_
  refine ev_loc (.head _) ?_
  refine tm_ownL (f := 175) hx hdd (by kernel_rfl) rfl ?_
  refine cw_K0 (by kernel_rfl) ?_
  refine apc (by omega) hx hdd ?_
  refine ev_int ?_
  refine cmp_eq_ii ?_
  refine ⟨fun hb => ?_, fun hb => absurd hb (by decide)⟩
  refine x_cons ?_
  refine x_ret ?_
  refine ev_tuple ?_
  refine sp_cons ?_
  refine ev_str ?_
  refine sp_cons ?_
  refine ev_str ?_
  refine sp_nil ?_
  refine new_tuple (by show 2 ≤ _; omega) (fun t => ?_)
  exact h t
end
end Mine
end
section -- G9
open PySem PySem.W PySem.Calls PyProof.Rows
set_option Elab.async false
set_option maxRecDepth 100000
set_option linter.unusedVariables false
namespace Mine
/-- the accumulator x in the ledger -/
structure AccAt (σ : Ledger) (x d : Addr) (items : accItems) (n : Int) : Prop where
  hx : (x, .acc 178 d (items.map fun i => .ref i.1)) ∈ σ
  hd : (d, .dict (accD n)) ∈ σ
  ts : ∀ i ∈ items, (i.1, AObj.tuple [.str i.2.1, .str i.2.2]) ∈ σ
  ln : ∀ i ∈ items, i.2.1.length ≤ 1000 ∧ i.2.2.length ≤ 1000
  len : items.length ≤ 100
section
variable {w : World} {sc : Scope} {C : Ctxt w (K1 w) sc} {ρ : Frame} {σ σ' : Ledger}
theorem alen {x d : Addr} {items : accItems} {n : Int} {Φ : AV → Frame → Ledger → Prop} (hd : 1 ≤ C.d) (X : AccAt σ x d items n) (hn : 0 ≤ n ∧ n ≤ 1000000) (hT : (140, AObj.table) ∈ σ) (h : Φ (.int (n + sizeOf' items)) ρ σ) :
    WV P1 C ρ σ (call (.ref 145) [.ref x]) Φ := by
  have hlen := X.len
  refine call_fnE (args := [.ref x]) (names := [Str.ofString "self"]) (others := []) rfl hd (fun h _ => ⟨_, BindsTo.of_eq rfl, .cons rfl .nil⟩) (by kernel_rfl) (by decide +kernel) (by decide +kernel) (by decide +kernel) rfl rfl rfl (fun C' hd' henv => ?_)
  refine x_cons ?_
  refine x_ret ?_
  refine ev_sumgen (T := 140) (cd := 144) (d := d) (.head _) X.hx X.hd X.ts X.ln (by omega) (by rw [henv]; rfl) hT rfl hn ?_ (by kernel_rfl) (by kernel_rfl) (by kernel_rfl) (by kernel_rfl) (by kernel_rfl) (by kernel_rfl) (by rfl) rfl (by decide +kernel) (by kernel_rfl) (by kernel_rfl) (by kernel_rfl) (by decide +kernel) rfl (elt_len rfl (by kernel_rfl) (by kernel_rfl) (by kernel_rfl) (by kernel_rfl) (by kernel_rfl) (by kernel_rfl)) (by kernel_rfl) (by kernel_rfl) (by intro _; rfl) (by rfl) (by intro _ _; rfl)
  exact h
theorem astr {x d : Addr} {items : accItems} {n : Int} {Φ : AV → Frame → Ledger → Prop} (hd : 1 ≤ C.d) (X : AccAt σ x d items n) (hT : (147, AObj.table) ∈ σ) (h : Φ (.str (accStr items)) ρ σ) :
    WV P1 C ρ σ (call (.ref 152) [.ref x]) Φ := by
  have hlen := X.len
  refine call_fnE (args := [.ref x]) (names := [Str.ofString "self"]) (others := []) rfl hd (fun h _ => ⟨_, BindsTo.of_eq rfl, .cons rfl .nil⟩) (by kernel_rfl) (by decide +kernel) (by decide +kernel) (by decide +kernel) rfl rfl rfl (fun C' hd' henv => ?_)
  refine x_cons ?_
  refine x_ret ?_
  refine ev_joingen (T := 147) (cd := 151) (d := d) (.head _) X.hx X.hd X.ts X.ln (by omega) (by rw [henv]; rfl) hT ?_ (by kernel_rfl) (by kernel_rfl) (by kernel_rfl) (by kernel_rfl) (by kernel_rfl) (by rfl) rfl (by decide +kernel) (by kernel_rfl) (by kernel_rfl) (by kernel_rfl) (by decide +kernel) rfl (elt_join rfl (by rfl) (by kernel_rfl) (by kernel_rfl) (by kernel_rfl) (by kernel_rfl) (by kernel_rfl) (by intro _; rfl)) (by rfl) (by kernel_rfl) (by intro _; rfl) (by rfl)
  exact h
end
end Mine
end
section -- G10
open PySem PySem.W PySem.Calls PyProof.Rows
set_option Elab.async false
set_option maxRecDepth 100000
set_option linter.unusedVariables false
namespace Mine
section
variable {w : World} {sc : Scope} {C : Ctxt w (K1 w) sc} {ρ : Frame} {σ σ' : Ledger}
theorem apopfrom {x d : Addr} {xs : List AV} {n : Int} {i : Nat} {ti : Tok} {Φ : AV → Frame → Ledger → Prop} (hd : 1 ≤ C.d) (hdd : (d, .dict (accD n)) ∈ σ) (U : PutL x (.acc 178 d xs) (.acc 178 d (xs.take i)) σ σ') (hi : i ≤ xs.length) (hz : xs.length ≤ 1000)
    (h : ∀ a, Φ (.ref a) ρ ((a, .list (xs.drop i)) :: σ')) : WV P1 C ρ σ (call (.ref 130) [.ref x, .int (i : Int) ti]) Φ := by
  have hsz := sizeLine_eq
  have hb := bounds_from i xs.length hi
  have hx := U.mem
  refine WC.call (WC.sub ?_)
  refine code_fn (args := [.ref x, .int (i : Int)]) (names := [Str.ofString "self", Str.ofString "i"]) (others := [Str.ofString "popped"]) rfl (by omega) (fun h hX => ⟨_, binds_K hX rfl rfl rfl rfl rfl, .cons rfl (.cons ⟨ti, rfl⟩ .nil)⟩) (by kernel_rfl) (by decide +kernel) (by decide +kernel) (by decide +kernel) rfl rfl rfl (fun C' hd' hcl => ?_)
  refine x_cons ?_
  refine x_asgL ?_
  refine ev_sub ?_
  refine ev_loc (.head _) ?_
  refine ev_sliceL ?_
  refine ev_loc (mget 1 rfl) ?_
  refine (fun sl => ?_)
  refine sub_accFrom (.tail _ hx) (.tail _ hdd) (.head _) (by kernel_rfl) (by omega) (by rw [Int.toNat_natCast]; exact hi) (by omega) (fun a => ?_)
  refine ⟨_, .tail (.tail .head), ?_⟩
  refine x_cons ?_
  refine x_setitem ?_
  refine ev_list ?_
  refine sp_nil ?_
  refine new_list (by show 0 ≤ _; omega) (fun l => ?_)
  refine ev_loc (.head _) ?_
  refine ev_sliceL ?_
  refine ev_loc (mget 1 rfl) ?_
  refine (fun sl2 => ?_)
  refine seta_slice (lo := .int (i : Int)) (j := i) (ys := []) (by kernel_rfl) rfl hb hi (.tail _ (.tail _ (.tail _ (.tail _ hdd)))) (.head _) (mget 1 rfl) (.tail (.tail (.tail (.tail (by rw [List.append_nil]; exact U))))) (by show xs.length + 0 ≤ _; omega) ?_
  refine x_cons ?_
  refine x_ret ?_
  refine ev_loc (mget 2 rfl) ?_
  rw [Int.toNat_natCast]
  exact ⟨_, .cons _ (.cons _ (.cons₂ _ (.cons _ (.refl _)))), h a⟩
theorem areset0 {x d : Addr} {xs : List AV} {n : Int} {σ'' : Ledger} {Φ : AV → Frame → Ledger → Prop} (hd : 1 ≤ C.d) (hdd : (d, .dict (accD n)) ∈ σ) (U : PutL x (.acc 178 d xs) (.acc 178 d []) σ σ') (U2 : PutL d (.dict (accD n)) (.dict (accD 0)) σ' σ'') (hz : xs.length ≤ 1000)
    (h : Φ .none ρ σ'') : WV P1 C ρ σ (call (.ref 160) [.ref x]) Φ := by
  have hsz := sizeLine_eq
  have hx := U.mem
  have hx' : (x, AObj.acc 178 d []) ∈ σ' := by
    have : ∀ {l l' : Ledger} {o o' : AObj}, PutL x o o' l l' → (x, o') ∈ l' := by
      intro l l' o o' h
      induction h with
      | head => exact .head _
      | tail _ ih => exact .tail _ ih
    exact this U
  refine WC.call (WC.sub ?_)
  refine code_fn (args := [.ref x, .none]) (names := [Str.ofString "self", Str.ofString "startval"]) (others := []) rfl (by omega) (fun h hX => ⟨_, binds_K hX rfl rfl rfl rfl rfl, .cons rfl (.cons rfl .nil)⟩) (by kernel_rfl) (by decide +kernel) (by decide +kernel) (by decide +kernel) rfl rfl rfl (fun C' hd' hcl => ?_)
  refine x_cons ?_
  refine x_if ?_
  refine tst_cmp ?_
  refine ev_loc (mget 1 rfl) ?_
  refine ev_none ?_
  refine cmp_is_nn ?_
  refine ⟨fun _ => ?_, fun hb => absurd hb (by decide)⟩
  refine x_cons ?_
  refine x_asgL ?_
  refine ev_list ?_
  refine sp_nil ?_
  refine new_list (by show 0 ≤ _; omega) (fun l => ?_)
  refine ⟨_, .tail .head, ?_⟩
  refine x_nil ?_
  refine x_cons ?_
  refine x_setitem ?_
  refine ev_loc (mget 1 rfl) ?_
  refine ev_loc (.head _) ?_
  refine ev_slice0 ?_
  refine (fun sl => ?_)
  refine seta_slice (lo := .none) (j := 0) (ys := []) (by kernel_rfl) rfl (bounds_all _) (Nat.zero_le _) (.tail _ (.tail _ hdd)) (.head _) (mget 1 rfl) (.tail (.tail U)) (by show xs.length + 0 ≤ _; omega) ?_
  refine x_cons ?_
  refine x_asgattr ?_
  refine ev_int ?_
  refine ev_loc (.head _) ?_
  refine sa_self (.acc (.tail _ (.tail _ hx'))) (.tail (.tail U2)) (by kernel_rfl) (by kernel_rfl) ?_
  refine x_nil ?_
  exact ⟨_, .cons _ (.cons _ (.refl _)), h⟩
theorem areset1 {x d l : Addr} {xs ys : List AV} {n : Int} {σ'' : Ledger} {Φ : AV → Frame → Ledger → Prop} (hd : 1 ≤ C.d) (hdd : (d, .dict (accD n)) ∈ σ) (hl : (l, .list ys) ∈ σ) (U : PutL x (.acc 178 d xs) (.acc 178 d ys) σ σ') (U2 : PutL d (.dict (accD n)) (.dict (accD 0)) σ' σ'') (hz : xs.length ≤ 1000) (hz2 : ys.length ≤ 1000)
    (h : Φ .none ρ σ'') : WV P1 C ρ σ (call (.ref 160) [.ref x, .ref l]) Φ := by
  have hsz := sizeLine_eq
  have hx := U.mem
  have hx' : (x, AObj.acc 178 d ys) ∈ σ' := by
    have : ∀ {l l' : Ledger} {o o' : AObj}, PutL x o o' l l' → (x, o') ∈ l' := by
      intro l l' o o' h
      induction h with
      | head => exact .head _
      | tail _ ih => exact .tail _ ih
    exact this U
  refine WC.call (WC.sub ?_)
  refine code_fn (args := [.ref x, .ref l]) (names := [Str.ofString "self", Str.ofString "startval"]) (others := []) rfl (by omega) (fun h hX => ⟨_, binds_K hX rfl rfl rfl rfl rfl, .cons rfl (.cons rfl .nil)⟩) (by kernel_rfl) (by decide +kernel) (by decide +kernel) (by decide +kernel) rfl rfl rfl (fun C' hd' hcl => ?_)
  refine x_cons ?_
  refine x_if ?_
  refine tst_cmp ?_
  refine ev_loc (mget 1 rfl) ?_
  refine ev_none ?_
  refine cmp_is_rn ?_
  refine ⟨fun hb => absurd hb (by decide), fun _ => ?_⟩
  refine x_nil ?_
  refine x_cons ?_
  refine x_setitem ?_
  refine ev_loc (mget 1 rfl) ?_
  refine ev_loc (.head _) ?_
  refine ev_slice0 ?_
  refine (fun sl => ?_)
  refine seta_slice (lo := .none) (j := 0) (ys := ys) (by kernel_rfl) rfl (bounds_all _) (Nat.zero_le _) (.tail _ hdd) (.head _) (.tail _ hl) (.tail U) (by omega) ?_
  refine x_cons ?_
  refine x_asgattr ?_
  refine ev_int ?_
  refine ev_loc (.head _) ?_
  refine sa_self (.acc (.tail _ hx')) (.tail U2) (by kernel_rfl) (by kernel_rfl) ?_
  refine x_nil ?_
  exact ⟨_, .cons _ (.refl _), h⟩
end
end Mine
end
section -- G11
open PySem PySem.W PySem.Calls PyProof.Rows
set_option Elab.async false
set_option maxRecDepth 100000
set_option linter.unusedVariables false
namespace Mine
section
variable {w : World} {sc : Scope} {C : Ctxt w (K1 w) sc} {ρ : Frame} {σ σ' : Ledger}
/-- len(acc) -/
theorem len_acc {x d : Addr} {items : accItems} {n : Int} {Φ : AV → Frame → Ledger → Prop} (hd : 2 ≤ C.d) (X : AccAt σ x d items n) (hn : 0 ≤ n ∧ n ≤ 1000000) (hT : (140, AObj.table) ∈ σ) (h : Φ (.int (n + sizeOf' items)) ρ σ) :
    Then P1 C (fun vs => call (.builtin "len") vs) Φ [.ref x] ρ σ := by
  have hb := sizeOf'_bound items X.ln
  have hl := X.len
  refine call_len_own (f := 145) (by omega) (.acc X.hx) X.hd (by kernel_rfl) (fun C2 hd2 => ?_)
  exact alen (by omega) X hn hT ⟨_, rfl, by omega, by omega, h⟩
/-- str(acc) -/
theorem str_acc {x d : Addr} {items : accItems} {n : Int} {Φ : AV → Frame → Ledger → Prop} (hd : 3 ≤ C.d) (X : AccAt σ x d items n) (hT : (147, AObj.table) ∈ σ) (h : Φ (.str (accStr items)) ρ σ) :
    Then P1 C (fun vs => call (.type "str") vs) Φ [.ref x] ρ σ := by
  refine call_str_own (f := 152) (by omega) (.acc X.hx) X.hd (by kernel_rfl) (fun C2 hd2 => ?_)
  exact astr (by omega) X hT ⟨_, rfl, h⟩
theorem aonly {x d : Addr} {items : accItems} {n : Int} {Φ : AV → Frame → Ledger → Prop} (hd : 5 ≤ C.d) (X : AccAt σ x d items n) (hn : 0 ≤ n ∧ n ≤ 1000000) (hT : (140, AObj.table) ∈ σ) (hT2 : (147, AObj.table) ∈ σ)
    (hs : n = 0 → sizeOf' items ≠ 0 ∧ Txt.isspace (accStr items) = false) (h : Φ (.bool false) ρ σ) : WV P1 C ρ σ (call (.ref 167) [.ref x]) Φ := by
  have hb := sizeOf'_bound items X.ln
  have hl := X.len
  refine WC.call ?_
  refine code_fn (args := [.ref x]) (names := [Str.ofString "self"]) (others := []) rfl (by omega) (fun h hX => ⟨_, BindsTo.of_eq rfl, .cons rfl .nil⟩) (by kernel_rfl) (by decide +kernel) (by decide +kernel) (by decide +kernel) rfl rfl rfl (fun C' hd' hcl => ?_)
  refine x_cons ?_
  refine x_ret ?_
  refine ev_and ?_
  refine ev_cmp ?_
  refine ev_attr ?_
  refine ev_loc (.head _) ?_
  refine ga_ownL X.hx X.hd (by kernel_rfl) rfl rfl ?_
  refine ev_int ?_
  refine cmp_eq_ii ?_
  refine tr_bool ?_
  refine ⟨fun hz => ?_, fun hz => ?_⟩
  · have hz' : n = 0 := by simpa using hz
    obtain ⟨h1, h2⟩ := hs hz'
    refine ev_or ?_
    refine ev_not ?_
    refine ev_loc (.head _) ?_
    refine tr_own (f := 145) (by omega) (.acc X.hx) X.hd (by kernel_rfl) (by kernel_rfl) (fun C2 hd2 => ?_)
    refine alen (by omega) X hn hT ?_
    refine ⟨_, rfl, by omega, by omega, ?_⟩
    refine tr_bool ?_
    refine ⟨fun _ => ?_, fun hb2 => ?_⟩
    · refine ev_meth ?_
      refine ev_callT rfl (by boot_fast) (by decide) ?_
      refine sp_cons ?_
      refine ev_loc (.head _) ?_
      refine sp_nil ?_
      refine str_acc (by omega) X hT2 ?_
      refine tm_str PySem.F.slot_str_isspace PySem.F.type_str_isspace (fun t => ?_)
      refine cw_b0 ?_
      refine call_isspace ?_
      rw [h2]
      exact h
    · exfalso
      simp at hb2
      omega
  · rw [hz]
    exact h
end
end Mine
end
section -- G12
open PySem PySem.W PySem.Calls PyProof.Rows PySem.SeqAt
set_option Elab.async false
set_option maxRecDepth 100000
set_option linter.unusedVariables false
namespace Mine
/-- the dict of a formatter -/
noncomputable abbrev vfD (m : Int) (ls acc : Addr) : List (Str × AV) := [(Str.ofString "_maxlen", .int m), (Str.ofString "_continuation_ws", .str (Str.ofString " ")), (Str.ofString "_continuation_ws_len", .int 1), (Str.ofString "_splitchars", .str (Str.ofString " ")), (Str.ofString "_lines", .ref ls), (Str.ofString "_current_line", .ref acc)]
noncomputable abbrev refsOf (items : accItems) : List AV := items.map fun i => .ref i.1
structure ItemsOk (items : accItems) : Prop where
  ln : ∀ i ∈ items, i.2.1.length ≤ 1000 ∧ i.2.2.length ≤ 1000
  len : items.length ≤ 50
section
variable {w : World} {sc : Scope} {C : Ctxt w (K1 w) sc} {ρ : Frame} {σ σ' : Ledger}
theorem vinit {x d : Addr} {n m : Int} {tn tm tc tc' : Tok} {Φ : AV → Frame → Ledger → Prop} (hd : 4 ≤ C.d)
    (h : ∀ ls acc ad, Φ .none ρ ((acc, .acc 178 ad []) :: (ad, .dict (accD n)) :: (ls, .list []) :: (x, .inst 94 d) :: (d, .dict (vfD m ls acc)) :: σ)) :
    WC P1 C ρ ((x, .inst 94 d) :: (d, .dict []) :: σ) (.call (.ref 35) ⟨[.ref x, .int n tn, .int m tm, .str (Str.ofString " ") tc, .str (Str.ofString " ") tc'], []⟩) Φ := by
  have hsz := sizeLine_eq
  refine code_fn (args := [.ref x, .int n, .int m, .str (Str.ofString " "), .str (Str.ofString " ")]) (names := [Str.ofString "self", Str.ofString "headerlen", Str.ofString "maxlen", Str.ofString "continuation_ws", Str.ofString "splitchars"]) (others := []) rfl (by omega) (fun h _ => ⟨_, BindsTo.of_eq rfl, .cons rfl (.cons ⟨tn, rfl⟩ (.cons ⟨tm, rfl⟩ (.cons ⟨tc, rfl⟩ (.cons ⟨tc', rfl⟩ .nil))))⟩) (by kernel_rfl) (by decide +kernel) (by decide +kernel) (by decide +kernel) rfl rfl rfl (fun C' hd' hcl => ?_)
  refine x_cons ?_
  refine x_asgattr ?_
  refine ev_loc (mget 2 rfl) ?_
  refine ev_loc (.head _) ?_
  refine sa_self (.inst (.head _)) (.tail .head) (by kernel_rfl) (by kernel_rfl) ?_
  refine x_cons ?_
  refine x_asgattr ?_
  refine ev_loc (mget 3 rfl) ?_
  refine ev_loc (.head _) ?_
  refine sa_self (.inst (.head _)) (.tail .head) (by kernel_rfl) (by kernel_rfl) ?_
  refine x_cons ?_
  refine x_asgattr ?_
  refine ev_callB rfl (by boot_fast) (by decide) ?_
  refine sp_cons ?_
  refine ev_loc (mget 3 rfl) ?_
  refine sp_nil ?_
  refine call_len_str (by show 1 ≤ _; omega) ?_
  refine ev_loc (.head _) ?_
  refine sa_self (.inst (.head _)) (.tail .head) (by kernel_rfl) (by kernel_rfl) ?_
  refine x_cons ?_
  refine x_asgattr ?_
  refine ev_loc (mget 4 rfl) ?_
  refine ev_loc (.head _) ?_
  refine sa_self (.inst (.head _)) (.tail .head) (by kernel_rfl) (by kernel_rfl) ?_
  refine x_cons ?_
  refine x_asgattr ?_
  refine ev_list ?_
  refine sp_nil ?_
  refine new_list (by show 0 ≤ _; omega) (fun ls => ?_)
  refine ev_loc (.head _) ?_
  refine sa_self (.inst (mget 1 rfl)) (.tail (.tail .head)) (by kernel_rfl) (by kernel_rfl) ?_
  refine x_cons ?_
  refine x_asgattr ?_
  refine ev_callK rfl (by kernel_rfl) ?_
  refine sp_cons ?_
  refine ev_loc (mget 1 rfl) ?_
  refine sp_nil ?_
  refine th_i fun tv => ?_
  refine call_acc (Cc := 178) (fI := 115) (by omega) (by kernel_rfl) (by kernel_rfl) (by kernel_rfl) (fun C2 acc ad hd2 => ?_)
  refine ai (by omega) ?_
  refine ⟨rfl, ?_⟩
  refine ev_loc (.head _) ?_
  refine sa_self (.inst (mget 3 rfl)) (.tail (.tail (.tail (.tail .head)))) (by kernel_rfl) (by kernel_rfl) ?_
  refine x_nil ?_
  exact h ls acc ad
end
end Mine
end
section -- G13
open PySem PySem.W PySem.Calls PyProof.Rows PySem.SeqAt
set_option Elab.async false
set_option maxRecDepth 100000
set_option linter.unusedVariables false
namespace Mine
/-- the ledger of a formatter, the tuples in T -/
noncomputable abbrev vfB (x d : Addr) (m : Int) (ls : Addr) (lines : List Str) (acc ad : Addr) (xs : List AV) (n : Int) (T : Ledger) : Ledger :=
  (x, .inst 94 d) :: (d, .dict (vfD m ls acc)) :: (ls, .list (lines.map .str)) :: (acc, .acc 178 ad xs) :: (ad, .dict (accD n)) :: (140, .table) :: (147, .table) :: T
noncomputable def TupsIn (items : accItems) (T : Ledger) : Prop := ∀ i ∈ items, (i.1, AObj.tuple [.str i.2.1, .str i.2.2]) ∈ T
theorem TupsIn.cons {items : accItems} {T : Ledger} {t : Addr} {f p : Str} (h : TupsIn items T) : TupsIn (items ++ [(t, f, p)]) ((t, .tuple [.str f, .str p]) :: T) := by
  intro i hi
  rcases List.mem_append.mp hi with hi | hi
  · exact .tail _ (h i hi)
  · rw [List.mem_singleton.mp hi]; exact .head _
theorem ItemsOk.snoc {items : accItems} {t t' : Addr} {f p : Str} (h : ItemsOk (items ++ [(t, f, p)])) : ItemsOk (items ++ [(t', f, p)]) := by
  refine ⟨fun i hi => ?_, by have := h.len; simpa using this⟩
  rcases List.mem_append.mp hi with hi | hi
  · exact h.ln i (List.mem_append_left _ hi)
  · rw [List.mem_singleton.mp hi]; exact h.ln (t, f, p) (by simp)
theorem accStr_last (items : accItems) (t t' : Addr) (f p : Str) : accStr (items ++ [(t', f, p)]) = accStr (items ++ [(t, f, p)]) := by
  unfold accStr; simp [pairStr]
theorem sizeOf'_last (items : accItems) (t t' : Addr) (f p : Str) : sizeOf' (items ++ [(t', f, p)]) = sizeOf' (items ++ [(t, f, p)]) := by
  rw [sizeOf'_snoc, sizeOf'_snoc]
noncomputable def pairD (f p : Str) : PyData := .tuple [.str f, .str p]
theorem pairD_shaped (f p : Str) (hf : PyData.strOk f = true) (hp : PyData.strOk p = true) : shaped (pairD f p) = true := by
  have h3 : PyData.depth (pairD f p) ≤ 64 := by
    unfold pairD
    simp only [PyData.depth, PyData.depthAll]; omega
  show (PyData.canLay0 (pairD f p) && decide (PyData.depth (pairD f p) ≤ 64)) = true
  rw [Bool.and_eq_true]
  refine ⟨?_, decide_eq_true h3⟩
  unfold pairD
  simp only [PyData.canLay0, PyData.canLayAll0, hf, hp]; rfl
theorem pairD_mix (f p g q : Str) : noMix (pairD f p) (pairD g q) = true := rfl
theorem pairD_same (f p g q : Str) : PySem.Spec.same (pairD f p) (pairD g q) = (f == g && (p == q && true)) := rfl
section
variable {w : World} {sc : Scope} {C : Ctxt w (K1 w) sc} {ρ : Frame} {σ σ' : Ledger}
theorem vnl {x d : Addr} {m : Int} {ls : Addr} {lines : List Str} {acc ad t : Addr} {items : accItems} {f p : Str} {n : Int} {T : Ledger} {Φ : AV → Frame → Ledger → Prop} (hd : 8 ≤ C.d) (ok : ItemsOk (items ++ [(t, f, p)])) (hT : TupsIn (items ++ [(t, f, p)]) T) (hok : PyData.strOk f = true ∧ PyData.strOk p = true) (hne : (f == Str.ofString " " && (p == (⟨#[]⟩ : Str) && true)) = false)
    (hn : 0 ≤ n ∧ n ≤ 1000000) (hpos : 0 < n + sizeOf' (items ++ [(t, f, p)])) (hs : n = 0 → Txt.isspace (accStr (items ++ [(t, f, p)])) = false) (hz : lines.length ≤ 1000)
    (h : Φ .none ρ (vfB x d m ls (lines ++ [accStr (items ++ [(t, f, p)])]) acc ad [] 0 T)) : WV P1 C ρ (vfB x d m ls lines acc ad (refsOf items ++ [.ref t]) n T) (call (.ref 56) [.ref x]) Φ := by
  have hsz := sizeLine_eq
  have hlen := ok.len
  rw [List.length_append, List.length_singleton] at hlen
  have hr : (refsOf items).length = items.length := by simp
  refine WC.call (WC.sub ?_)
  refine code_fn (args := [.ref x]) (names := [Str.ofString "self"]) (others := [Str.ofString "end_of_line"]) rfl (by omega) (fun h _ => ⟨_, BindsTo.of_eq rfl, .cons rfl .nil⟩) (by kernel_rfl) (by decide +kernel) (by decide +kernel) (by decide +kernel) rfl rfl rfl (fun C' hd' hcl => ?_)
  refine x_cons ?_
  refine x_asgL ?_
  refine ev_meth ?_
  refine ev_attr ?_
  refine ev_loc (.head _) ?_
  refine ga_own (.inst (.head _)) (mget 1 rfl) (by kernel_rfl) rfl rfl ?_
  refine tm_ownL (f := 138) (mget 3 rfl) (mget 4 rfl) (by kernel_rfl) rfl ?_
  refine cw_K0 (by kernel_rfl) ?_
  refine apop (by omega) (mget 4 rfl) (.tail (.tail (.tail .head))) (by omega) ?_
  refine ⟨_, .tail .head, ?_⟩
  refine x_cons ?_
  refine x_if ?_
  refine tst_cmp ?_
  refine ev_loc (mget 1 rfl) ?_
  refine ev_tuple ?_
  refine sp_cons ?_
  refine ev_str ?_
  refine sp_cons ?_
  refine ev_str ?_
  refine sp_nil ?_
  refine new_tuple (by show 2 ≤ _; omega) (fun e => ?_)
  have hmem : (t, AObj.tuple [.str f, .str p]) ∈ T := hT (t, f, p) (by simp)
  refine cmp_ne_data (da := pairD f p) (db := pairD (Str.ofString " ") ⟨#[]⟩) (r := false) (by omega) (.tuple (.tail _ (.tail _ (.tail _ (.tail _ (.tail _ (.tail _ (.tail _ (.tail _ hmem)))))))) (.cons (.str _) (.cons (.str _) .nil))) (.tuple (.head _) (.cons (.str _) (.cons (.str _) .nil))) (pairD_shaped _ _ hok.1 hok.2) (pairD_shaped _ _ (by decide +kernel) (by decide +kernel)) (pairD_mix _ _ _ _) ((pairD_same _ _ _ _).trans hne) ?_
  refine ⟨fun _ => ?_, fun hb => absurd hb (by decide)⟩
  refine x_cons ?_
  refine x_expr ?_
  refine ev_starM ?_
  refine ev_attr ?_
  refine ev_loc (.head _) ?_
  refine ga_own (.inst (mget 1 rfl)) (mget 2 rfl) (by kernel_rfl) rfl rfl ?_
  refine ⟨acc, 178, ad, _, _, 122, rfl, .tail _ (mget 3 rfl), .tail _ (mget 4 rfl), by kernel_rfl, rfl, fun b => ?_⟩
  refine ev_loc (mget 1 rfl) ?_
  refine ⟨.head _, t, _, rfl, .tail _ (.tail _ (.tail _ (.tail _ (.tail _ (.tail _ (.tail _ (.tail _ (.tail _ hmem)))))))), by show 2 ≤ 1000; omega, fun vs hvs => ?_⟩
  obtain ⟨v1, v2, rfl, ⟨t1, rfl⟩, ⟨t2, rfl⟩⟩ := hvs.two
  refine apushC (n := n) (by omega) (mget 6 rfl) (by omega) (fun t' => ⟨_, .tail (.tail (.tail (.tail (.tail .head)))), ?_⟩)
  refine W.less (σ' := (t', .tuple [.str f, .str p]) :: (e, .tuple [.str (Str.ofString " "), .str ⟨#[]⟩]) :: vfB x d m ls lines acc ad (refsOf items ++ [.ref t']) n T) (.cons_cons _ (.cons _ (.refl _))) ?_
  have eR : refsOf items ++ [AV.ref t'] = (items ++ [(t', f, p)]).map fun i => AV.ref i.1 := by simp [refsOf]
  rw [eR]
  have X : AccAt ((t', .tuple [.str f, .str p]) :: (e, .tuple [.str (Str.ofString " "), .str ⟨#[]⟩]) :: vfB x d m ls lines acc ad ((items ++ [(t', f, p)]).map fun i => AV.ref i.1) n T) acc ad (items ++ [(t', f, p)]) n :=
    ⟨.tail _ (mget 4 rfl), .tail _ (mget 5 rfl), fun i hi => by
      have := (TupsIn.cons (t := t') (f := f) (p := p) (fun j hj => hT j (List.mem_append_left _ hj))) i hi
      rcases List.mem_cons.mp this with e | hm
      · rw [e]; exact .head _
      · exact .tail _ (.tail _ (.tail _ (.tail _ (.tail _ (.tail _ (.tail _ (.tail _ (.tail _ hm)))))))),
    ok.snoc.ln, Nat.le_trans ok.snoc.len (by decide)⟩
  have mT1 : (140, AObj.table) ∈ ((t', AObj.tuple [.str f, .str p]) :: (e, .tuple [.str (Str.ofString " "), .str ⟨#[]⟩]) :: vfB x d m ls lines acc ad ((items ++ [(t', f, p)]).map fun i => AV.ref i.1) n T) := .tail _ (mget 6 rfl)
  have mT2 : (147, AObj.table) ∈ ((t', AObj.tuple [.str f, .str p]) :: (e, .tuple [.str (Str.ofString " "), .str ⟨#[]⟩]) :: vfB x d m ls lines acc ad ((items ++ [(t', f, p)]).map fun i => AV.ref i.1) n T) := .tail _ (mget 7 rfl)
  refine x_nil ?_
  refine x_cons ?_
  refine x_if ?_
  refine tst_cmp ?_
  refine ev_callB rfl (by boot_fast) (by decide) ?_
  refine sp_cons ?_
  refine ev_attr ?_
  refine ev_loc (.head _) ?_
  refine ga_own (.inst (mget 2 rfl)) (mget 3 rfl) (by kernel_rfl) rfl rfl ?_
  refine sp_nil ?_
  refine len_acc (by omega) X hn mT1 ?_
  refine ev_int ?_
  refine cmp_gt_ii ?_
  refine ⟨fun _ => ?_, fun hb => ?_⟩
  · refine x_cons ?_
    refine x_if ?_
    refine tst_and ?_
    refine tst_plain ?_
    refine ev_meth ?_
    refine ev_attr ?_
    refine ev_loc (.head _) ?_
    refine ga_own (.inst (mget 2 rfl)) (mget 3 rfl) (by kernel_rfl) rfl rfl ?_
    refine tm_ownL (f := 167) X.hx X.hd (by kernel_rfl) rfl ?_
    refine cw_K0 (by kernel_rfl) ?_
    refine aonly (by omega) X hn mT1 mT2 (fun e0 => ⟨by rw [sizeOf'_last items t t']; omega, by rw [accStr_last items t t']; exact hs e0⟩) ?_
    refine tr_bool ?_
    refine ⟨fun hb => absurd hb (by decide), fun _ => ⟨fun hb => absurd hb (by decide), fun _ => ?_⟩⟩
    refine x_cons ?_
    refine x_expr ?_
    refine ev_meth ?_
    refine ev_attr ?_
    refine ev_loc (.head _) ?_
    refine ga_own (.inst (mget 2 rfl)) (mget 3 rfl) (by kernel_rfl) rfl rfl ?_
    refine tm_append (mget 4 rfl) ?_
    refine cw_b ?_
    refine sp_cons ?_
    refine ev_callT rfl (by boot_fast) (by decide) ?_
    refine sp_cons ?_
    refine ev_attr ?_
    refine ev_loc (.head _) ?_
    refine ga_own (.inst (mget 2 rfl)) (mget 3 rfl) (by kernel_rfl) rfl rfl ?_
    refine sp_nil ?_
    refine str_acc (by omega) X mT2 ?_
    refine sp_nil ?_
    refine call_append (.tail (.tail (.tail (.tail .head)))) (by rw [List.length_map]; omega) ?_
    refine x_nil ?_
    refine x_nil ?_
    refine x_cons ?_
    refine x_expr ?_
    refine ev_meth ?_
    refine ev_attr ?_
    refine ev_loc (.head _) ?_
    refine ga_own (.inst (mget 2 rfl)) (mget 3 rfl) (by kernel_rfl) rfl rfl ?_
    refine tm_ownL (f := 160) (mget 5 rfl) (mget 6 rfl) (by kernel_rfl) rfl ?_
    refine cw_K0 (by kernel_rfl) ?_
    refine areset0 (n := n) (by omega) (mget 6 rfl) (.tail (.tail (.tail (.tail (.tail .head))))) (.tail (.tail (.tail (.tail (.tail (.tail .head)))))) (by rw [List.length_map, List.length_append, List.length_singleton]; omega) ?_
    refine x_nil ?_
    refine ⟨_, .cons _ (.cons _ (.refl _)), ?_⟩
    rw [accStr_last items t t']
    have e2 : lines.map AV.str ++ [AV.str (accStr (items ++ [(t, f, p)]))] = (lines ++ [accStr (items ++ [(t, f, p)])]).map AV.str := by simp
    rw [e2]
    exact h
  · exfalso
    rw [sizeOf'_last items t t'] at hb
    simp at hb
    omega
end
end Mine
end
section -- G14
open PySem PySem.W PySem.Calls PyProof.Rows PySem.SeqAt
set_option Elab.async false
set_option maxRecDepth 100000
set_option linter.unusedVariables false
namespace Mine
theorem vfB_push {x d : Addr} {m : Int} {ls : Addr} {lines : List Str} {acc ad t : Addr} {xs : List AV} {n : Int} {T : Ledger} {o : AObj} : ((t, o) :: vfB x d m ls lines acc ad xs n T).Perm (vfB x d m ls lines acc ad xs n ((t, o) :: T)) :=
  (List.perm_middle (l₁ := [(x, AObj.inst 94 d), (d, .dict (vfD m ls acc)), (ls, .list (lines.map .str)), (acc, .acc 178 ad xs), (ad, .dict (accD n)), (140, .table), (147, .table)])).symm
theorem acc_of {x d : Addr} {m : Int} {ls : Addr} {lines : List Str} {acc ad : Addr} {items : accItems} {n : Int} {T : Ledger} (ok : ItemsOk items) (hT : TupsIn items T) : AccAt (vfB x d m ls lines acc ad (refsOf items) n T) acc ad items n :=
  ⟨.tail _ (mget 2 rfl), .tail _ (mget 3 rfl), fun i hi => .tail _ (.tail _ (.tail _ (.tail _ (.tail _ (.tail _ (.tail _ (hT i hi))))))), ok.ln, Nat.le_trans ok.len (by decide)⟩
section
variable {w : World} {sc : Scope} {C : Ctxt w (K1 w) sc} {ρ : Frame} {σ σ' : Ledger}
theorem vapp_fit {x d : Addr} {m : Int} {ls : Addr} {lines : List Str} {acc ad : Addr} {items : accItems} {f p : Str} {tf tp : Tok} {n : Int} {T : Ledger} {Φ : AV → Frame → Ledger → Prop} (hd : 4 ≤ C.d) (ok : ∀ t, ItemsOk (items ++ [(t, f, p)])) (hT : TupsIn items T)
    (hn : 0 ≤ n ∧ n ≤ 1000000) (hfit : n + sizeOf' items + ((f.length : Int) + p.length) ≤ m)
    (h : ∀ t, Φ .none ρ (vfB x d m ls lines acc ad (refsOf items ++ [.ref t]) n ((t, .tuple [.str f, .str p]) :: T))) : WV P1 C ρ (vfB x d m ls lines acc ad (refsOf items) n T) (call (.ref 91) [.ref x, .str f tf, .str p tp]) Φ := by
  have hsz := sizeLine_eq
  have hlen := (ok 0).len
  rw [List.length_append, List.length_singleton] at hlen
  have hr : (refsOf items).length = items.length := by simp
  refine WC.call ?_
  refine code_fn (args := [.ref x, .str f, .str p]) (names := [Str.ofString "self", Str.ofString "fws", Str.ofString "string"]) (others := [Str.ofString "ch", Str.ofString "i", Str.ofString "prevpart", Str.ofString "part", Str.ofString "remainder"]) rfl (by omega) (fun h _ => ⟨_, BindsTo.of_eq rfl, .cons rfl (.cons ⟨tf, rfl⟩ (.cons ⟨tp, rfl⟩ .nil))⟩) (by kernel_rfl) (by decide +kernel) (by decide +kernel) (by decide +kernel) rfl rfl rfl (fun C' hd' hcl => ?_)
  refine x_cons ?_
  refine x_expr ?_
  refine ev_meth ?_
  refine ev_attr ?_
  refine ev_loc (.head _) ?_
  refine ga_own (.inst (.head _)) (mget 1 rfl) (by kernel_rfl) rfl rfl ?_
  refine tm_ownL (f := 122) (mget 3 rfl) (mget 4 rfl) (by kernel_rfl) rfl ?_
  refine cw_K (by kernel_rfl) ?_
  refine sp_cons ?_
  refine ev_loc (mget 1 rfl) ?_
  refine sp_cons ?_
  refine ev_loc (mget 2 rfl) ?_
  refine sp_nil ?_
  refine th_ss fun t1 t2 => ?_
  refine apush (n := n) (by omega) (mget 4 rfl) (by omega) (fun t => ⟨_, .tail (.tail (.tail .head)), ?_⟩)
  refine W.perm vfB_push ?_
  have eR : refsOf items ++ [AV.ref t] = refsOf (items ++ [(t, f, p)]) := by simp [refsOf]
  have hh := h t
  rw [eR] at hh ⊢
  have X := acc_of (x := x) (d := d) (m := m) (ls := ls) (lines := lines) (acc := acc) (ad := ad) (n := n) (ok t) (hT.cons (t := t) (f := f) (p := p))
  refine x_cons ?_
  refine x_if ?_
  refine tst_cmp ?_
  refine ev_callB rfl (by boot_fast) (by decide) ?_
  refine sp_cons ?_
  refine ev_attr ?_
  refine ev_loc (.head _) ?_
  refine ga_own (.inst (.head _)) (mget 1 rfl) (by kernel_rfl) rfl rfl ?_
  refine sp_nil ?_
  refine len_acc (by omega) X hn (mget 5 rfl) ?_
  refine ev_attr ?_
  refine ev_loc (.head _) ?_
  refine ga_own (.inst (.head _)) (mget 1 rfl) (by kernel_rfl) rfl rfl ?_
  refine cmp_gt_ii ?_
  refine ⟨fun hb => ?_, fun hb => ?_⟩
  · exfalso
    rw [sizeOf'_snoc] at hb
    simp at hb
    omega
  refine x_nil ?_
  refine x_nil ?_
  exact hh
theorem vapp_over {x d : Addr} {m : Int} {ls : Addr} {lines : List Str} {acc ad : Addr} {items : accItems} {f p : Str} {tf tp : Tok} {n : Int} {T : Ledger} {Φ : AV → Frame → Ledger → Prop} (hd : 6 ≤ C.d) (ok : ∀ t, ItemsOk (items ++ [(t, f, p)])) (hT : TupsIn items T)
    (hn : 0 ≤ n ∧ n ≤ 1000000) (hover : m < n + sizeOf' items + ((f.length : Int) + p.length)) (hne : items ≠ []) (hf : f.cps.toList[0]? = some 32) (hz : lines.length ≤ 1000)
    (h : ∀ t, Φ .none ρ (vfB x d m ls (lines ++ [accStr items]) acc ad [.ref t] 0 ((t, .tuple [.str f, .str p]) :: T))) : WV P1 C ρ (vfB x d m ls lines acc ad (refsOf items) n T) (call (.ref 91) [.ref x, .str f tf, .str p tp]) Φ := by
  have hsz := sizeLine_eq
  have hlen := (ok 0).len
  rw [List.length_append, List.length_singleton] at hlen
  have hpos : 0 < items.length := List.length_pos_iff.mpr hne
  have hfl : 0 < f.length := by
    have := (List.getElem?_eq_some_iff.mp hf).1
    simpa [Str.length] using this
  have hfl2 : f.length ≤ 1000 := ((ok 0).ln (0, f, p) (by simp)).1
  have hr : (refsOf items).length = items.length := by simp
  refine WC.call (WC.sub ?_)
  refine code_fn (args := [.ref x, .str f, .str p]) (names := [Str.ofString "self", Str.ofString "fws", Str.ofString "string"]) (others := [Str.ofString "ch", Str.ofString "i", Str.ofString "prevpart", Str.ofString "part", Str.ofString "remainder"]) rfl (by omega) (fun h _ => ⟨_, BindsTo.of_eq rfl, .cons rfl (.cons ⟨tf, rfl⟩ (.cons ⟨tp, rfl⟩ .nil))⟩) (by kernel_rfl) (by decide +kernel) (by decide +kernel) (by decide +kernel) rfl rfl rfl (fun C' hd' hcl => ?_)
  refine x_cons ?_
  refine x_expr ?_
  refine ev_meth ?_
  refine ev_attr ?_
  refine ev_loc (.head _) ?_
  refine ga_own (.inst (.head _)) (mget 1 rfl) (by kernel_rfl) rfl rfl ?_
  refine tm_ownL (f := 122) (mget 3 rfl) (mget 4 rfl) (by kernel_rfl) rfl ?_
  refine cw_K (by kernel_rfl) ?_
  refine sp_cons ?_
  refine ev_loc (mget 1 rfl) ?_
  refine sp_cons ?_
  refine ev_loc (mget 2 rfl) ?_
  refine sp_nil ?_
  refine th_ss fun t1 t2 => ?_
  refine apush (n := n) (by omega) (mget 4 rfl) (by omega) (fun t => ⟨_, .tail (.tail (.tail .head)), ?_⟩)
  refine W.perm vfB_push ?_
  have eR : refsOf items ++ [AV.ref t] = refsOf (items ++ [(t, f, p)]) := by simp [refsOf]
  have hh := h t
  rw [eR]
  have hT' := hT.cons (t := t) (f := f) (p := p)
  have X := acc_of (x := x) (d := d) (m := m) (ls := ls) (lines := lines) (acc := acc) (ad := ad) (n := n) (ok t) hT'
  have hlast : (refsOf (items ++ [(t, f, p)]))[((items.length : Int)).toNat]? = some (.ref t) := by
    rw [Int.toNat_natCast, ← eR, List.getElem?_append_right (by rw [hr]; exact Nat.le_refl _), hr]
    simp
  have hmemt : (t, AObj.tuple [.str f, .str p]) ∈ ((t, AObj.tuple [.str f, .str p]) :: T) := .head _
  refine x_cons ?_
  refine x_if ?_
  refine tst_cmp ?_
  refine ev_callB rfl (by boot_fast) (by decide) ?_
  refine sp_cons ?_
  refine ev_attr ?_
  refine ev_loc (.head _) ?_
  refine ga_own (.inst (.head _)) (mget 1 rfl) (by kernel_rfl) rfl rfl ?_
  refine sp_nil ?_
  refine len_acc (by omega) X hn (mget 5 rfl) ?_
  refine ev_attr ?_
  refine ev_loc (.head _) ?_
  refine ga_own (.inst (.head _)) (mget 1 rfl) (by kernel_rfl) rfl rfl ?_
  refine cmp_gt_ii ?_
  refine ⟨fun hb => ?_, fun hb => ?_⟩
  · refine x_cons ?_
    refine x_forV ?_
    refine ev_attr ?_
    refine ev_loc (.head _) ?_
    refine ga_own (.inst (.head _)) (mget 1 rfl) (by kernel_rfl) rfl rfl ?_
    refine ⟨(Str.ofString " ").cps.toList.map fun c => AV.str ⟨#[c]⟩, fun _ => True, fun v hv => ?_, trivial, ?_⟩
    · obtain ⟨t, rfl⟩ := hv
      exact ⟨_, spec_str (by decide +kernel)⟩
    refine ⟨fun j ρ' σ' => j = 0 ∧ ρ' = [(Str.ofString "self", some (.ref x)), (Str.ofString "fws", some (.str f)), (Str.ofString "string", some (.str p)), (Str.ofString "ch", none), (Str.ofString "i", none), (Str.ofString "prevpart", none), (Str.ofString "part", none), (Str.ofString "remainder", none)] ∧ σ' = vfB x d m ls lines acc ad (refsOf (items ++ [(t, f, p)])) n ((t, .tuple [.str f, .str p]) :: T), ⟨rfl, rfl, rfl⟩, fun _ _ _ _ => trivial, ?_, ?_⟩
    · rintro j b _ _ ⟨rfl, rfl, rfl⟩ hx' vb hb'
      have eb : b = .str (Str.ofString " ") := by
        have e1 : (Str.ofString " ").cps.toList = [32] := by decide +kernel
        have e2 : (⟨#[32]⟩ : Str) = Str.ofString " " := by decide +kernel
        rw [e1] at hx'
        have e3 : some (AV.str ⟨#[32]⟩) = some b := hx'
        rw [e2] at e3
        exact (Option.some.inj e3).symm
      subst eb
      refine st_loc (.tail (.tail (.tail .head))) hb' ?_
      refine x_cons ?_
      refine x_for ?_
      refine ev_callT rfl (by boot_fast) (by decide) ?_
      refine sp_cons ?_
      refine ev_bin ?_
      refine ev_meth ?_
      refine ev_attr ?_
      refine ev_loc (.head _) ?_
      refine ga_own (.inst (.head _)) (mget 1 rfl) (by kernel_rfl) rfl rfl ?_
      refine tm_ownL (f := 175) X.hx X.hd (by kernel_rfl) rfl ?_
      refine cw_K0 (by kernel_rfl) ?_
      refine apc (by omega) X.hx X.hd ?_
      refine ev_int ?_
      refine op_sub_ii ?_
      refine sp_cons ?_
      refine ev_int ?_
      refine sp_cons ?_
      refine ev_usub ?_
      refine ev_int ?_
      refine ⟨_, rfl, ?_⟩
      refine sp_nil ?_
      have ec : ((((items ++ [(t, f, p)]).map fun i => AV.ref i.1).length : Int) - 1) = (items.length : Int) := by simp
      rw [ec]
      refine mk_range3 (by decide) (PyProof.noPylong_small (by decide)) (fun r => ?_)
      refine ⟨_, _, _, _, rfl, fun _ e => e, src_down (n := items.length) (by omega), .head _, fun j ρ' σ' => j = 0 ∧ ρ' = [(Str.ofString "self", some (.ref x)), (Str.ofString "fws", some (.str f)), (Str.ofString "string", some (.str p)), (Str.ofString "ch", some (.str (Str.ofString " "))), (Str.ofString "i", none), (Str.ofString "prevpart", none), (Str.ofString "part", none), (Str.ofString "remainder", none)] ∧ σ' = (r, .range items.length 0 (-1)) :: vfB x d m ls lines acc ad (refsOf (items ++ [(t, f, p)])) n ((t, .tuple [.str f, .str p]) :: T), ⟨rfl, rfl, rfl⟩, ?_, ?_, ?_⟩
      · rintro j _ _ ⟨_, rfl, rfl⟩; exact .head _
      · rintro j b _ _ ⟨rfl, rfl, rfl⟩ hx' vb hb'
        have eb : b = .int (items.length : Int) := by
          rw [List.getElem?_map, List.getElem?_range hpos, Option.map_some] at hx'
          have e3 := Option.some.inj hx'
          rw [← e3]
          congr 1
        subst eb
        refine st_loc (.tail (.tail (.tail (.tail .head)))) hb' ?_
        refine x_cons ?_
        refine x_if ?_
        refine tst_plain ?_
        refine ev_meth ?_
        refine ev_loc (mget 3 rfl) ?_
        refine tm_str PySem.F.slot_str_isspace PySem.F.type_str_isspace (fun tq => ?_)
        refine cw_b0 ?_
        refine call_isspace ?_
        refine tr_bool ?_
        refine ⟨fun _ => ?_, fun hb2 => absurd hb2 (by decide +kernel)⟩
        refine x_cons ?_
        refine x_asgL ?_
        refine ev_sub ?_
        refine ev_sub ?_
        refine ev_attr ?_
        refine ev_loc (.head _) ?_
        refine ga_own (.inst (mget 1 rfl)) (mget 2 rfl) (by kernel_rfl) rfl rfl ?_
        refine ev_loc (mget 4 rfl) ?_
        refine sub_acc (.tail _ X.hx) (.tail _ X.hd) (by kernel_rfl) (by omega) (by omega) hlast ?_
        refine ev_int ?_
        refine sub_tuple (.tail _ (.tail _ (.tail _ (.tail _ (.tail _ (.tail _ (.tail _ (.tail _ hmemt)))))))) (by decide) (by decide) rfl ?_
        refine ⟨_, .tail .head, ?_⟩
        refine x_cons ?_
        refine x_if ?_
        refine tst_and ?_
        refine tst_plain ?_
        refine ev_loc (mget 1 rfl) ?_
        refine tr_str (by omega) ?_
        refine ⟨fun _ => ?_, fun hb2 => ?_⟩
        · refine tst_cmp ?_
          refine ev_sub ?_
          refine ev_loc (mget 1 rfl) ?_
          refine ev_int ?_
          refine sub_str (by decide) (by decide) hf ?_
          refine ev_loc (mget 3 rfl) ?_
          refine cmp_eq_ss ?_
          refine ⟨fun _ => ?_, fun hb3 => absurd hb3 (by decide +kernel)⟩
          refine x_cons ?_
          refine x_brk ?_
          refine x_cons ?_
          refine x_brk ?_
          refine W.less (σ' := vfB x d m ls lines acc ad (refsOf (items ++ [(t, f, p)])) n ((t, .tuple [.str f, .str p]) :: T)) (.cons _ (.refl _)) ?_
          refine x_cons ?_
          refine x_asgL ?_
          refine ev_meth ?_
          refine ev_attr ?_
          refine ev_loc (.head _) ?_
          refine ga_own (.inst (.head _)) (mget 1 rfl) (by kernel_rfl) rfl rfl ?_
          refine tm_ownL (f := 130) X.hx X.hd (by kernel_rfl) rfl ?_
          refine cw_K (by kernel_rfl) ?_
          refine sp_cons ?_
          refine ev_loc (mget 4 rfl) ?_
          refine sp_nil ?_
          refine th_i fun tv => ?_
          have et : (refsOf (items ++ [(t, f, p)])).take items.length = refsOf items := by rw [← eR, ← hr, List.take_left']; rfl
          have ed : (refsOf (items ++ [(t, f, p)])).drop items.length = [.ref t] := by rw [← eR, ← hr, List.drop_left']; rfl
          refine apopfrom (n := n) (xs := refsOf (items ++ [(t, f, p)])) (by omega) X.hd (.tail (.tail (.tail .head))) (by rw [← eR, List.length_append, hr]; omega) (by rw [← eR, List.length_append, hr, List.length_singleton]; omega) (fun a => ?_)
          rw [et, ed]
          refine ⟨_, .tail (.tail (.tail (.tail (.tail (.tail (.tail .head)))))), ?_⟩
          have X2 := acc_of (x := x) (d := d) (m := m) (ls := ls) (lines := lines) (acc := acc) (ad := ad) (n := n) (items := items) (T := (t, .tuple [.str f, .str p]) :: T) ⟨fun i hi => (ok 0).ln i (List.mem_append_left _ hi), by omega⟩ (fun i hi => .tail _ (hT i hi))
          have X3 : AccAt ((a, .list [.ref t]) :: vfB x d m ls lines acc ad (refsOf items) n ((t, .tuple [.str f, .str p]) :: T)) acc ad items n := ⟨.tail _ X2.hx, .tail _ X2.hd, fun i hi => .tail _ (X2.ts i hi), X2.ln, X2.len⟩
          refine x_cons ?_
          refine x_expr ?_
          refine ev_meth ?_
          refine ev_attr ?_
          refine ev_loc (.head _) ?_
          refine ga_own (.inst (mget 1 rfl)) (mget 2 rfl) (by kernel_rfl) rfl rfl ?_
          refine tm_append (mget 3 rfl) ?_
          refine cw_b ?_
          refine sp_cons ?_
          refine ev_callT rfl (by boot_fast) (by decide) ?_
          refine sp_cons ?_
          refine ev_attr ?_
          refine ev_loc (.head _) ?_
          refine ga_own (.inst (mget 1 rfl)) (mget 2 rfl) (by kernel_rfl) rfl rfl ?_
          refine sp_nil ?_
          refine str_acc (by omega) X3 (mget 7 rfl) ?_
          refine sp_nil ?_
          refine call_append (.tail (.tail (.tail .head))) (by rw [List.length_map]; omega) ?_
          refine x_cons ?_
          refine x_expr ?_
          refine ev_meth ?_
          refine ev_attr ?_
          refine ev_loc (.head _) ?_
          refine ga_own (.inst (mget 1 rfl)) (mget 2 rfl) (by kernel_rfl) rfl rfl ?_
          refine tm_ownL (f := 160) (mget 4 rfl) (mget 5 rfl) (by kernel_rfl) rfl ?_
          refine cw_K (by kernel_rfl) ?_
          refine sp_cons ?_
          refine ev_loc (mget 7 rfl) ?_
          refine sp_nil ?_
          refine th_r ?_
          refine areset1 (n := n) (by omega) (mget 5 rfl) (.head _) (.tail (.tail (.tail (.tail .head)))) (.tail (.tail (.tail (.tail (.tail .head))))) (by rw [hr]; omega) (by show 1 ≤ 1000; omega) ?_
          refine x_nil ?_
          refine x_nil ?_
          refine ⟨_, .cons _ (.refl _), ?_⟩
          have e2 : lines.map AV.str ++ [AV.str (accStr items)] = (lines ++ [accStr items]).map AV.str := by simp
          rw [e2]
          exact hh
        · exfalso
          simp at hb2
          omega
      · rintro _ _ ⟨hj, _, _⟩
        exfalso
        rw [List.length_map, List.length_range] at hj
        omega
    · rintro _ _ ⟨hj, _, _⟩
      exfalso
      have e1 : (Str.ofString " ").cps.toList = [32] := by decide +kernel
      rw [e1] at hj
      simp at hj
  · exfalso
    rw [sizeOf'_snoc] at hb
    simp at hb
    omega
end
end Mine
end
section -- G15
open PySem PySem.W PySem.Calls PyProof.Rows PySem.SeqAt
set_option Elab.async false
set_option maxRecDepth 100000
set_option linter.unusedVariables false
namespace Mine
section
variable {w : World} {sc : Scope} {C : Ctxt w (K1 w) sc} {ρ : Frame} {σ σ' : Ledger}
theorem vstr {x d : Addr} {m : Int} {ls : Addr} {lines : List Str} {acc ad t : Addr} {items : accItems} {f p : Str} {ts : Tok} {n : Int} {T : Ledger} {Φ : AV → Frame → Ledger → Prop} (hd : 10 ≤ C.d) (ok : ItemsOk (items ++ [(t, f, p)])) (hT : TupsIn (items ++ [(t, f, p)]) T) (hok : PyData.strOk f = true ∧ PyData.strOk p = true) (hne : (f == Str.ofString " " && (p == (⟨#[]⟩ : Str) && true)) = false)
    (hn : 0 ≤ n ∧ n ≤ 1000000) (hpos : 0 < n + sizeOf' (items ++ [(t, f, p)])) (hs : n = 0 → Txt.isspace (accStr (items ++ [(t, f, p)])) = false) (hz : lines.length ≤ 900)
    (hsum : ((lines ++ [accStr (items ++ [(t, f, p)])]).map (·.length)).sum ≤ 1000000)
    (h : Φ (.str (Txt.join (Str.ofString "\n") (lines ++ [accStr (items ++ [(t, f, p)])]))) ρ (vfB x d m ls (lines ++ [accStr (items ++ [(t, f, p)])]) acc ad [] 0 T)) : WV P1 C ρ (vfB x d m ls lines acc ad (refsOf items ++ [.ref t]) n T) (call (.ref 42) [.ref x, .str (Str.ofString "\n") ts]) Φ := by
  have hsz := sizeLine_eq
  refine WC.call ?_
  refine code_fn (args := [.ref x, .str (Str.ofString "\n")]) (names := [Str.ofString "self", Str.ofString "linesep"]) (others := []) rfl (by omega) (fun h _ => ⟨_, BindsTo.of_eq rfl, .cons rfl (.cons ⟨ts, rfl⟩ .nil)⟩) (by kernel_rfl) (by decide +kernel) (by decide +kernel) (by decide +kernel) rfl rfl rfl (fun C' hd' hcl => ?_)
  refine x_cons ?_
  refine x_expr ?_
  refine ev_meth ?_
  refine ev_loc (.head _) ?_
  refine tm_own (f := 56) (.inst (.head _)) (mget 1 rfl) (by kernel_rfl) rfl ?_
  refine cw_K0 (by kernel_rfl) ?_
  refine vnl (by omega) ok hT hok hne hn hpos hs (by omega) ?_
  refine x_cons ?_
  refine x_ret ?_
  refine ev_meth ?_
  refine ev_loc (mget 1 rfl) ?_
  refine tm_str PySem.F.slot_str_join PySem.F.type_str_join (fun tq => ?_)
  refine cw_b ?_
  refine sp_cons ?_
  refine ev_attr ?_
  refine ev_loc (.head _) ?_
  refine ga_own (.inst (.head _)) (mget 1 rfl) (by kernel_rfl) rfl rfl ?_
  refine sp_nil ?_
  refine call_join_list (ys := lines ++ [accStr (items ++ [(t, f, p)])]) (mget 2 rfl) (by decide +kernel) ?_ ?_
  · have : (lines ++ [accStr (items ++ [(t, f, p)])]).length = lines.length + 1 := by simp
    omega
  · exact h
end
end Mine
end
section -- G19
open PySem PySem.W PySem.Calls PyProof.Rows PySem.SeqAt
set_option Elab.async false
set_option maxRecDepth 100000
set_option linter.unusedVariables false
-- mget
namespace Mine
noncomputable abbrev e0S : Str := ⟨#[]⟩
theorem acc_e0 (t : Addr) : accStr [(t, e0S, e0S)] = e0S := by
  refine Str.ext' (Array.toList_inj.mp ?_)
  rw [accStr_list]; rfl
theorem size_e0 (t : Addr) : sizeOf' [(t, e0S, e0S)] = 0 := rfl
section
variable {w : World} {sc : Scope} {C : Ctxt w (K1 w) sc} {ρ : Frame} {σ σ' : Ledger}
/-- a new line where nothing but the head stands -/
theorem vnl0 {x d : Addr} {m : Int} {ls : Addr} {lines : List Str} {acc ad : Addr} {n : Int} {T : Ledger} {Φ : AV → Frame → Ledger → Prop} (hd : 8 ≤ C.d) (hn : 0 < n ∧ n ≤ 1000000) (hz : lines.length ≤ 1000)
    (h : Φ .none ρ (vfB x d m ls (lines ++ [e0S]) acc ad [] 0 T)) : WV P1 C ρ (vfB x d m ls lines acc ad [] n T) (call (.ref 56) [.ref x]) Φ := by
  have hsz := sizeLine_eq
  refine WC.call (WC.sub ?_)
  refine code_fn (args := [.ref x]) (names := [Str.ofString "self"]) (others := [Str.ofString "end_of_line"]) rfl (by omega) (fun h _ => ⟨_, BindsTo.of_eq rfl, .cons rfl .nil⟩) (by kernel_rfl) (by decide +kernel) (by decide +kernel) (by decide +kernel) rfl rfl rfl (fun C' hd' hcl => ?_)
  refine x_cons ?_
  refine x_asgL ?_
  refine ev_meth ?_
  refine ev_attr ?_
  refine ev_loc (.head _) ?_
  refine ga_own (.inst (.head _)) (mget 1 rfl) (by kernel_rfl) rfl rfl ?_
  refine tm_ownL (f := 138) (mget 3 rfl) (mget 4 rfl) (by kernel_rfl) rfl ?_
  refine cw_K0 (by kernel_rfl) ?_
  refine apop0 (n := n) (by omega) (mget 3 rfl) (mget 4 rfl) (fun t => ?_)
  refine ⟨_, (.tail (.head)), ?_⟩
  refine x_cons ?_
  refine x_if ?_
  refine tst_cmp ?_
  refine ev_loc (mget 1 rfl) ?_
  refine ev_tuple ?_
  refine sp_cons ?_
  refine ev_str ?_
  refine sp_cons ?_
  refine ev_str ?_
  refine sp_nil ?_
  refine new_tuple (by show 2 ≤ _; omega) (fun e => ?_)
  refine cmp_ne_data (da := pairD e0S e0S) (db := pairD (Str.ofString " ") ⟨#[]⟩) (r := false) (by omega) (.tuple (mget 1 rfl) (.cons (.str _) (.cons (.str _) .nil))) (.tuple (.head _) (.cons (.str _) (.cons (.str _) .nil))) (pairD_shaped _ _ (by decide +kernel) (by decide +kernel)) (pairD_shaped _ _ (by decide +kernel) (by decide +kernel)) (pairD_mix _ _ _ _) (by rw [pairD_same]; decide +kernel) ?_
  refine ⟨fun _ => ?_, fun hb => absurd hb (by decide)⟩
  refine x_cons ?_
  refine x_expr ?_
  refine ev_starM ?_
  refine ev_attr ?_
  refine ev_loc (.head _) ?_
  refine ga_own (.inst (mget 2 rfl)) (mget 3 rfl) (by kernel_rfl) rfl rfl ?_
  refine ⟨acc, 178, ad, _, _, 122, rfl, (mget 5 rfl), (mget 6 rfl), by kernel_rfl, rfl, fun b => ?_⟩
  refine ev_loc (mget 1 rfl) ?_
  refine ⟨.head _, t, _, rfl, (mget 2 rfl), by show 2 ≤ 1000; omega, fun vs hvs => ?_⟩
  obtain ⟨v1, v2, rfl, ⟨t1, rfl⟩, ⟨t2, rfl⟩⟩ := hvs.two
  refine apushC (n := n) (by omega) (mget 7 rfl) (by show 0 < 1000; omega) (fun t' => ⟨_, (.tail (.tail (.tail (.tail (.tail (.tail (.head))))))), ?_⟩)
  refine W.less (σ' := (t', .tuple [.str e0S, .str e0S]) :: vfB x d m ls lines acc ad [.ref t'] n T) (.cons_cons _ (.cons _ (.cons _ (.cons _ (.refl _))))) ?_
  have X : AccAt ((t', .tuple [.str e0S, .str e0S]) :: vfB x d m ls lines acc ad [.ref t'] n T) acc ad [(t', e0S, e0S)] n :=
    ⟨(mget 4 rfl), (mget 5 rfl), fun i hi => by rw [List.mem_singleton.mp hi]; exact (.head _), fun i hi => by rw [List.mem_singleton.mp hi]; exact ⟨Nat.zero_le _, Nat.zero_le _⟩, by show 1 ≤ 100; omega⟩
  refine x_nil ?_
  refine x_cons ?_
  refine x_if ?_
  refine tst_cmp ?_
  refine ev_callB rfl (by boot_fast) (by decide) ?_
  refine sp_cons ?_
  refine ev_attr ?_
  refine ev_loc (.head _) ?_
  refine ga_own (.inst (mget 1 rfl)) (mget 2 rfl) (by kernel_rfl) rfl rfl ?_
  refine sp_nil ?_
  refine len_acc (by omega) X ⟨by omega, hn.2⟩ (mget 6 rfl) ?_
  refine ev_int ?_
  refine cmp_gt_ii ?_
  refine ⟨fun _ => ?_, fun hb => ?_⟩
  · refine x_cons ?_
    refine x_if ?_
    refine tst_and ?_
    refine tst_plain ?_
    refine ev_meth ?_
    refine ev_attr ?_
    refine ev_loc (.head _) ?_
    refine ga_own (.inst (mget 1 rfl)) (mget 2 rfl) (by kernel_rfl) rfl rfl ?_
    refine tm_ownL (f := 167) X.hx X.hd (by kernel_rfl) rfl ?_
    refine cw_K0 (by kernel_rfl) ?_
    refine aonly (by omega) X ⟨by omega, hn.2⟩ (mget 6 rfl) (mget 7 rfl) (fun e0 => absurd e0 (by omega)) ?_
    refine tr_bool ?_
    refine ⟨fun hb => absurd hb (by decide), fun _ => ⟨fun hb => absurd hb (by decide), fun _ => ?_⟩⟩
    refine x_cons ?_
    refine x_expr ?_
    refine ev_meth ?_
    refine ev_attr ?_
    refine ev_loc (.head _) ?_
    refine ga_own (.inst (mget 1 rfl)) (mget 2 rfl) (by kernel_rfl) rfl rfl ?_
    refine tm_append (mget 3 rfl) ?_
    refine cw_b ?_
    refine sp_cons ?_
    refine ev_callT rfl (by boot_fast) (by decide) ?_
    refine sp_cons ?_
    refine ev_attr ?_
    refine ev_loc (.head _) ?_
    refine ga_own (.inst (mget 1 rfl)) (mget 2 rfl) (by kernel_rfl) rfl rfl ?_
    refine sp_nil ?_
    refine str_acc (by omega) X (mget 7 rfl) ?_
    refine sp_nil ?_
    refine call_append (.tail (.tail (.tail (.head)))) (by rw [List.length_map]; omega) ?_
    refine x_nil ?_
    refine x_nil ?_
    refine x_cons ?_
    refine x_expr ?_
    refine ev_meth ?_
    refine ev_attr ?_
    refine ev_loc (.head _) ?_
    refine ga_own (.inst (mget 1 rfl)) (mget 2 rfl) (by kernel_rfl) rfl rfl ?_
    refine tm_ownL (f := 160) (mget 4 rfl) (mget 5 rfl) (by kernel_rfl) rfl ?_
    refine cw_K0 (by kernel_rfl) ?_
    refine areset0 (n := n) (by omega) (mget 5 rfl) (.tail (.tail (.tail (.tail (.head))))) (.tail (.tail (.tail (.tail (.tail (.head)))))) (by show 1 ≤ 1000; omega) ?_
    refine x_nil ?_
    refine ⟨_, .cons _ (.refl _), ?_⟩
    have e2 : lines.map AV.str ++ [AV.str e0S] = (lines ++ [e0S]).map AV.str := by simp
    rw [acc_e0, e2]
    exact h
  · exfalso
    rw [size_e0] at hb
    simp at hb
    omega
/-- the first word, where the head fills the line -/
theorem vapp_head {x d : Addr} {m : Int} {ls : Addr} {lines : List Str} {acc ad : Addr} {f p : Str} {tf tp : Tok} {n : Int} {T : Ledger} {Φ : AV → Frame → Ledger → Prop} (hd : 10 ≤ C.d) (ok : ∀ t, ItemsOk ([] ++ [(t, f, p)]))
    (hn : 0 < n ∧ n ≤ 1000000) (hover : m < n + ((f.length : Int) + p.length)) (hf : 0 < f.length) (hz : lines.length ≤ 1000)
    (h : ∀ t, Φ .none ρ (vfB x d m ls (lines ++ [e0S]) acc ad [.ref t] 0 ((t, .tuple [.str f, .str p]) :: T))) : WV P1 C ρ (vfB x d m ls lines acc ad [] n T) (call (.ref 91) [.ref x, .str f tf, .str p tp]) Φ := by
  have hsz := sizeLine_eq
  have hfl2 : f.length ≤ 1000 := ((ok 0).ln (0, f, p) (by simp)).1
  refine WC.call (WC.sub ?_)
  refine code_fn (args := [.ref x, .str f, .str p]) (names := [Str.ofString "self", Str.ofString "fws", Str.ofString "string"]) (others := [Str.ofString "ch", Str.ofString "i", Str.ofString "prevpart", Str.ofString "part", Str.ofString "remainder"]) rfl (by omega) (fun h _ => ⟨_, BindsTo.of_eq rfl, .cons rfl (.cons ⟨tf, rfl⟩ (.cons ⟨tp, rfl⟩ .nil))⟩) (by kernel_rfl) (by decide +kernel) (by decide +kernel) (by decide +kernel) rfl rfl rfl (fun C' hd' hcl => ?_)
  refine x_cons ?_
  refine x_expr ?_
  refine ev_meth ?_
  refine ev_attr ?_
  refine ev_loc (.head _) ?_
  refine ga_own (.inst (.head _)) (mget 1 rfl) (by kernel_rfl) rfl rfl ?_
  refine tm_ownL (f := 122) (mget 3 rfl) (mget 4 rfl) (by kernel_rfl) rfl ?_
  refine cw_K (by kernel_rfl) ?_
  refine sp_cons ?_
  refine ev_loc (mget 1 rfl) ?_
  refine sp_cons ?_
  refine ev_loc (mget 2 rfl) ?_
  refine sp_nil ?_
  refine th_ss fun t1 t2 => ?_
  refine apush (n := n) (by omega) (mget 4 rfl) (by show 0 < 1000; omega) (fun t => ⟨_, (.tail (.tail (.tail (.head)))), ?_⟩)
  refine W.perm vfB_push ?_
  have hT' : TupsIn ([] ++ [(t, f, p)]) ((t, AObj.tuple [.str f, .str p]) :: T) := TupsIn.cons (fun i hi => nomatch hi)
  have X := acc_of (x := x) (d := d) (m := m) (ls := ls) (lines := lines) (acc := acc) (ad := ad) (n := n) (ok t) hT'
  refine x_cons ?_
  refine x_if ?_
  refine tst_cmp ?_
  refine ev_callB rfl (by boot_fast) (by decide) ?_
  refine sp_cons ?_
  refine ev_attr ?_
  refine ev_loc (.head _) ?_
  refine ga_own (.inst (.head _)) (mget 1 rfl) (by kernel_rfl) rfl rfl ?_
  refine sp_nil ?_
  refine len_acc (by omega) X ⟨by omega, hn.2⟩ (mget 5 rfl) ?_
  refine ev_attr ?_
  refine ev_loc (.head _) ?_
  refine ga_own (.inst (.head _)) (mget 1 rfl) (by kernel_rfl) rfl rfl ?_
  refine cmp_gt_ii ?_
  refine ⟨fun hb => ?_, fun hb => ?_⟩
  · refine x_cons ?_
    refine x_forV ?_
    refine ev_attr ?_
    refine ev_loc (.head _) ?_
    refine ga_own (.inst (.head _)) (mget 1 rfl) (by kernel_rfl) rfl rfl ?_
    refine ⟨(Str.ofString " ").cps.toList.map fun c => AV.str ⟨#[c]⟩, fun _ => True, fun v hv => ?_, trivial, ?_⟩
    · obtain ⟨t, rfl⟩ := hv
      exact ⟨_, spec_str (by decide +kernel)⟩
    refine ⟨fun j ρ' σ' => ∃ z, ρ' = [(Str.ofString "self", some (.ref x)), (Str.ofString "fws", some (.str f)), (Str.ofString "string", some (.str p)), (Str.ofString "ch", z), (Str.ofString "i", none), (Str.ofString "prevpart", none), (Str.ofString "part", none), (Str.ofString "remainder", none)] ∧ σ' = vfB x d m ls lines acc ad (refsOf ([] ++ [(t, f, p)])) n ((t, .tuple [.str f, .str p]) :: T), ⟨_, rfl, rfl⟩, fun _ _ _ _ => trivial, ?_, ?_⟩
    · rintro j b _ _ ⟨z, rfl, rfl⟩ hx' vb hb'
      have eb : b = .str (Str.ofString " ") := by
        have e1 : (Str.ofString " ").cps.toList = [32] := by decide +kernel
        have e2 : (⟨#[32]⟩ : Str) = Str.ofString " " := by decide +kernel
        rw [e1] at hx'
        cases j with
        | zero =>
          have e3 : some (AV.str ⟨#[32]⟩) = some b := hx'
          rw [e2] at e3
          exact (Option.some.inj e3).symm
        | succ j => simp at hx'
      subst eb
      refine W.mono (Φ := fun _ ρ' σ' => WF P1 C' ρ' σ' (execs _ C'.env) _) ?_ (fun _ ρ' σ' h => W.sub h)
      refine st_loc (.tail (.tail (.tail (.head)))) hb' ?_
      refine x_cons ?_
      refine x_for ?_
      refine ev_callT rfl (by boot_fast) (by decide) ?_
      refine sp_cons ?_
      refine ev_bin ?_
      refine ev_meth ?_
      refine ev_attr ?_
      refine ev_loc (.head _) ?_
      refine ga_own (.inst (.head _)) (mget 1 rfl) (by kernel_rfl) rfl rfl ?_
      refine tm_ownL (f := 175) X.hx X.hd (by kernel_rfl) rfl ?_
      refine cw_K0 (by kernel_rfl) ?_
      refine apc (by omega) X.hx X.hd ?_
      refine ev_int ?_
      refine op_sub_ii ?_
      refine sp_cons ?_
      refine ev_int ?_
      refine sp_cons ?_
      refine ev_usub ?_
      refine ev_int ?_
      refine ⟨_, rfl, ?_⟩
      refine sp_nil ?_
      refine mk_range3 (by decide) (PyProof.noPylong_small (by decide)) (fun r => ?_)
      refine ⟨_, _, _, _, rfl, fun _ e => e, src_down (n := 0) (by omega), (.head _), fun j ρ' σ' => ρ' = [(Str.ofString "self", some (.ref x)), (Str.ofString "fws", some (.str f)), (Str.ofString "string", some (.str p)), (Str.ofString "ch", some (.str (Str.ofString " "))), (Str.ofString "i", none), (Str.ofString "prevpart", none), (Str.ofString "part", none), (Str.ofString "remainder", none)] ∧ σ' = (r, .range (0 : Nat) 0 (-1)) :: vfB x d m ls lines acc ad (refsOf ([] ++ [(t, f, p)])) n ((t, .tuple [.str f, .str p]) :: T), ⟨rfl, rfl⟩, ?_, ?_, ?_⟩
      · rintro j _ _ ⟨rfl, rfl⟩; exact (.head _)
      · rintro j b _ _ ⟨rfl, rfl⟩ hx' vb hb'
        simp at hx'
      · rintro _ _ ⟨rfl, rfl⟩
        refine x_cons ?_
        refine x_cont ?_
        exact ⟨_, .cons _ (.refl _), _, rfl, rfl⟩
    · rintro _ _ ⟨z, rfl, rfl⟩
      refine x_cons ?_
      refine x_unpack2 ?_
      refine ev_meth ?_
      refine ev_attr ?_
      refine ev_loc (.head _) ?_
      refine ga_own (.inst (.head _)) (mget 1 rfl) (by kernel_rfl) rfl rfl ?_
      refine tm_ownL (f := 138) (mget 3 rfl) (mget 4 rfl) (by kernel_rfl) rfl ?_
      refine cw_K0 (by kernel_rfl) ?_
      refine apop (n := n) (xs := []) (by omega) (mget 4 rfl) (.tail (.tail (.tail (.head)))) (by show 0 < 999; omega) ?_
      refine ⟨t, _, _, rfl, (mget 7 rfl), fun vb vc hb1 hc1 => ?_⟩
      refine st_loc (.tail (.head)) hb1 ?_
      refine st_loc (.tail (.tail (.tail (.tail (.tail (.tail (.head))))))) hc1 ?_
      refine x_cons ?_
      refine x_if ?_
      refine tst_cmp ?_
      refine ev_attrT ?_
      refine ev_attr ?_
      refine ev_loc (.head _) ?_
      refine ga_own (.inst (.head _)) (mget 1 rfl) (by kernel_rfl) rfl rfl ?_
      refine ga_ownL (mget 3 rfl) (mget 4 rfl) (by kernel_rfl) rfl rfl ?_
      refine ev_int ?_
      refine cmp_gt_ii ?_
      refine ⟨fun _ => ?_, fun hb2 => ?_⟩
      · refine x_cons ?_
        refine x_expr ?_
        refine ev_meth ?_
        refine ev_loc (.head _) ?_
        refine tm_own (f := 56) (.inst (.head _)) (mget 1 rfl) (by kernel_rfl) rfl ?_
        refine cw_K0 (by kernel_rfl) ?_
        refine vnl0 (lines := lines) (by omega) hn hz ?_
        refine x_cons ?_
        refine x_if ?_
        refine tst_not ?_
        refine tst_plain ?_
        refine ev_loc (mget 1 rfl) ?_
        refine tr_str (by omega) ?_
        refine ⟨fun hb3 => ?_, fun _ => ?_⟩
        · exfalso
          simp at hb3
          omega
        refine x_nil ?_
        refine x_nil ?_
        refine x_cons ?_
        refine x_expr ?_
        refine ev_meth ?_
        refine ev_attr ?_
        refine ev_loc (.head _) ?_
        refine ga_own (.inst (.head _)) (mget 1 rfl) (by kernel_rfl) rfl rfl ?_
        refine tm_ownL (f := 122) (mget 3 rfl) (mget 4 rfl) (by kernel_rfl) rfl ?_
        refine cw_K (by kernel_rfl) ?_
        refine sp_cons ?_
        refine ev_loc (mget 1 rfl) ?_
        refine sp_cons ?_
        refine ev_loc (mget 6 rfl) ?_
        refine sp_nil ?_
        refine th_ss fun t3 t4 => ?_
        refine apush (n := 0) (by omega) (mget 4 rfl) (by show 0 < 1000; omega) (fun t' => ⟨_, (.tail (.tail (.tail (.head)))), ?_⟩)
        refine W.perm vfB_push ?_
        refine x_cons ?_
        refine x_ret0 ?_
        exact ⟨_, .cons_cons _ (.cons_cons _ (.cons_cons _ (.cons_cons _ (.cons_cons _ (.cons_cons _ (.cons_cons _ (.cons_cons _ (.cons _ (.refl _))))))))), h t'⟩
      · exfalso
        simp at hb2
        omega
  · exfalso
    simp at hb
    have : sizeOf' [(t, f, p)] = (f.length : Int) + p.length := by unfold sizeOf'; simp
    omega
end
end Mine
end
section -- G16
open PySem PySem.W PySem.Calls PyProof.Rows PySem.SeqAt
set_option Elab.async false
set_option maxRecDepth 100000
set_option linter.unusedVariables false
-- mget
namespace Mine
/-- what the head takes of the row at hand -/
noncomputable def hdN (h : Nat) (rows : List (List Str)) : Nat := if rows.length = 0 then 20 * h else 0
theorem hdN0 (n h : Nat) (ws : List Str) : ((hdN h (layRunH n h (ws.take 0)).1 : Nat) : Int) = 20 * (h : Int) := by
  show ((if (0 : Nat) = 0 then 20 * h else 0 : Nat) : Int) = _
  rw [if_pos rfl]; push_cast; rfl
section
variable {w : World} {sc : Scope} {C : Ctxt w (K1 w) sc} {ρ : Frame} {σ σ' : Ledger}
theorem laidH {wl : Addr} {ws : List Str} {n hh : Nat} {tn th : Tok} {T0 : Ledger} {Φ : AV → Frame → Ledger → Prop} (hd : 16 ≤ C.d) (hn : 1 ≤ n ∧ n ≤ 8) (hhn : hh ≤ n) (hw : ∀ x ∈ ws, WordOk x) (hne : ws ≠ []) (hlen : ws.length ≤ 20) (hm : (wl, .list (ws.map AV.str)) ∈ T0)
    (h : ∀ a, Φ (.ref a) ρ ((a, .list (((layH n hh ws).map rowStr).map AV.str)) :: (140, .table) :: (147, .table) :: T0)) : WV P1 C ρ ((140, .table) :: (147, .table) :: T0) (call (.ref 277) [.ref wl, .int n tn, .int hh th]) Φ := by
  have hsz := sizeLine_eq
  have hm20 : IntMulOk 20 (n : Int) := IntMulOk.of_left (intBits_le_64 (by omega) (by omega))
  have hm20h : IntMulOk 20 (hh : Int) := IntMulOk.of_left (intBits_le_64 (by omega) (by omega))
  refine WC.call (WC.sub ?_)
  refine code_fn (args := [.ref wl, .int n, .int hh]) (names := [Str.ofString "strip", Str.ofString "size", Str.ofString "head"]) (others := [Str.ofString "folder", Str.ofString "word"]) rfl (by omega) (fun h _ => ⟨_, BindsTo.of_eq rfl, .cons rfl (.cons ⟨tn, rfl⟩ (.cons ⟨th, rfl⟩ .nil))⟩) (by kernel_rfl) (by decide +kernel) (by decide +kernel) (by decide +kernel) rfl rfl rfl (fun C' hd' hcl => ?_)
  refine x_cons ?_
  refine x_asgL ?_
  refine ev_callK rfl (by kernel_rfl) ?_
  refine sp_cons ?_
  refine ev_bin ?_
  refine ev_int ?_
  refine ev_loc (mget 2 rfl) ?_
  refine op_mul_ii hm20h ?_
  refine sp_cons ?_
  refine ev_bin ?_
  refine ev_int ?_
  refine ev_loc (mget 1 rfl) ?_
  refine op_mul_ii hm20 ?_
  refine sp_cons ?_
  refine ev_str ?_
  refine sp_cons ?_
  refine ev_str ?_
  refine sp_nil ?_
  refine th_int fun t1 => th_int fun t2 => th_ss fun t3 t4 => ?_
  refine call_cls (Cc := 94) (fI := 35) (by omega) (by kernel_rfl) (by kernel_rfl) (by kernel_rfl) (fun C2 x d hd2 => ?_)
  refine vinit (by omega) (fun ls acc ad => ?_)
  refine ⟨rfl, ?_⟩
  refine ⟨_, (.tail (.tail (.tail (.head)))), ?_⟩
  refine W.perm (σ' := vfB x d (20 * (n : Int)) ls [] acc ad (refsOf []) (20 * (hh : Int)) T0) ?_ ?_
  · have p1 : ([(acc, AObj.acc 178 ad []), (ad, .dict (accD (20 * (hh : Int)))), (ls, .list []), (x, .inst 94 d), (d, .dict (vfD (20 * (n : Int)) ls acc))] : Ledger).Perm [(x, .inst 94 d), (d, .dict (vfD (20 * (n : Int)) ls acc)), (ls, .list []), (acc, .acc 178 ad []), (ad, .dict (accD (20 * (hh : Int))))] := by
      have q : ∀ (a b c d e : Addr × AObj), [a, b, c, d, e].Perm [d, e, c, a, b] := fun a b c d e => by
        refine (List.perm_append_comm (l₁ := [a, b]) (l₂ := [c, d, e])).trans ?_
        show ([c] ++ [d, e] ++ [a, b]).Perm ([d, e] ++ [c] ++ [a, b])
        exact (List.perm_append_comm).append_right _
      exact q _ _ _ _ _
    exact p1.append_right ((140, .table) :: (147, .table) :: T0)
  refine x_cons ?_
  refine x_for ?_
  refine ev_loc (.head _) ?_
  refine forH ((src_list (xs := ws.map AV.str)).spec C') (.tail _ (.tail _ (.tail _ (.tail _ (.tail _ (.tail _ (.tail _ hm))))))) (fun j ρ' σ' => ∃ z lines items T, ρ' = [(Str.ofString "strip", some (.ref wl)), (Str.ofString "size", some (.int n)), (Str.ofString "head", some (.int hh)), (Str.ofString "folder", some (.ref x)), (Str.ofString "word", z)] ∧ σ' = vfB x d (20 * (n : Int)) ls lines acc ad (refsOf items) (hdN hh (layRunH n hh (ws.take j)).1 : Nat) T ∧ T0.Sublist T ∧ TupsIn items T ∧ lines = (layRunH n hh (ws.take j)).1.map rowStr ∧ ItemsAre items (layRunH n hh (ws.take j)).2) (⟨none, [], [], T0, rfl, (by rw [hdN0]), .refl _, (by intro i hi; cases hi), rfl, rfl⟩) ?_ ?_ ?_
  · rintro j _ _ ⟨z, lines, items, T, rfl, rfl, hs, -, -, -⟩
    exact .tail _ (.tail _ (.tail _ (.tail _ (.tail _ (.tail _ (.tail _ (hs.mem hm)))))))
  · rintro j b _ _ ⟨z, lines, items, T, rfl, rfl, hs, hT, hl, hi⟩ hx vb hb
    rw [List.getElem?_map, Option.map_eq_some_iff] at hx
    obtain ⟨word, hword, rfl⟩ := hx
    have hwd := hw word (List.mem_of_getElem? hword)
    have hw1 := hwd.pos
    have hw2 := hwd.le
    have htake : ws.take (j + 1) = ws.take j ++ [word] := by rw [List.take_add_one, hword]; rfl
    have hwj : ∀ x ∈ ws.take j, WordOk x := fun x hx => hw x (List.mem_of_mem_take hx)
    obtain ⟨g1, g2, g3, g4⟩ := layRunH_inv (h := hh) hn.1 (ws.take j)
    have hL : ∀ x ∈ (layRunH n hh (ws.take j)).2, WordOk x := fun x hx => hwj x (by rw [← g3]; exact List.mem_append_right _ hx)
    have hil := hi.len
    have hisz := hi.size fun x hx => (hL x hx).le
    have hpl : ((padS word).length : Int) + word.length = 20 := by rw [padS_len]; omega
    have hcnt : lines.length ≤ 20 := by
      rw [hl, List.length_map]
      rw [List.length_take] at g4
      omega
    have hok : ∀ t, ItemsOk (items ++ [(t, padS word, word)]) := fun t => ⟨fun i hi' => by
      rcases List.mem_append.mp hi' with hi' | hi'
      · exact hi.bounds (fun x hx => (hL x hx).le) i hi'
      · rw [List.mem_singleton.mp hi']
        exact ⟨by show (padS word).length ≤ 1000; omega, by show word.length ≤ 1000; omega⟩, by
          have : capH n hh (layRunH n hh (ws.take j)).1 ≤ n := by unfold capH; split <;> omega
          rw [List.length_append, List.length_singleton]; omega⟩
    refine st_loc (.tail (.tail (.tail (.tail (.head))))) hb ?_
    refine x_cons ?_
    refine x_expr ?_
    refine ev_meth ?_
    refine ev_loc (mget 3 rfl) ?_
    refine tm_own (f := 91) (.inst (.head _)) (mget 1 rfl) (by kernel_rfl) rfl ?_
    refine cw_K (by kernel_rfl) ?_
    refine sp_cons ?_
    refine ev_bin ?_
    refine ev_str ?_
    refine ev_bin ?_
    refine ev_int ?_
    refine ev_callB rfl (by boot_fast) (by decide) ?_
    refine sp_cons ?_
    refine ev_loc (mget 4 rfl) ?_
    refine sp_nil ?_
    refine call_len_str (by omega) ?_
    refine op_sub_ii ?_
    refine op_mul_si (c := 32) (by decide +kernel) (by omega) (by omega) ?_
    refine sp_cons ?_
    refine ev_loc (mget 4 rfl) ?_
    refine sp_nil ?_
    refine Then.eq2 (a' := .str (padS word)) rfl (th_ss fun s1 s2 => ?_)
    rw [htake, layRunH_snoc]
    generalize layRunH n hh (ws.take j) = st at *
    obtain ⟨rows, cur⟩ := st
    dsimp only at hl hi g1 g2 hL hil hisz ⊢
    have hcap : hdN hh rows + 20 * capH n hh rows = 20 * n := by
      unfold hdN capH
      split <;> omega
    by_cases hfull : cur.length = capH n hh rows
    · have hpad : (padS word).cps.toList[0]? = some 32 := by
        rw [padS_list, List.getElem?_replicate]
        rw [if_pos (by omega)]
      have eS : layStepH n hh (rows, cur) word = (rows ++ [cur], [word]) := by unfold layStepH; rw [if_pos hfull]
      have eN : hdN hh (rows ++ [cur]) = 0 := by unfold hdN; rw [if_neg (by simp)]
      rw [eS]
      dsimp only
      rw [eN]
      by_cases hc0 : cur = []
      · subst hc0
        have hi0 : items = [] := by
          have : items.length = 0 := hil
          exact List.length_eq_zero_iff.mp this
        subst hi0
        have hpos : 0 < hdN hh rows := by
          have : capH n hh rows = 0 := hfull.symm
          omega
        refine vapp_head (by omega) hok ⟨by omega, by omega⟩ (by have := hfull.symm; simp at this; omega) (by omega) (by omega) (fun t => ?_)
        refine x_nil ?_
        refine ⟨_, lines ++ [e0S], [(t, padS word, word)], (t, .tuple [.str (padS word), .str word]) :: T, rfl, rfl, .cons _ hs, fun i hi' => ?_, ?_, ?_⟩
        · rw [List.mem_singleton.mp hi']; exact .head _
        · rw [List.map_append, hl]; rfl
        · rfl
      · refine vapp_over (by omega) hok hT ⟨by omega, by omega⟩ (by omega) (fun e => by rw [e] at hil; exact hc0 (List.length_eq_zero_iff.mp hil.symm)) hpad (by omega) (fun t => ?_)
        refine x_nil ?_
        refine ⟨_, lines ++ [accStr items], [(t, padS word, word)], (t, .tuple [.str (padS word), .str word]) :: T, rfl, rfl, .cons _ hs, fun i hi' => ?_, ?_, ?_⟩
        · rw [List.mem_singleton.mp hi']; exact .head _
        · rw [List.map_append, hl, hi.str]; rfl
        · rfl
    · have eS : layStepH n hh (rows, cur) word = (rows, cur ++ [word]) := by unfold layStepH; rw [if_neg hfull]
      rw [eS]
      dsimp only
      refine vapp_fit (by omega) hok hT ⟨by omega, by omega⟩ (by omega) (fun t => ?_)
      refine x_nil ?_
      have eR : refsOf items ++ [AV.ref t] = refsOf (items ++ [(t, padS word, word)]) := by simp [refsOf]
      rw [eR]
      exact ⟨_, lines, items ++ [(t, padS word, word)], (t, .tuple [.str (padS word), .str word]) :: T, rfl, rfl, .cons _ hs, hT.cons, hl, hi.snoc⟩
  · rintro _ _ ⟨z, lines, items, T, rfl, rfl, hs, hT, hl, hi⟩
    rw [List.length_map, List.take_length] at hl hi ⊢
    obtain ⟨g1, g2, g3, g4⟩ := layRunH_inv (h := hh) hn.1 ws
    have hL : ∀ x ∈ (layRunH n hh ws).2, WordOk x := fun x hx => hw x (by rw [← g3]; exact List.mem_append_right _ hx)
    have hL1 : ∀ l ∈ layH n hh ws, ∀ x ∈ l, WordOk x := fun l hl x hx => hw x (layH_mem hn.1 hl hx)
    have hcnt : lines.length ≤ 20 := by
      rw [hl, List.length_map]
      omega
    have hrows : lines ++ [accStr items] = (layH n hh ws).map rowStr := by
      unfold layH
      rw [List.map_append, hl, hi.str]; rfl
    have hstr := hi.str
    have hil := hi.len
    have hisz := hi.size fun x hx => (hL x hx).le
    have hbd := hi.bounds fun x hx => (hL x hx).le
    have hpos : 0 < (layRunH n hh ws).2.length := List.length_pos_iff.mpr (g2 hne)
    obtain ⟨items', t, wd, rfl, hwd⟩ := items_last hi (g2 hne)
    have hwdok := hL wd hwd
    have hsp := row_notspace hL (g2 hne)
    have hsum : (((layH n hh ws).map rowStr).map (·.length)).sum ≤ 1000000 := by
      rw [sum_rows hL1, layH_flat hn.1]; omega
    have hcap : capH n hh (layRunH n hh ws).1 ≤ n := by unfold capH; split <;> omega
    have hhd : hdN hh (layRunH n hh ws).1 ≤ 160 := by unfold hdN; split <;> omega
    have eR : refsOf (items' ++ [(t, padS wd, wd)]) = refsOf items' ++ [AV.ref t] := by simp [refsOf]
    rw [eR]
    refine x_nil ?_
    refine x_cons ?_
    refine x_ret ?_
    refine ev_meth ?_
    refine ev_meth ?_
    refine ev_loc (mget 3 rfl) ?_
    refine tm_own (f := 42) (.inst (.head _)) (mget 1 rfl) (by kernel_rfl) rfl ?_
    refine cw_K (by kernel_rfl) ?_
    refine sp_cons ?_
    refine ev_str ?_
    refine sp_nil ?_
    refine th_s fun tv => ?_
    refine vstr (by omega) ⟨hbd, by omega⟩ hT ⟨strOk_pad wd, hwdok.ok⟩ (word_ne hwdok _) ⟨by omega, by omega⟩ (by omega) (fun _ => by rw [hstr]; exact hsp) (by omega) (by rw [hrows]; exact hsum) ?_
    rw [hrows]
    refine tm_str PySem.F.slot_str_split PySem.F.type_str_split (fun tq => ?_)
    refine cw_b ?_
    refine sp_cons ?_
    refine ev_str ?_
    refine sp_nil ?_
    have enl : Str.ofString "\n" = ⟨#[10]⟩ := by decide +kernel
    have hsj : Txt.split (Txt.join (Str.ofString "\n") ((layH n hh ws).map rowStr)) (Str.ofString "\n") = (layH n hh ws).map rowStr := by
      rw [enl]
      refine split_join 10 _ (by unfold layH; simp) fun p hp => ?_
      obtain ⟨l, hl', rfl⟩ := List.mem_map.mp hp
      exact row_nl (hL1 l hl')
    refine call_split1 (by decide +kernel) ?_ (fun a => ?_)
    · have e1 : (Txt.join (Str.ofString "\n") ((layH n hh ws).map rowStr)).length = (((layH n hh ws).map rowStr).map (·.length)).sum + (((layH n hh ws).map rowStr).length - 1) * (Str.ofString "\n").length := size_glued _ _
      have e2 : (Str.ofString "\n").length = 1 := by decide +kernel
      rw [e1, e2, sum_rows hL1, layH_flat hn.1, List.length_map]
      have e3 : (layH n hh ws).length = (layRunH n hh ws).1.length + 1 := by unfold layH; simp
      omega
    rw [hsj]
    exact ⟨_, .cons_cons _ (.cons _ (.cons _ (.cons _ (.cons _ (.cons _ (.cons_cons _ (.cons_cons _ hs))))))), h a⟩
end
end Mine
end
section -- G20
open PySem PySem.W PySem.Calls PyProof.Rows PySem.SeqAt
set_option Elab.async false
set_option maxRecDepth 100000
set_option linter.unusedVariables false
-- mget
namespace Mine
noncomputable def heldWord (st : List Nat × Nat) (b : Bool) : List Nat × Nat := (if b then st.1.set st.2 (st.1.getD st.2 0 + 1) else st.1, st.2 + 1)
noncomputable def heldRow (st : List Nat × Nat) (bs : List Bool) : List Nat × Nat := ((bs.foldl heldWord st).1, 0)
noncomputable def heldRun (n h : Nat) (bss : List (List Bool)) : List Nat × Nat := bss.foldl heldRow (List.replicate n 0, h)
noncomputable def bitsW (cs : List Str) : List Bool := cs.map (· != hy)
theorem heldWord_len (st : List Nat × Nat) : ∀ bs : List Bool, (bs.foldl heldWord st).1.length = st.1.length ∧ (bs.foldl heldWord st).2 = st.2 + bs.length
  | [] => ⟨rfl, rfl⟩
  | b :: r => by
    rw [List.foldl_cons]
    obtain ⟨h1, h2⟩ := heldWord_len (heldWord st b) r
    refine ⟨h1.trans ?_, h2.trans ?_⟩
    · unfold heldWord; dsimp only; split <;> simp
    · unfold heldWord; dsimp only; rw [List.length_cons]; omega
theorem heldRun_len (n h : Nat) (bss : List (List Bool)) : (heldRun n h bss).1.length = n := by
  unfold heldRun
  have key : ∀ (l : List (List Bool)) (st : List Nat × Nat), (l.foldl heldRow st).1.length = st.1.length := by
    intro l
    induction l with
    | nil => intro st; rfl
    | cons b r ih => intro st; rw [List.foldl_cons, ih]; exact (heldWord_len st b).1
  rw [key]; simp
theorem heldRun_col (n h : Nat) (bss : List (List Bool)) (i : Nat) : (heldRun n h (bss.take i)).2 = if i = 0 ∨ bss = [] then h else 0 := by
  unfold heldRun
  cases bss with
  | nil => simp
  | cons b r =>
    cases i with
    | zero => rfl
    | succ i =>
      rw [if_neg (by simp), List.take_succ_cons, List.foldl_cons]
      have key : ∀ (l : List (List Bool)) (st : List Nat × Nat), st.2 = 0 → (l.foldl heldRow st).2 = 0 := by
        intro l
        induction l with
        | nil => intro st h; exact h
        | cons b r ih => intro st h; rw [List.foldl_cons]; exact ih _ rfl
      exact key _ _ rfl
section
variable {w : World} {sc : Scope} {C : Ctxt w (K1 w) sc} {ρ : Frame} {σ : Ledger}
theorem hel {l : Addr} {rows : List Str} {css : List (List Str)} {n hh : Nat} {tn th : Tok} {Φ : AV → Frame → Ledger → Prop} (hd : 1 ≤ C.d) (hm : (l, .list (rows.map AV.str)) ∈ σ) (hw : rows.map Txt.words = css) (hlen : ∀ r ∈ rows, r.length ≤ 1000)
    (hn : n ≤ 8) (hhn : hh ≤ 8) (hfit : ∀ i cs, css[i]? = some cs → (if i = 0 then hh else 0) + cs.length ≤ n)
    (k : ∀ a, Φ (.ref a) ρ ((a, .list (nats (heldRun n hh (css.map bitsW)).1)) :: σ)) : WV P1 C ρ σ (call (.ref 284) [.ref l, .int n tn, .int hh th]) Φ := by
  have hsz := sizeLine_eq
  refine W.sub ?_
  refine call_fn (args := [.ref l, .int n, .int hh]) (names := [Str.ofString "rows", Str.ofString "size", Str.ofString "head"]) (others := [Str.ofString "held", Str.ofString "column", Str.ofString "row", Str.ofString "word"]) rfl hd (fun h _ => ⟨_, BindsTo.of_eq rfl, .cons rfl (.cons ⟨tn, rfl⟩ (.cons ⟨th, rfl⟩ .nil))⟩) (by kernel_rfl) (by decide +kernel) (by decide +kernel) (by decide +kernel) rfl rfl rfl ?_
  intro C' hd' hcl
  refine x_cons ?_
  refine x_asgL ?_
  refine ev_bin ?_
  refine ev_list ?_
  refine sp_cons ?_
  refine ev_int ?_
  refine sp_nil ?_
  refine new_list (by decide +kernel) (fun a0 => ?_)
  refine ev_loc (mget 1 rfl) ?_
  refine op_mul_li (xs := [.int 0]) (.head _) (by omega) (by omega) (by simp; omega) (fun a => ?_)
  refine ⟨_, (.tail (.tail (.tail (.head)))), ?_⟩
  have e0 : ((List.replicate (Int.toNat n) [AV.int 0]).flatten) = nats (List.replicate n 0) := by simp
  rw [e0]
  refine x_cons ?_
  refine x_asgL ?_
  refine ev_loc (mget 2 rfl) ?_
  refine ⟨_, (.tail (.tail (.tail (.tail (.head))))), ?_⟩
  refine W.less (σ' := (a, .list (nats (List.replicate n 0))) :: σ) (.cons_cons _ (.cons _ (.refl _))) ?_
  refine x_cons ?_
  refine x_for ?_
  refine ev_loc (.head _) ?_
  refine forH ((src_list (xs := rows.map AV.str)).spec C') (.tail _ hm) (fun i ρ' σ' => ∃ z1 z2, ρ' = [(Str.ofString "rows", some (.ref l)), (Str.ofString "size", some (.int n)), (Str.ofString "head", some (.int hh)), (Str.ofString "held", some (.ref a)), (Str.ofString "column", some (.int (heldRun n hh ((css.map bitsW).take i)).2)), (Str.ofString "row", z1), (Str.ofString "word", z2)] ∧ σ' = (a, .list (nats (heldRun n hh ((css.map bitsW).take i)).1)) :: σ) (⟨_, _, rfl, rfl⟩) ?_ ?_ ?_
  · rintro i _ _ ⟨_, _, rfl, rfl⟩; exact .tail _ hm
  · rintro i b _ _ ⟨z1, z2, rfl, rfl⟩ hx vb hb
    rw [List.getElem?_map, Option.map_eq_some_iff] at hx
    obtain ⟨row, hrow, rfl⟩ := hx
    have hrowl := hlen row (List.mem_of_getElem? hrow)
    have hcs : css[i]? = some (Txt.words row) := by rw [← hw, List.getElem?_map, hrow]; rfl
    generalize hce : Txt.words row = cs at hcs
    have hcf := hfit i cs hcs
    have hbs : (css.map bitsW)[i]? = some (bitsW cs) := by rw [List.getElem?_map, hcs]; rfl
    have hcol := heldRun_col n hh (css.map bitsW) i
    have hhl := heldRun_len n hh ((css.map bitsW).take i)
    have htk : (css.map bitsW).take (i + 1) = (css.map bitsW).take i ++ [bitsW cs] := by rw [List.take_add_one, hbs]; rfl
    have hrun : heldRun n hh ((css.map bitsW).take (i + 1)) = heldRow (heldRun n hh ((css.map bitsW).take i)) (bitsW cs) := by
      unfold heldRun; rw [htk, List.foldl_append]; rfl
    rw [hrun]
    have hcol' : (heldRun n hh ((css.map bitsW).take i)).2 + cs.length ≤ n := by
      rw [hcol]
      refine Nat.le_trans (Nat.add_le_add_right ?_ _) hcf
      by_cases q : i = 0
      · rw [if_pos (.inl q), if_pos q]; exact Nat.le_refl _
      · rw [if_neg q, if_neg (fun h => h.elim q fun e => by rw [e] at hbs; simp at hbs)]; exact Nat.le_refl _
    generalize heldRun n hh ((css.map bitsW).take i) = st at *
    have hbl : (bitsW cs).length = cs.length := by unfold bitsW; simp
    refine W.mono (Φ := fun _ ρ' σ' => WF P1 C' ρ' σ' (execs _ C'.env) _) ?_ (fun _ ρ' σ' h => W.sub h)
    refine st_loc (.tail (.tail (.tail (.tail (.tail (.head)))))) hb ?_
    refine x_cons ?_
    refine x_for ?_
    refine ev_meth ?_
    refine ev_loc (mget 5 rfl) ?_
    refine tm_str PySem.F.slot_str_split PySem.F.type_str_split (fun t' => ?_)
    refine cw_b0 ?_
    refine call_split0 (by omega) (fun a1 => ?_)
    rw [hce]
    refine forH ((src_list (xs := cs.map AV.str)).spec C') (.head _) (fun j ρ' σ' => ∃ z2, ρ' = [(Str.ofString "rows", some (.ref l)), (Str.ofString "size", some (.int n)), (Str.ofString "head", some (.int hh)), (Str.ofString "held", some (.ref a)), (Str.ofString "column", some (.int ((bitsW (cs.take j)).foldl heldWord st).2)), (Str.ofString "row", some (.str row)), (Str.ofString "word", z2)] ∧ σ' = (a1, .list (cs.map AV.str)) :: (a, .list (nats ((bitsW (cs.take j)).foldl heldWord st).1)) :: σ) (⟨_, rfl, rfl⟩) ?_ ?_ ?_
    · rintro i _ _ ⟨_, rfl, rfl⟩; exact (.head _)
    · rintro j b _ _ ⟨z2, rfl, rfl⟩ hx vb hb
      rw [List.getElem?_map, Option.map_eq_some_iff] at hx
      obtain ⟨c, hcj, rfl⟩ := hx
      have hjl : j < cs.length := (List.getElem?_eq_some_iff.mp hcj).1
      have htj : bitsW (cs.take (j + 1)) = bitsW (cs.take j) ++ [c != hy] := by rw [List.take_add_one, hcj]; unfold bitsW; simp
      obtain ⟨q1, q2⟩ := heldWord_len st (bitsW (cs.take j))
      have q3 : (bitsW (cs.take j)).length = j := by unfold bitsW; rw [List.length_map, List.length_take]; omega
      rw [htj, List.foldl_append]
      generalize (bitsW (cs.take j)).foldl heldWord st = st2 at *
      obtain ⟨held, col⟩ := st2
      dsimp only at q1 q2 ⊢
      have hcl : col < held.length := by omega
      have hg := List.getElem?_eq_getElem hcl
      have hgd : held.getD col 0 = held[col] := by rw [List.getD_eq_getElem?_getD, hg]; rfl
      refine st_loc (.tail (.tail (.tail (.tail (.tail (.tail (.head))))))) hb ?_
      refine x_cons ?_
      refine x_if ?_
      refine tst_cmp ?_
      refine ev_loc (mget 6 rfl) ?_
      refine ev_str ?_
      refine cmp_ne_ss ?_
      refine ⟨fun hb => ?_, fun hb => ?_⟩
      · refine x_cons ?_
        refine x_augitem ?_
        refine ev_loc (mget 3 rfl) ?_
        refine ev_loc (mget 4 rfl) ?_
        refine get_list (a := .int (held.getD col 0 : Nat)) (mget 1 rfl) (by omega) (by omega) (by rw [List.getElem?_map, Int.toNat_natCast, hg, hgd]; rfl) ?_
        refine ev_int ?_
        refine iop_add_ii ?_
        refine set_list (xs := nats held) (.tail (.head)) (by omega) (by omega) (by rw [List.length_map]; omega) ?_
        refine x_nil ?_
        refine x_cons ?_
        refine x_augL (mget 4 rfl) ?_
        refine ev_int ?_
        refine iop_add_ii ?_
        refine ⟨_, (.tail (.tail (.tail (.tail (.head))))), ?_⟩
        refine x_nil ?_
        have e1 : [c != hy].foldl heldWord (held, col) = (held.set col (held.getD col 0 + 1), col + 1) := by
          show heldWord (held, col) (c != hy) = _
          unfold heldWord; rw [hb]; rfl
        rw [e1]
        refine ⟨_, rfl, ?_⟩
        unfold nats
        rw [List.map_set]
        rfl
      · refine x_nil ?_
        refine x_cons ?_
        refine x_augL (mget 4 rfl) ?_
        refine ev_int ?_
        refine iop_add_ii ?_
        refine ⟨_, (.tail (.tail (.tail (.tail (.head))))), ?_⟩
        refine x_nil ?_
        have e1 : [c != hy].foldl heldWord (held, col) = (held, col + 1) := by
          show heldWord (held, col) (c != hy) = _
          unfold heldWord; rw [hb]; rfl
        rw [e1]
        exact ⟨_, rfl, rfl⟩
    · rintro _ _ ⟨z2, rfl, rfl⟩
      rw [List.length_map, List.take_length]
      refine x_nil ?_
      refine x_cons ?_
      refine x_asgL ?_
      refine ev_int ?_
      refine ⟨_, (.tail (.tail (.tail (.tail (.head))))), ?_⟩
      refine x_nil ?_
      exact ⟨_, .cons _ (.refl _), _, _, rfl, rfl⟩
  · rintro _ _ ⟨z1, z2, rfl, rfl⟩
    have e1 : (css.map bitsW).take (rows.map AV.str).length = css.map bitsW := List.take_of_length_le (by rw [List.length_map, List.length_map, ← hw, List.length_map]; exact Nat.le_refl _)
    rw [e1]
    refine x_nil ?_
    refine x_cons ?_
    refine x_ret ?_
    refine ev_loc (mget 3 rfl) ?_
    exact ⟨_, .refl _, k a⟩
end
end Mine
end
section -- G21
open PySem PySem.W PySem.Calls PyProof.Rows PySem.SeqAt
set_option Elab.async false
set_option maxRecDepth 100000
set_option linter.unusedVariables false
-- mget
namespace Mine
noncomputable def decAt (n h : Nat) (l : List Int) (p : Nat) : List Int := l.set ((p + h) % n) (l.getD ((p + h) % n) 0 - 1)
noncomputable def decRun (n h : Nat) (held : List Int) (j : Nat) : List Int := (List.range j).foldl (decAt n h) held
theorem decRun_succ (n h : Nat) (held : List Int) (j : Nat) : decRun n h held (j + 1) = decAt n h (decRun n h held j) j := by
  unfold decRun; rw [List.range_succ, List.foldl_append]; rfl
theorem decRun_len (n h : Nat) (held : List Int) : ∀ j, (decRun n h held j).length = held.length
  | 0 => rfl
  | j + 1 => by rw [decRun_succ]; unfold decAt; rw [List.length_set, decRun_len n h held j]
noncomputable def gainL (n : Nat) (held : List Int) : List Int := (List.range n).map fun k => ((held.drop 1).take k).sum
noncomputable def leftZ (n h : Nat) (held : List Int) (steps : Int) : List Int :=
  (gainL n (decRun n h held 3)).map fun more => (steps + (gainL n (decRun n h held 3)).sum).fdiv n - more
theorem bounds_lu {a b n : Nat} (ha : a ≤ n) (hb : b ≤ n) : sliceBounds (some (a : Int)) (some (b : Int)) none n = ((a : Int), (b : Int), 1) := by
  simp only [sliceBounds, Option.getD_none]
  have h1 : ¬ ((a : Int) < 0) := by omega
  have h2 : ¬ ((b : Int) < 0) := by omega
  simp only [h1, h2, if_false, show (1 : Int) > 0 by decide, if_true]
  have h3 : max 0 (min (a : Int) (n : Int)) = (a : Int) := by omega
  have h4 : max 0 (min (b : Int) (n : Int)) = (b : Int) := by omega
  simp [h3, h4]
section
variable {w : World} {sc : Scope} {C : Ctxt w (K1 w) sc} {ρ : Frame} {σ : Ledger}
theorem lft {hl : Addr} {held : List Int} {n hh : Nat} {steps : Int} {ts th : Tok} {Φ : AV → Frame → Ledger → Prop} (hd : 2 ≤ C.d) (hlen : held.length = n) (hn : 2 ≤ n ∧ n ≤ 8) (hhn : hh ≤ 8)
    (k : ∀ a, Φ (.ref a) ρ ((a, .list ((leftZ n hh held steps).map AV.int)) :: σ)) : WV P1 C ρ ((hl, .list (held.map AV.int)) :: σ) (call (.ref 289) [.ref hl, .int steps ts, .int hh th]) Φ := by
  have hsz := sizeLine_eq
  refine W.sub ?_
  refine call_fnC (args := [.ref hl, .int steps, .int hh]) (names := [Str.ofString "held", Str.ofString "steps", Str.ofString "head"]) (ρ₁ := [(Str.ofString "steps", some (.int steps)), (Str.ofString "head", some (.int hh)), (Str.ofString "size", none), (Str.ofString "place", none), (Str.ofString "gained", none)]) (cn := [(Str.ofString "first", none), (Str.ofString "held", some (.ref hl))]) rfl (by omega) (fun h _ => ⟨_, BindsTo.of_eq rfl, .cons rfl (.cons ⟨ts, rfl⟩ (.cons ⟨th, rfl⟩ .nil))⟩) (by kernel_rfl) (by decide +kernel) (by decide +kernel) (by decide +kernel) (by kernel_rfl) (by kernel_rfl) (by decide +kernel) rfl rfl rfl ?_
  intro C' hd'
  refine fun c1 c2 hcl => ?_
  refine x_cons ?_
  refine x_asgL ?_
  refine ev_callB rfl (by boot_fast) (by decide) ?_
  refine sp_cons ?_
  refine ev_cell (by rw [hcl]; rfl) (mget 1 rfl) ?_
  refine sp_nil ?_
  refine call_len_list (mget 2 rfl) (by rw [List.length_map]; omega) ?_
  refine ⟨_, (.tail (.tail (.head))), ?_⟩
  rw [List.length_map, hlen]
  refine x_cons ?_
  refine x_for ?_
  refine ev_callT rfl (by boot_fast) (by decide) ?_
  refine sp_cons ?_
  refine ev_int ?_
  refine sp_nil ?_
  refine mk_range1 (fun r => ?_)
  refine forH (spec_range (n := 3) (by decide +kernel) (by decide +kernel)) (.head _) (fun j ρ' σ' => ∃ z, ρ' = [(Str.ofString "steps", some (.int steps)), (Str.ofString "head", some (.int hh)), (Str.ofString "size", some (.int n)), (Str.ofString "place", z), (Str.ofString "gained", none)] ∧ σ' = (r, .range 0 3 1) :: (c1, .cell none) :: (c2, .cell (some (.ref hl))) :: (hl, .list ((decRun n hh held j).map AV.int)) :: σ) (⟨_, rfl, rfl⟩) ?_ ?_ ?_
  · rintro j _ _ ⟨_, rfl, rfl⟩; exact (.head _)
  · rintro j b _ _ ⟨z, rfl, rfl⟩ hx vb hb
    rw [List.getElem?_map, Option.map_eq_some_iff] at hx
    obtain ⟨j', hj', rfl⟩ := hx
    obtain ⟨hjl, hje⟩ := List.getElem?_eq_some_iff.mp hj'
    rw [List.length_range] at hjl
    rw [List.getElem_range] at hje
    subst hje
    replace hb : (AV.int (j : Int)).is vb := by
      have e : (0 : Int) + (j : Int) * 1 = (j : Int) := by omega
      rw [← e]; exact hb
    have hdl := decRun_len n hh held j
    rw [decRun_succ]
    generalize decRun n hh held j = hs at *
    have hmod : ((j : Int) + (hh : Int)).fmod (n : Int) = (((j + hh) % n : Nat) : Int) := by
      rw [Int.fmod_eq_emod_of_nonneg _ (by omega), ← Int.natCast_add]; rfl
    have hml := Nat.mod_lt (j + hh) (show 0 < n by omega)
    have hg := List.getElem?_eq_getElem (show (j + hh) % n < hs.length by omega)
    have hgd : hs.getD ((j + hh) % n) 0 = hs[(j + hh) % n]'(by omega) := by rw [List.getD_eq_getElem?_getD, hg]; rfl
    refine st_loc (.tail (.tail (.tail (.head)))) hb ?_
    refine x_cons ?_
    refine x_augitem ?_
    refine ev_cell (by rw [hcl]; rfl) (mget 2 rfl) ?_
    refine ev_bin ?_
    refine ev_bin ?_
    refine ev_loc (mget 3 rfl) ?_
    refine ev_loc (mget 1 rfl) ?_
    refine op_add_ii ?_
    refine ev_loc (mget 2 rfl) ?_
    refine op_mod_ii (by omega) ?_
    rw [hmod]
    refine get_list (a := .int (hs.getD ((j + hh) % n) 0)) (mget 3 rfl) (by omega) (by omega) (by rw [List.getElem?_map, Int.toNat_natCast, hg, hgd]; rfl) ?_
    refine ev_int ?_
    refine iop_sub_ii ?_
    refine set_list (xs := hs.map AV.int) (.tail (.tail (.tail (.head)))) (by omega) (by omega) (by rw [List.length_map]; omega) ?_
    refine x_nil ?_
    refine ⟨_, rfl, ?_⟩
    unfold decAt
    rw [List.map_set, Int.toNat_natCast]
  · rintro _ _ ⟨z, rfl, rfl⟩
    have e3 : ((List.range 3).map fun (i : Nat) => AV.int (0 + i * 1)).length = 3 := rfl
    rw [e3]
    have hdl := decRun_len n hh held 3
    unfold leftZ at k
    generalize decRun n hh held 3 = hs at *
    refine x_nil ?_
    refine x_cons ?_
    refine x_asgC (comp_is1 hcl rfl rfl (by decide +kernel) (by decide +kernel)) rfl rfl (by decide +kernel) ?_
    refine ev_callT rfl (by boot_fast) (by decide) ?_
    refine sp_cons ?_
    refine ev_loc (mget 2 rfl) ?_
    refine sp_nil ?_
    refine mk_range1 (fun r2 => ?_)
    refine compH (src_range0 (n := n) (by omega) rfl) (.head _) (fun C2 hd2 hcl2 => ?_)
    refine loop_all (us := List.range n) (ys := (gainL n hs).map AV.int) (fun i => AV.int (i : Nat)) (fun i => AV.int (((hs.drop 1).take i).sum)) rfl (by unfold gainL; rw [List.map_map]; rfl) (.head _) (by rw [List.length_range]; omega) rfl (fun i u hu => ?_) (fun z2 gl => ?_)
    · have hu' : u < n := List.mem_range.mp (List.mem_of_getElem? hu)
      refine ev_callB rfl (by boot_fast) (by decide) ?_
      refine sp_cons ?_
      refine ev_sub ?_
      refine ev_cell (by rw [hcl2]; rfl) (mget 3 rfl) ?_
      refine ev_sliceLU ?_
      refine ev_int ?_
      refine ev_bin ?_
      refine ev_loc (.head _) ?_
      refine ev_int ?_
      refine op_add_ii ?_
      refine (fun sl => ?_)
      refine sub_listS (xs := hs.map AV.int) (a := 1) (b := u + 1) (mget 5 rfl) (.head _) rfl rfl (by rw [show ((u : Int) + 1) = ((u + 1 : Nat) : Int) by omega]; exact bounds_lu (a := 1) (by rw [List.length_map]; omega) (by rw [List.length_map]; omega)) (by rw [List.length_map]; omega) (fun D => ?_)
      have e4 : ((hs.map AV.int).drop 1).take (u + 1 - 1) = ((hs.drop 1).take u).map AV.int := by rw [Nat.add_sub_cancel, List.map_take, List.map_drop]
      rw [e4]
      refine sp_nil ?_
      refine call_sum_ints (.head _) ?_
      exact ⟨rfl, ⟨_, rfl⟩, .cons _ (.cons _ (.refl _))⟩
    have hgl : (gainL n hs).length = n := by unfold gainL; simp
    refine ⟨_, (.tail (.tail (.tail (.tail (.head))))), ?_⟩
    refine x_cons ?_
    refine x_asg ?_
    refine ev_bin ?_
    refine ev_bin ?_
    refine ev_loc (.head _) ?_
    refine ev_callB rfl (by boot_fast) (by decide) ?_
    refine sp_cons ?_
    refine ev_loc (mget 4 rfl) ?_
    refine sp_nil ?_
    refine call_sum_ints (.head _) ?_
    refine op_add_ii ?_
    refine ev_loc (mget 2 rfl) ?_
    refine op_fdiv_ii (by omega) (PyProof.noPylong_small (by omega)) ?_
    intro v hv
    refine st_cell (by rw [hcl]; rfl) (.tail (.tail (.tail (.head)))) hv ?_
    refine x_cons ?_
    refine x_ret ?_
    refine ev_comp (comp_is1 hcl rfl rfl (by decide +kernel) (by decide +kernel)) ?_
    refine ev_loc (mget 4 rfl) ?_
    refine compH src_list (.head _) (fun C2 hd2 hcl2 => ?_)
    refine loop_all (us := gainL n hs) (ys := ((gainL n hs).map fun more => (steps + (gainL n hs).sum).fdiv n - more).map AV.int) AV.int (fun more => AV.int ((steps + (gainL n hs).sum).fdiv n - more)) rfl (by rw [List.map_map]; rfl) (.head _) (by omega) rfl (fun i u hu => ?_) (fun z3 al => ?_)
    · refine ev_bin ?_
      refine ev_cell (by rw [hcl2]; rfl) (mget 3 rfl) ?_
      refine ev_loc (.head _) ?_
      refine op_sub_ii ?_
      exact ⟨rfl, ⟨_, rfl⟩, .refl _⟩
    exact ⟨_, .cons_cons _ (.cons _ (.cons _ (.cons _ (.cons _ (.cons _ (.cons _ (.refl _))))))), k al⟩
end
end Mine
end
section -- G22
open PySem PySem.W PySem.Calls PyProof.Rows PySem.SeqAt
set_option Elab.async false
set_option maxRecDepth 100000
set_option linter.unusedVariables false
-- mget
namespace Mine
noncomputable def colT (ls : List Int) (tab k : Nat) : Int := ((tab * (k / tab + 1) : Nat) : Int) * ls.getD k 0
noncomputable def colZ (ls : List Int) (tab : Nat) : Int := ((List.range ls.length).map (colT ls tab)).sum
section
variable {w : World} {sc : Scope} {C : Ctxt w (K1 w) sc} {ρ : Frame} {σ : Ledger}
theorem clm {ll : Addr} {ls : List Int} {tab : Nat} {tt : Tok} {Φ : AV → Frame → Ledger → Prop} (hd : 2 ≤ C.d) (hm : (ll, .list (ls.map AV.int)) ∈ σ) (hlen : ls.length ≤ 10) (ht : 1 ≤ tab ∧ tab ≤ 10) (hb : ∀ x ∈ ls, -1000 ≤ x ∧ x ≤ 1000)
    (k : Φ (.int (colZ ls tab)) ρ σ) : WV P1 C ρ σ (call (.ref 294) [.ref ll, .int tab tt]) Φ := by
  have hsz := sizeLine_eq
  refine W.sub ?_
  refine call_fnC (args := [.ref ll, .int tab]) (names := [Str.ofString "left", Str.ofString "tab"]) (ρ₁ := []) (cn := [(Str.ofString "tab", some (.int tab)), (Str.ofString "left", some (.ref ll))]) rfl (by omega) (fun h _ => ⟨_, BindsTo.of_eq rfl, .cons rfl (.cons ⟨tt, rfl⟩ .nil)⟩) (by kernel_rfl) (by decide +kernel) (by decide +kernel) (by decide +kernel) (by kernel_rfl) (by kernel_rfl) (by decide +kernel) rfl rfl rfl ?_
  intro C' hd'
  refine fun c1 c2 hcl => ?_
  refine x_cons ?_
  refine x_ret ?_
  refine ev_callB rfl (by boot_fast) (by decide) ?_
  refine sp_cons ?_
  refine ev_comp (comp_is1 hcl rfl rfl (by decide +kernel) (by decide +kernel)) ?_
  refine ev_callT rfl (by boot_fast) (by decide) ?_
  refine sp_cons ?_
  refine ev_callB rfl (by boot_fast) (by decide) ?_
  refine sp_cons ?_
  refine ev_cell (by rw [hcl]; rfl) (mget 1 rfl) ?_
  refine sp_nil ?_
  refine call_len_list (.tail _ (.tail _ (hm))) (by rw [List.length_map]; omega) ?_
  refine sp_nil ?_
  refine mk_range1 (fun r => ?_)
  refine compH (src_range0 (n := ls.length) (by omega) (by rw [List.length_map])) (.head _) (fun C2 hd2 hcl2 => ?_)
  refine loop_all (us := List.range ls.length) (ys := ((List.range ls.length).map (colT ls tab)).map AV.int) (fun i => AV.int (i : Nat)) (fun i => AV.int (colT ls tab i)) rfl (by rw [List.map_map]; rfl) (.head _) (by rw [List.length_range]; omega) rfl (fun i u hu => ?_) (fun z2 gl => ?_)
  · have hu' : u < ls.length := List.mem_range.mp (List.mem_of_getElem? hu)
    have hg := List.getElem?_eq_getElem hu'
    have hgd : ls.getD u 0 = ls[u] := by rw [List.getD_eq_getElem?_getD, hg]; rfl
    have hbu := hb _ (List.getElem_mem hu')
    have hfd : ((u : Int)).fdiv tab = ((u / tab : Nat) : Int) := by
      rw [Int.fdiv_eq_ediv_of_nonneg _ (by omega)]; rfl
    have hdl : u / tab ≤ 10 := Nat.le_trans (Nat.div_le_self _ _) (by omega)
    have hml : tab * (u / tab + 1) ≤ 10 * 11 := Nat.mul_le_mul ht.2 (by omega)
    have hmi : (tab : Int) * (((u / tab : Nat) : Int) + 1) = ((tab * (u / tab + 1) : Nat) : Int) := by push_cast; rfl
    refine ev_bin ?_
    refine ev_bin ?_
    refine ev_cell (by rw [hcl2]; rfl) (mget 1 rfl) ?_
    refine ev_bin ?_
    refine ev_bin ?_
    refine ev_loc (.head _) ?_
    refine ev_cell (by rw [hcl2]; rfl) (mget 1 rfl) ?_
    refine op_fdiv_ii (by omega) (PyProof.noPylong_small (by omega)) ?_
    refine ev_int ?_
    refine op_add_ii ?_
    refine op_mul_ii (IntMulOk.of_left (intBits_le_64 (by omega) (by omega))) ?_
    rw [hfd, hmi]
    refine ev_sub ?_
    refine ev_cell (by rw [hcl2]; rfl) (mget 2 rfl) ?_
    refine ev_loc (.head _) ?_
    refine sub_list (a := .int (ls.getD u 0)) (.tail _ (.tail _ (.tail _ (hm)))) (by omega) (by omega) (by rw [List.getElem?_map, Int.toNat_natCast, hg, hgd]; rfl) ?_
    refine op_mul_ii (IntMulOk.of_left (intBits_le_64 (by omega) (by omega))) ?_
    exact ⟨rfl, ⟨_, rfl⟩, .refl _⟩
  refine sp_nil ?_
  refine call_sum_ints (.head _) ?_
  exact ⟨_, .cons _ (.cons _ (.cons _ (.cons _ (.refl _)))), k⟩
end
end Mine
end
section -- N4
open PySem PySem.W PySem.Calls PyProof.Rows PySem.SeqAt
set_option Elab.async false
set_option maxRecDepth 100000
set_option linter.unusedVariables false
namespace Mine
/-! sums over the columns -/
theorem sum_one (F : Nat → Nat) (e : Nat) : ∀ n, ((List.range n).map fun k => F k * if e = k then 1 else 0).sum = if e < n then F e else 0
  | 0 => rfl
  | n + 1 => by
    rw [List.range_succ, List.map_append, List.sum_append, sum_one F e n]
    simp only [List.map_cons, List.map_nil, List.sum_cons, List.sum_nil, Nat.add_zero]
    by_cases h : e = n
    · subst h
      rw [if_neg (Nat.lt_irrefl _), if_pos rfl, if_pos (Nat.lt_succ_self _)]; omega
    · rw [if_neg h]
      by_cases h2 : e < n
      · rw [if_pos h2, if_pos (by omega)]; omega
      · rw [if_neg h2, if_neg (by omega)]; omega
theorem sum_mapadd (f g : Nat → Nat) : ∀ l : List Nat, (l.map fun k => f k + g k).sum = (l.map f).sum + (l.map g).sum
  | [] => rfl
  | a :: r => by simp only [List.map_cons, List.sum_cons, sum_mapadd f g r]; omega
theorem sum_count (F : Nat → Nat) (n : Nat) : ∀ em : List Nat, (∀ e ∈ em, e < n) → ((List.range n).map fun k => F k * em.count k).sum = (em.map F).sum
  | [], _ => by
    have : ∀ l : List Nat, (l.map fun k => F k * ([] : List Nat).count k).sum = 0 := by
      intro l
      induction l with
      | nil => rfl
      | cons a r ih => rw [List.map_cons, List.sum_cons, ih]; simp
    rw [this]; rfl
  | e :: r, h => by
    have ih := sum_count F n r fun x hx => h x (.tail _ hx)
    have e1 : (fun k => F k * (e :: r).count k) = fun k => F k * r.count k + F k * if e = k then 1 else 0 := by
      funext k
      rw [List.count_cons, Nat.mul_add]
      congr 2
      by_cases q : e = k <;> simp [q]
    rw [e1, sum_mapadd, ih, sum_one, if_pos (h e (.head _)), List.map_cons, List.sum_cons]; omega
/-! the indent that is typed -/
structure TabOk (em : List Nat) (st : WsSt) : Prop where
  b : st.b = 0
  nt : st.nt = em.length
  n : st.n = (em.map (· + 1)).sum
  cnt : ∀ c, st.count.getD c 0 = em.count c
  last : st.count.length = 0 ∨ 0 < st.count.getD (st.count.length - 1) 0
theorem wsGrow_getD (count : List Nat) (b c : Nat) : (wsGrow count b).getD c 0 = count.getD c 0 := by
  unfold wsGrow
  split
  · rw [List.getD_eq_getElem?_getD, List.getD_eq_getElem?_getD]
    by_cases h : c < count.length
    · rw [List.getElem?_append_left h]
    · rw [List.getElem?_append_right (by omega), List.getElem?_eq_none (l := count) (by omega), List.getElem?_replicate]
      split <;> rfl
  · rfl
theorem wsGrow_length (count : List Nat) (b : Nat) : (wsGrow count b).length = max count.length (b + 1) := by
  unfold wsGrow
  split
  · rw [List.length_append, List.length_replicate]; omega
  · omega
theorem set_getD (l : List Nat) (i c v : Nat) (hi : i < l.length) : (l.set i v).getD c 0 = if i = c then v else l.getD c 0 := by
  rw [List.getD_eq_getElem?_getD, List.getD_eq_getElem?_getD, List.getElem?_set]
  by_cases h : i = c
  · subst h; rw [if_pos rfl, if_pos rfl, if_pos hi]; rfl
  · rw [if_neg h, if_neg h]
theorem tabSt_ok {em : List Nat} {st : WsSt} (h : Nat) (H : TabOk em st) : TabOk (em ++ [h]) (tabSt st h) := by
  obtain ⟨h1, h2, h3, h4, h5⟩ := H
  have hl := wsGrow_length st.count h
  have hi : h < (wsGrow st.count h).length := by omega
  refine ⟨rfl, ?_, ?_, fun c => ?_, ?_⟩
  · show st.nt + 1 = _; rw [List.length_append, h2]; rfl
  · show st.n + h + 1 = _; rw [List.map_append, List.sum_append, h3]; simp; omega
  · show ((wsGrow st.count h).set h _).getD c 0 = _
    rw [set_getD _ _ _ _ hi, wsGrow_getD, wsGrow_getD, h4, h4, List.count_append, List.count_singleton]
    by_cases q : h = c
    · subst q; simp
    · simp [q]
  · right
    show 0 < ((wsGrow st.count h).set h ((wsGrow st.count h).getD h 0 + 1)).getD (((wsGrow st.count h).set h ((wsGrow st.count h).getD h 0 + 1)).length - 1) 0
    rw [List.length_set, set_getD _ _ _ _ hi]
    by_cases q : h = (wsGrow st.count h).length - 1
    · rw [if_pos q]; omega
    · rw [if_neg q, wsGrow_getD]
      have : (wsGrow st.count h).length = st.count.length := by omega
      rw [this]
      exact h5.elim (fun e => by omega) id
theorem tabRun_ok (em : List Nat) : TabOk em (tabRun em) := by
  have key : ∀ (l pre : List Nat) (st : WsSt), TabOk pre st → TabOk (pre ++ l) (l.foldl tabSt st) := by
    intro l
    induction l with
    | nil => intro pre st H; rw [List.append_nil]; exact H
    | cons a r ih =>
      intro pre st H
      have := ih (pre ++ [a]) (tabSt st a) (tabSt_ok a H)
      rw [List.append_assoc] at this
      exact this
  exact key em [] _ ⟨rfl, rfl, rfl, fun c => by simp, .inl rfl⟩
section
variable {em : List Nat} {st : WsSt} (H : TabOk em st)
include H
theorem TabOk.beyond {c : Nat} (hc : st.count.length ≤ c) : em.count c = 0 := by
  rw [← H.cnt c, List.getD_eq_getElem?_getD, List.getElem?_eq_none hc]; rfl
theorem TabOk.lt {c : Nat} (hc : 0 < em.count c) : c < st.count.length := by
  rcases Nat.lt_or_ge c st.count.length with h | h
  · exact h
  · have := H.beyond h; omega
theorem TabOk.top (h : 0 < st.count.length) : 0 < em.count (st.count.length - 1) := by
  rw [← H.cnt]
  exact H.last.elim (fun e => by omega) id
theorem TabOk.le {n : Nat} (hn : ∀ e ∈ em, e < n) : st.count.length ≤ n := by
  rcases Nat.eq_zero_or_pos st.count.length with h | h
  · omega
  · have := hn _ (List.count_pos_iff.mp (H.top h)); omega
theorem TabOk.part (ts : Nat) (h1 : 1 ≤ ts) : ∀ m, ((List.range m).map fun k => k / ts * em.count k).sum = lvSum st ts (m - ts)
  | 0 => by simp [lvSum]
  | m + 1 => by
    rw [List.range_succ, List.map_append, List.sum_append, TabOk.part ts h1 m]
    simp only [List.map_cons, List.map_nil, List.sum_cons, List.sum_nil, Nat.add_zero]
    by_cases q : m < ts
    · rw [Nat.div_eq_of_lt q, show m + 1 - ts = 0 by omega, show m - ts = 0 by omega]; omega
    · rw [show m + 1 - ts = (m - ts) + 1 by omega, lvSum_succ, show ts + (m - ts) = m by omega, H.cnt]
theorem TabOk.stable (ts : Nat) : ∀ d, lvSum st ts (st.count.length - ts + d) = lvSum st ts (st.count.length - ts)
  | 0 => rfl
  | d + 1 => by
    rw [← Nat.add_assoc, lvSum_succ, TabOk.stable ts d, H.cnt, H.beyond (by omega)]; omega
/-- the level of an indent, by its columns -/
theorem TabOk.level {ts : Nat} (h1 : 1 ≤ ts) {n : Nat} (hn : ∀ e ∈ em, e < n) : level st ts = (em.map fun e => ts * (e / ts + 1)).sum := by
  have hle := H.le hn
  have e1 := H.part ts h1 n
  have e2 : lvSum st ts (n - ts) = lvSum st ts (st.count.length - ts) := by
    by_cases q : n ≤ ts
    · rw [show n - ts = 0 by omega, show st.count.length - ts = 0 by omega]
    · by_cases q2 : st.count.length ≤ ts
      · have := H.stable ts (n - ts)
        rw [show st.count.length - ts = 0 by omega, Nat.zero_add] at this
        rw [show st.count.length - ts = 0 by omega]; exact this
      · have := H.stable ts (n - st.count.length)
        rw [show st.count.length - ts + (n - st.count.length) = n - ts by omega] at this
        exact this
  rw [e2] at e1
  have e3 := sum_count (fun k => k / ts) n em hn
  have e4 : (em.map fun e => ts * (e / ts + 1)).sum = ts * ((em.map fun k => k / ts).sum + em.length) := by
    have : ∀ l : List Nat, (l.map fun e => ts * (e / ts + 1)).sum = ts * ((l.map fun k => k / ts).sum + l.length) := by
      intro l
      induction l with
      | nil => simp
      | cons a r ih =>
        simp only [List.map_cons, List.sum_cons, List.length_cons, ih]
        rw [← Nat.mul_add]; congr 1; omega
    exact this em
  unfold Mine.level
  rw [e4, H.b, H.nt, ← e3, e1]; omega
end
theorem lev_one (em : List Nat) : (em.map fun e => 1 * (e / 1 + 1)).sum = (em.map (· + 1)).sum := by
  congr 1
  refine List.map_congr_left fun e _ => ?_
  rw [Nat.div_one]; omega
/-- how many steps leave each column -/
noncomputable def leaves (n : Nat) (em : List Nat) : List Int := (List.range n).map fun k => ((em.count k : Nat) : Int)
theorem leaves_len (n : Nat) (em : List Nat) : (leaves n em).length = n := by unfold leaves; simp
theorem leaves_getD {n : Nat} (em : List Nat) {k : Nat} (hk : k < n) : (leaves n em).getD k 0 = ((em.count k : Nat) : Int) := by
  unfold leaves
  rw [List.getD_eq_getElem?_getD, List.getElem?_map, List.getElem?_range hk]; rfl
theorem sum_cast (f : Nat → Nat) : ∀ l : List Nat, (l.map fun k => ((f k : Nat) : Int)).sum = (((l.map f).sum : Nat) : Int)
  | [] => rfl
  | a :: r => by simp only [List.map_cons, List.sum_cons, sum_cast f r]; push_cast; rfl
theorem colZ_eq {n : Nat} {em : List Nat} (hn : ∀ e ∈ em, e < n) (tab : Nat) : colZ (leaves n em) tab = (((em.map fun e => tab * (e / tab + 1)).sum : Nat) : Int) := by
  unfold colZ
  rw [leaves_len, ← sum_count (fun e => tab * (e / tab + 1)) n em hn, ← sum_cast]
  congr 1
  refine List.map_congr_left fun k hk => ?_
  unfold colT
  rw [leaves_getD em (List.mem_range.mp hk)]
  push_cast; rfl
end Mine
end
section -- N5
open PySem PySem.W PySem.Calls PyProof.Rows PySem.SeqAt
set_option Elab.async false
set_option maxRecDepth 100000
set_option linter.unusedVariables false
namespace Mine
noncomputable def triZ (p : Int × Int × Int) : PyData := .tuple [.int p.1, .int p.2.1, .int p.2.2]
/-! the triples -/
theorem triZ_lay : ∀ l : List (Int × Int × Int), PyData.canLayAll0 (l.map triZ) = true
  | [] => rfl
  | p :: r => by
    have h2 := triZ_lay r
    have h1 : PyData.canLay0 (triZ p) = true := rfl
    rw [List.map_cons]
    simp only [PyData.canLayAll0, h1, h2]; rfl
theorem triZ_depth : ∀ l : List (Int × Int × Int), PyData.depthAll (l.map triZ) ≤ 1
  | [] => by decide
  | p :: r => by
    have h2 := triZ_depth r
    have h1 : PyData.depth (triZ p) ≤ 1 := by
      unfold triZ
      simp only [PyData.depth, PyData.depthAll]; omega
    rw [List.map_cons]
    simp only [PyData.depthAll]; omega
theorem triZ_shaped (l : List (Int × Int × Int)) : SeqAt.shaped (.list (l.map triZ)) = true := by
  have h1 := triZ_depth l
  have h3 : PyData.depth (.list (l.map triZ)) ≤ 64 := by simp only [PyData.depth]; omega
  show (PyData.canLay0 (.list (l.map triZ)) && decide (PyData.depth (.list (l.map triZ)) ≤ 64)) = true
  rw [Bool.and_eq_true]
  refine ⟨?_, decide_eq_true h3⟩
  simp only [PyData.canLay0]
  exact triZ_lay l
theorem triZ_mixA : ∀ l m : List (Int × Int × Int), SeqAt.noMixAll (l.map triZ) (m.map triZ) = true
  | [], m => by cases m <;> rfl
  | _ :: _, [] => rfl
  | p :: r, q :: s => by
    have h2 := triZ_mixA r s
    simp only [List.map_cons, triZ, SeqAt.noMixAll, SeqAt.noMix] at h2 ⊢
    simp [h2]
theorem triZ_mix (l m : List (Int × Int × Int)) : SeqAt.noMix (.list (l.map triZ)) (.list (m.map triZ)) = true := by
  simp only [SeqAt.noMix]; exact triZ_mixA l m
theorem triZ_sameA : ∀ l : List (Int × Int × Int), PySem.Spec.sameAll (l.map triZ) (l.map triZ) = true
  | [] => rfl
  | p :: r => by
    have h2 := triZ_sameA r
    simp only [List.map_cons, triZ, PySem.Spec.sameAll, PySem.Spec.same] at h2 ⊢
    simp [h2]
theorem triZ_same (l : List (Int × Int × Int)) : PySem.Spec.same (.list (l.map triZ)) (.list (l.map triZ)) = true := by
  simp only [PySem.Spec.same]; exact triZ_sameA l
/-! what the nanny says of two indents -/
noncomputable def toIn (l : List Nat) : List Int := l.map Int.ofNat
noncomputable def lev (em : List Nat) (tab : Nat) : Nat := (em.map fun e => tab * (e / tab + 1)).sum
noncomputable def dueW (a b : List Nat) (K : Nat) : List (Int × Int × Int) := ((List.range K).map (· + 1)).filterMap fun tab => if lev b tab ≤ lev a tab then some ((tab : Int), (lev a tab : Int), (lev b tab : Int)) else none
theorem dueW_succ (a b : List Nat) (k : Nat) : dueW a b (k + 1) = dueW a b k ++ (if lev b (k + 1) ≤ lev a (k + 1) then [(((k + 1 : Nat) : Int), (lev a (k + 1) : Int), (lev b (k + 1) : Int))] else []) := by
  unfold dueW
  rw [List.range_succ, List.map_append, List.filterMap_append]
  congr 1
  by_cases h : lev b (k + 1) ≤ lev a (k + 1) <;> simp [h]
theorem dueW_nil (a b : List Nat) : ∀ k, (dueW a b k).isEmpty = (List.range k).all fun j => decide (lev a (j + 1) < lev b (j + 1))
  | 0 => rfl
  | k + 1 => by
    rw [dueW_succ, List.range_succ, List.all_append, ← dueW_nil a b k]
    by_cases h : lev b (k + 1) ≤ lev a (k + 1)
    · rw [if_pos h]
      have h2 : ¬ lev a (k + 1) < lev b (k + 1) := by omega
      simp [h2]
    · rw [if_neg h]
      have h2 : lev a (k + 1) < lev b (k + 1) := by omega
      simp [h2]
theorem longest_eq {em : List Nat} {st : WsSt} (H : TabOk em st) : longest st = ((st.count.length - 1 : Nat) : Int) := by
  unfold longest
  rw [H.b]
  split <;> omega
section
variable {a b : List Nat} {s t : WsSt} {n : Nat} (Ha : TabOk a s) (Hb : TabOk b t) (ha : ∀ e ∈ a, e < n) (hb : ∀ e ∈ b, e < n)
include Ha Hb ha hb
theorem wit_due : ∀ K, (witness s t K).map triD = (dueW a b K).map triZ
  | 0 => rfl
  | K + 1 => by
    rw [witness_succ, dueW_succ, List.map_append, List.map_append, wit_due K, Ha.level (by omega) ha, Hb.level (by omega) hb]
    congr 1
    show (if lev b (K + 1) ≤ lev a (K + 1) then [(K + 1, lev a (K + 1), lev b (K + 1))] else []).map triD = _
    by_cases h : lev b (K + 1) ≤ lev a (K + 1)
    · rw [if_pos h, if_pos h]; rfl
    · rw [if_neg h, if_neg h]; rfl
theorem topOf_eq : topOf s t = max (s.count.length - 1) (t.count.length - 1) + 1 := by
  unfold topOf
  rw [longest_eq Ha, longest_eq Hb]
  split <;> omega
/-- the columns that some step leaves -/
theorem top_max {M : Int} {ks : List Nat} (hks : ks = (List.range n).filter fun k => decide (0 < a.count k) || decide (0 < b.count k))
    (hM : (ks = [] ∧ M = 0) ∨ (ks ≠ [] ∧ M ∈ toIn ks ∧ ∀ x ∈ toIn ks, x ≤ M)) : ∃ m : Nat, M = m ∧ topOf s t = m + 1 := by
  have hin : ∀ k, (0 < a.count k ∨ 0 < b.count k) → k ∈ ks := fun k hk => by
    rw [hks, List.mem_filter, List.mem_range]
    refine ⟨?_, by simpa using hk⟩
    rcases hk with h | h
    · exact ha k (List.count_pos_iff.mp h)
    · exact hb k (List.count_pos_iff.mp h)
  rw [topOf_eq Ha Hb ha hb]
  rcases hM with ⟨h1, h2⟩ | ⟨h1, h2, h3⟩
  · refine ⟨0, h2, ?_⟩
    have z1 : s.count.length = 0 := by
      rcases Nat.eq_zero_or_pos s.count.length with h | h
      · exact h
      · have := hin _ (.inl (Ha.top h)); rw [h1] at this; cases this
    have z2 : t.count.length = 0 := by
      rcases Nat.eq_zero_or_pos t.count.length with h | h
      · exact h
      · have := hin _ (.inr (Hb.top h)); rw [h1] at this; cases this
    omega
  · obtain ⟨m, hm, rfl⟩ := List.mem_map.mp h2
    refine ⟨m, rfl, ?_⟩
    have u1 : s.count.length - 1 ≤ m := by
      rcases Nat.eq_zero_or_pos s.count.length with h | h
      · omega
      · have := h3 _ (List.mem_map_of_mem (hin _ (.inl (Ha.top h))))
        exact Int.ofNat_le.mp this
    have u2 : t.count.length - 1 ≤ m := by
      rcases Nat.eq_zero_or_pos t.count.length with h | h
      · omega
      · have := h3 _ (List.mem_map_of_mem (hin _ (.inr (Hb.top h))))
        exact Int.ofNat_le.mp this
    rw [hks, List.mem_filter] at hm
    have hm2 : 0 < a.count m ∨ 0 < b.count m := by simpa using hm.2
    rcases hm2 with h | h
    · have := Ha.lt h; omega
    · have := Hb.lt h; omega
theorem less_due : lessW s t = (dueW a b (topOf s t)).isEmpty := by
  have l1 : lev a 1 = s.n := (lev_one a).trans Ha.n.symm
  have l2 : lev b 1 = t.n := (lev_one b).trans Hb.n.symm
  have hK := topOf_eq Ha Hb ha hb
  rw [dueW_nil]
  unfold lessW
  by_cases h1 : s.n ≥ t.n
  · rw [if_pos h1]
    symm
    rw [List.all_eq_false]
    refine ⟨0, List.mem_range.mpr (by omega), ?_⟩
    simp only [Nat.zero_add, decide_eq_true_eq]
    omega
  · rw [if_neg h1]
    by_cases h2 : s.count.length ≤ 1 ∧ t.count.length ≤ 1
    · rw [if_pos h2]
      have hK1 : topOf s t = 1 := by omega
      have zero : ∀ {em : List Nat} {st : WsSt}, TabOk em st → st.count.length ≤ 1 → st.n = st.nt := by
        intro em st H hl
        rw [H.n, H.nt]
        have hz : ∀ e ∈ em, e = 0 := fun e he => by
          have := H.lt (List.count_pos_iff.mpr he); omega
        clear H
        induction em with
        | nil => rfl
        | cons x r ih =>
          rw [List.map_cons, List.sum_cons, List.length_cons, ih fun e he => hz e (.tail _ he), hz x (.head _)]; omega
      have z1 := zero Ha h2.1
      have z2 := zero Hb h2.2
      rw [hK1]
      have e1 : (List.range 1).all (fun j => decide (lev a (j + 1) < lev b (j + 1))) = decide (lev a 1 < lev b 1) := by
        show (decide (lev a (0 + 1) < lev b (0 + 1)) && true) = _
        rw [Bool.and_true]
      rw [e1, l1, l2]
      rw [decide_eq_true (show s.nt ≤ t.nt by omega), decide_eq_true (show s.n < t.n by omega)]
    · rw [if_neg h2]
      unfold lessAll
      generalize topOf s t = K at *
      cases K with
      | zero => omega
      | succ K =>
        rw [Nat.add_sub_cancel]
        have e1 : List.range (K + 1) = 0 :: (List.range K).map (· + 1) := by
          rw [List.range_succ_eq_map]
        rw [e1, List.all_cons, List.all_map]
        have e2 : decide (lev a (0 + 1) < lev b (0 + 1)) = true := decide_eq_true (by rw [l1, l2]; omega)
        rw [e2, Bool.true_and]
        congr 1
        funext j
        show decide (level s (2 + j) < level t (2 + j)) = decide (lev a (j + 1 + 1) < lev b (j + 1 + 1))
        rw [Ha.level (by omega) ha, Hb.level (by omega) hb, show 2 + j = j + 1 + 1 by omega]
        rfl
theorem equal_leaves : decide (s.count = t.count ∧ s.b = t.b) = decide (leaves n a = leaves n b) := by
  rw [decide_eq_decide, Ha.b, Hb.b]
  constructor
  · rintro ⟨h, -⟩
    unfold leaves
    refine List.map_congr_left fun k _ => ?_
    rw [← Ha.cnt, ← Hb.cnt, h]
  · intro h
    refine ⟨?_, rfl⟩
    have hc : ∀ k, a.count k = b.count k := fun k => by
      rcases Nat.lt_or_ge k n with hk | hk
      · have := congrArg (fun l => l.getD k 0) h
        simp only [leaves_getD _ hk] at this
        exact Int.ofNat.inj this
      · rw [List.count_eq_zero.mpr fun hm => by have := ha k hm; omega, List.count_eq_zero.mpr fun hm => by have := hb k hm; omega]
    have hl : s.count.length = t.count.length := by
      rcases Nat.lt_trichotomy s.count.length t.count.length with q | q | q
      · have h1 := Hb.top (by omega)
        rw [← hc] at h1
        have := Ha.lt h1; omega
      · exact q
      · have h1 := Ha.top (by omega)
        rw [hc] at h1
        have := Hb.lt h1; omega
    refine List.ext_getElem hl fun i h1 h2 => ?_
    have := hc i
    rw [← Ha.cnt, ← Hb.cnt, List.getD_eq_getElem?_getD, List.getD_eq_getElem?_getD, List.getElem?_eq_getElem h1, List.getElem?_eq_getElem h2] at this
    exact this
end
theorem TabOk.ok {em : List Nat} {st : WsSt} (H : TabOk em st) {n : Nat} (hn : ∀ e ∈ em, e < n) (h5 : n ≤ 5) (hl : em.length ≤ 15) : WsOk st := by
  refine ⟨by have := H.le hn; omega, fun k hk => ?_, by rw [H.nt]; omega, by rw [H.b]; omega⟩
  obtain ⟨i, hi⟩ := List.getElem?_of_mem hk
  have h1 := H.cnt i
  rw [List.getD_eq_getElem?_getD, hi] at h1
  have h2 : k = em.count i := h1
  have h3 : em.count i ≤ em.length := List.count_le_length
  omega
end Mine
end
section -- N6
open PySem PySem.W PySem.Calls PyProof.Rows PySem.SeqAt
set_option Elab.async false
set_option maxRecDepth 100000
set_option linter.unusedVariables false
namespace Mine
/-! the rows alone tell how many steps leave each column -/
noncomputable def heldZ (n h : Nat) (stand : List Nat) : List Int := (List.range n).map fun k => ((cntS n h stand k : Nat) : Int)
theorem heldZ_len (n h : Nat) (stand : List Nat) : (heldZ n h stand).length = n := by unfold heldZ; simp
theorem heldZ_getD {n h : Nat} (stand : List Nat) {k : Nat} (hk : k < n) : (heldZ n h stand).getD k 0 = ((cntS n h stand k : Nat) : Int) := by
  unfold heldZ
  rw [List.getD_eq_getElem?_getD, List.getElem?_map, List.getElem?_range hk]; rfl
theorem setZ_getD (l : List Int) (i c : Nat) (v : Int) (hi : i < l.length) : (l.set i v).getD c 0 = if i = c then v else l.getD c 0 := by
  rw [List.getD_eq_getElem?_getD, List.getD_eq_getElem?_getD, List.getElem?_set]
  by_cases h : i = c
  · subst h; rw [if_pos rfl, if_pos rfl, if_pos hi]; rfl
  · rw [if_neg h, if_neg h]
theorem dec_getD {n h : Nat} (hn : 1 ≤ n) {held : List Int} (hl : held.length = n) (c : Nat) : ∀ j, (decRun n h held j).getD c 0 = held.getD c 0 - ((cntS n h (List.range j) c : Nat) : Int)
  | 0 => by show held.getD c 0 = _ - ((0 : Nat) : Int); omega
  | j + 1 => by
    have hm := Nat.mod_lt (j + h) (show 0 < n by omega)
    have e : cntS n h (List.range (j + 1)) c = cntS n h (List.range j) c + if (j + h) % n = c then 1 else 0 := by
      unfold cntS; rw [List.range_succ, List.map_append, List.sum_append]; simp
    rw [decRun_succ, e]
    unfold decAt
    rw [setZ_getD _ _ _ _ (by rw [decRun_len]; omega)]
    have ih := dec_getD (h := h) hn hl c j
    by_cases q : (j + h) % n = c
    · rw [if_pos q, if_pos q, q, ih]; push_cast; omega
    · rw [if_neg q, if_neg q, ih]; push_cast; omega
theorem ones : ∀ l : List Nat, (l.map fun _ => 1).sum = l.length
  | [] => rfl
  | a :: r => by rw [List.map_cons, List.sum_cons, ones r, List.length_cons]; omega
theorem left_ok {n h : Nat} (hn : 1 ≤ n) {st : List Nat × List Nat} (H : ClOk n h st) : leftZ n h (heldZ n h st.1) (st.2.length : Int) = leaves n st.2 := by
  have hl := heldZ_len n h st.1
  have hD : ∀ c, 1 ≤ c → c < n → (decRun n h (heldZ n h st.1) 3).getD c 0 = ((st.2.count (c - 1) : Nat) : Int) - ((st.2.count c : Nat) : Int) := fun c h1 h2 => by
    have hb := H.bal c h2
    have e1 : (c + n - 1) % n = c - 1 := by
      rw [show c + n - 1 = c - 1 + n by omega, Nat.add_mod_right, Nat.mod_eq_of_lt (by omega)]
    rw [e1] at hb
    rw [dec_getD hn hl c 3, heldZ_getD _ h2]
    have e2 : cntS n h (List.range 3) c = cntS n h [0, 1, 2] c := rfl
    rw [e2]
    omega
  have hdl : (decRun n h (heldZ n h st.1) 3).length = n := by rw [decRun_len, hl]
  unfold leftZ
  generalize decRun n h (heldZ n h st.1) 3 = D at *
  have hg : ∀ k, k < n → ((D.drop 1).take k).sum = ((st.2.count 0 : Nat) : Int) - ((st.2.count k : Nat) : Int) := by
    intro k
    induction k with
    | zero => intro _; simp
    | succ k ih =>
      intro hk
      have ih := ih (by omega)
      have hx : (D.drop 1)[k]? = some (D.getD (k + 1) 0) := by
        rw [List.getElem?_drop, Nat.add_comm 1 k, List.getElem?_eq_getElem (show k + 1 < D.length by omega), List.getD_eq_getElem?_getD, List.getElem?_eq_getElem (show k + 1 < D.length by omega)]; rfl
      rw [List.take_add_one, hx, List.sum_append, ih, hD (k + 1) (by omega) hk, Nat.add_sub_cancel]
      simp; omega
  have hsum : ∀ m, m ≤ n → (gainL m D).sum = (m : Int) * ((st.2.count 0 : Nat) : Int) - ((((List.range m).map fun k => 1 * st.2.count k).sum : Nat) : Int) := by
    intro m
    induction m with
    | zero => intro _; simp [gainL]
    | succ m ih =>
      intro hm
      have ih := ih (by omega)
      unfold gainL at ih ⊢
      rw [List.range_succ, List.map_append, List.sum_append, ih, List.map_append, List.sum_append]
      simp only [List.map_cons, List.map_nil, List.sum_cons, List.sum_nil, hg m (by omega), Nat.one_mul]
      push_cast
      rw [Int.add_mul]
      omega
  have hS := hsum n (Nat.le_refl _)
  rw [sum_count (fun _ => 1) n st.2 H.lt] at hS
  have e3 := ones st.2
  rw [e3] at hS
  have hfirst : ((st.2.length : Int) + (gainL n D).sum).fdiv n = ((st.2.count 0 : Nat) : Int) := by
    rw [hS, show (st.2.length : Int) + ((n : Int) * ((st.2.count 0 : Nat) : Int) - (st.2.length : Int)) = (n : Int) * ((st.2.count 0 : Nat) : Int) by omega]
    exact Int.mul_fdiv_cancel_left _ (by omega)
  rw [hfirst]
  unfold gainL leaves
  rw [List.map_map]
  refine List.map_congr_left fun k hk => ?_
  have := List.mem_range.mp hk
  show _ - ((D.drop 1).take k).sum = _
  rw [hg k this]; omega
/-! the rows of the strip -/
noncomputable def placeB (stand : List Nat) : List Bool := (List.range 8).map fun p => stand.contains p
noncomputable def triples : List (List Nat) := (List.range 8).flatMap fun c => (List.range c).flatMap fun b => (List.range b).map fun a => [a, b, c]
noncomputable def chkRows (n h : Nat) : Bool := triples.all fun st => (heldRun n h (layH n h (placeB st))).1 == (List.range n).map (cntS n h st)
noncomputable def fitRows (n h : Nat) : Bool := (layH n h (List.range 8)).zipIdx.all fun p => decide ((if p.2 = 0 then h else 0) + p.1.length ≤ n)
theorem chk2 : ((List.range 3).all fun h => chkRows 2 h && fitRows 2 h) = true := by decide +kernel
theorem chk3 : ((List.range 4).all fun h => chkRows 3 h && fitRows 3 h) = true := by decide +kernel
theorem chk4 : ((List.range 5).all fun h => chkRows 4 h && fitRows 4 h) = true := by decide +kernel
theorem chk5 : ((List.range 6).all fun h => chkRows 5 h && fitRows 5 h) = true := by decide +kernel
theorem chk_rows {n h : Nat} (hn : 2 ≤ n ∧ n ≤ 5) (hh : h ≤ n) : chkRows n h = true ∧ fitRows n h = true := by
  rw [← Bool.and_eq_true_iff]
  obtain ⟨h1, h2⟩ := hn
  match n, h1, h2 with
  | 2, _, _ => exact List.all_eq_true.mp chk2 h (List.mem_range.mpr (by omega))
  | 3, _, _ => exact List.all_eq_true.mp chk3 h (List.mem_range.mpr (by omega))
  | 4, _, _ => exact List.all_eq_true.mp chk4 h (List.mem_range.mpr (by omega))
  | 5, _, _ => exact List.all_eq_true.mp chk5 h (List.mem_range.mpr (by omega))
theorem mem_triples {a b c : Nat} (h1 : a < b) (h2 : b < c) (h3 : c < 8) : [a, b, c] ∈ triples :=
  List.mem_flatMap.mpr ⟨c, List.mem_range.mpr h3, List.mem_flatMap.mpr ⟨b, List.mem_range.mpr h2, List.mem_map_of_mem (f := fun a => [a, b, c]) (List.mem_range.mpr h1)⟩⟩
theorem rows_held {n h : Nat} (hn : 2 ≤ n ∧ n ≤ 5) (hh : h ≤ n) {st : List Nat × List Nat} (H : ClOk n h st) : nats (heldRun n h (layH n h (placeB st.1))).1 = (heldZ n h st.1).map AV.int := by
  obtain ⟨a, b, c, e, h1, h2, h3, -⟩ := H.tri
  have := List.all_eq_true.mp (chk_rows hn hh).1 _ (mem_triples h1 h2 (show c < 8 by omega))
  rw [e, beq_iff_eq.mp this]
  unfold nats heldZ
  rw [List.map_map, List.map_map]; rfl
theorem rows_fit {α : Type} {n h : Nat} (hn : 2 ≤ n ∧ n ≤ 5) (hh : h ≤ n) {ws : List α} (hw : ws.length = 8) : ∀ i cs, (layH n h ws)[i]? = some cs → (if i = 0 then h else 0) + cs.length ≤ n := by
  intro i cs hi
  have e1 : (layH n h ws).map (·.map fun _ => ()) = (layH n h (List.range 8)).map (·.map fun _ => ()) := by
    rw [layH_map, layH_map]
    congr 1
    rw [List.map_const', List.map_const', hw, List.length_range]
  have h1 := congrArg (fun l => l[i]?) e1
  simp only [List.getElem?_map, hi, Option.map_some] at h1
  obtain ⟨l, hl, e2⟩ := Option.map_eq_some_iff.mp h1.symm
  have h2 := List.all_eq_true.mp (chk_rows hn hh).2 (l, i) (List.mem_zipIdx_iff_getElem?.mpr (by simpa using hl))
  have h3 : (if i = 0 then h else 0) + l.length ≤ n := of_decide_eq_true h2
  have e3 := congrArg List.length e2
  simp only [List.length_map] at e3
  omega
end Mine
end
section -- N7
open PySem PySem.W PySem.Calls PyProof.Rows PySem.SeqAt
set_option Elab.async false
set_option maxRecDepth 100000
set_option linter.unusedVariables false
namespace Mine
/-! the words of the law -/
theorem flag_inj_all : ((List.range 30).all fun i => (List.range i).all fun j => flagWord i != flagWord j) = true := by decide +kernel
theorem flag_inj {i j : Nat} (hi : i < 30) (hj : j < 30) (h : flagWord i = flagWord j) : i = j := by
  have key : ∀ i j, i < 30 → j < i → flagWord i ≠ flagWord j := fun i j hi hj => by
    have := List.all_eq_true.mp (List.all_eq_true.mp flag_inj_all i (List.mem_range.mpr hi)) j (List.mem_range.mpr hj)
    simpa using this
  rcases Nat.lt_trichotomy i j with q | q | q
  · exact absurd h.symm (key j i hj q)
  · exact q
  · exact absurd h (key i j hi q)
noncomputable def stripWd (stand : List Nat) (base p : Nat) : Str := if stand.contains p then flagWord (base + p) else hy
noncomputable def stripW (stand : List Nat) (base : Nat) : List Str := (List.range 8).map (stripWd stand base)
noncomputable def wordsW (stand : List Nat) (base : Nat) : List Str := stand.map fun p => flagWord (base + p)
theorem stripW_len (stand : List Nat) (base : Nat) : (stripW stand base).length = 8 := by unfold stripW; simp
theorem stripW_get {stand : List Nat} {base p : Nat} (hp : p < 8) : (stripW stand base)[p]? = some (stripWd stand base p) := by
  unfold stripW
  rw [List.getElem?_map, List.getElem?_range hp]; rfl
theorem stripW_ok {stand : List Nat} {base : Nat} (hb : base < 23) : ∀ w ∈ stripW stand base, WordOk w := by
  intro w hw
  obtain ⟨p, hp, rfl⟩ := List.mem_map.mp hw
  have := List.mem_range.mp hp
  unfold stripWd
  split
  · exact (flag_ok (by omega)).1
  · exact hy_ok
theorem stripWd_ne {stand : List Nat} {base p : Nat} (hb : base < 23) (hp : p < 8) : (stripWd stand base p != hy) = stand.contains p := by
  unfold stripWd
  cases stand.contains p with
  | true => rw [if_pos rfl]; simpa using (flag_ok (k := base + p) (by omega)).2.1
  | false => rw [if_neg (by decide)]; simp
theorem stripW_bits {stand : List Nat} {base : Nat} (hb : base < 23) : (stripW stand base).map (· != hy) = placeB stand := by
  unfold stripW placeB
  rw [List.map_map]
  refine List.map_congr_left fun p hp => ?_
  exact stripWd_ne hb (List.mem_range.mp hp)
theorem rows_bits {n h : Nat} {stand : List Nat} {base : Nat} (hb : base < 23) : (layH n h (stripW stand base)).map bitsW = layH n h (placeB stand) := by
  rw [← stripW_bits hb, ← layH_map]; rfl
theorem filt_all : (triples.all fun st => (List.range 8).filter (fun p => st.contains p) == st) = true := by decide +kernel
section
variable {n h : Nat} {st : List Nat × List Nat} (H : ClOk n h st)
include H
theorem ClOk.mem : st.1 ∈ triples ∧ ∀ p ∈ st.1, p < 8 := by
  obtain ⟨a, b, c, e, h1, h2, h3, -⟩ := H.tri
  rw [e]
  refine ⟨mem_triples h1 h2 (by omega), fun p hp => ?_⟩
  simp at hp
  omega
theorem ClOk.filt : (List.range 8).filter (fun p => st.1.contains p) = st.1 := beq_iff_eq.mp (List.all_eq_true.mp filt_all _ H.mem.1)
theorem ClOk.len3 : st.1.length = 3 := by
  obtain ⟨a, b, c, e, -⟩ := H.tri
  rw [e]; rfl
theorem ClOk.steps : (toIn st.1).sum - 3 = (st.2.length : Int) := by
  obtain ⟨a, b, c, e, -, -, -, h4⟩ := H.tri
  rw [e]
  show ((a : Int) + ((b : Int) + ((c : Int) + 0))) - 3 = _
  omega
theorem ClOk.split {base : Nat} (hb : base < 23) : Txt.split (prettyOf (flagSum (fun p => st.1.contains p) base 8)) (Str.ofString ", ") = wordsW st.1 base := by
  obtain ⟨a, b, c, e, h1, h2, h3, -⟩ := H.tri
  rw [pretty_sumN _ _ _ (by omega) (by rw [H.filt, e]; simp), H.filt, e]
  exact flags_split hb a [b, c] (by omega) (fun q hq => by simp at hq; omega)
theorem ClOk.pretty_len {base : Nat} (hb : base < 23) : (prettyOf (flagSum (fun p => st.1.contains p) base 8)).length ≤ 100000 := by
  unfold prettyOf
  split
  · decide +kernel
  · have e : ∀ l : List Str, (Txt.join (Str.ofString ", ") l).length ≤ (l.map (·.length)).sum + l.length * 2 := fun l => by
      have := StrLaws.join_length_le (Str.ofString ", ") l
      have e2 : Str.join (Str.ofString ", ") l = Txt.join (Str.ofString ", ") l := (StrLaws.glued_eq_join _ _).symm
      rw [e2] at this
      exact this
    have h1 := e (wordsOf (flagSum (fun p => st.1.contains p) base 8) 32)
    have h2 := words_sum (flagSum (fun p => st.1.contains p) base 8) 32 (Nat.le_refl _)
    have h3 := words_len (flagSum (fun p => st.1.contains p) base 8) 32
    omega
theorem ClOk.sum {base : Nat} : (st.1.map fun (p : Nat) => (1 : Int) * 2 ^ ((base : Int) + (p : Int)).toNat).sum = ((flagSum (fun p => st.1.contains p) base 8 : Nat) : Int) := by
  unfold flagSum
  rw [H.filt, ← sum_cast]
  congr 1
  refine List.map_congr_left fun p _ => ?_
  rw [show ((base : Int) + (p : Int)).toNat = base + p by omega]
  push_cast
  omega
theorem ClOk.isin {base p : Nat} (hb : base < 23) (hp : p < 8) : (wordsW st.1 base).any (· == flagWord (base + p)) = st.1.contains p := by
  rw [Bool.eq_iff_iff, List.any_eq_true, List.contains_iff_mem]
  constructor
  · rintro ⟨x, hx, e⟩
    obtain ⟨q, hq, rfl⟩ := List.mem_map.mp hx
    have hq8 := H.mem.2 q hq
    have := flag_inj (by omega) (by omega) (beq_iff_eq.mp e)
    have : q = p := by omega
    rw [← this]; exact hq
  · intro hm
    exact ⟨_, List.mem_map_of_mem (f := fun p => flagWord (base + p)) hm, by simp⟩
end
/-! the places of the law's cuts -/
noncomputable def rngB (n h : Nat) : Bool := Builtin.Range.small (20 * ((n : Int) - h)) 160 (20 * (n : Int)) && decide (Builtin.Range.rangeSize (20 * ((n : Int) - h)) 160 (20 * (n : Int)) = (endsN n h : Int))
theorem rng_all : ((List.range 6).all fun n => n < 2 || (List.range (n + 1)).all fun h => rngB n h) = true := by decide +kernel
theorem rng_okH {n h : Nat} (hn : 2 ≤ n ∧ n ≤ 5) (hh : h ≤ n) : Builtin.Range.small (20 * ((n : Int) - h)) 160 (20 * (n : Int)) = true ∧ Builtin.Range.rangeSize (20 * ((n : Int) - h)) 160 (20 * (n : Int)) = (endsN n h : Int) := by
  have h1 := List.all_eq_true.mp rng_all n (List.mem_range.mpr (by omega))
  have h2 : decide (n < 2) = false := decide_eq_false (by omega)
  rw [h2, Bool.false_or] at h1
  have h3 := List.all_eq_true.mp h1 h (List.mem_range.mpr (by omega))
  unfold rngB at h3
  rw [Bool.and_eq_true, decide_eq_true_eq] at h3
  exact h3
theorem strsL_mix (xs ys : List Str) : SeqAt.noMix (.list (xs.map PyData.str)) (.list (ys.map PyData.str)) = true := by
  simp only [SeqAt.noMix]; exact strs_mix xs ys
theorem strsL_same (xs : List Str) : PySem.Spec.same (.list (xs.map PyData.str)) (.list (xs.map PyData.str)) = true := by
  simp only [PySem.Spec.same]; exact strs_same xs
theorem row_strOk {l : List Str} (h : ∀ w ∈ l, WordOk w) : PyData.strOk (rowStr l) = true := by
  show (rowStr l).cps.all (· < 0x110000) = true
  rw [← Array.all_toList, rowStr_list, List.all_eq_true]
  intro c hc
  obtain ⟨p, hp, hcp⟩ := List.mem_flatten.mp hc
  obtain ⟨wd, hw, rfl⟩ := List.mem_map.mp hp
  rcases List.mem_append.mp hcp with h1 | h1
  · rw [(List.mem_replicate.mp h1).2]; decide
  · have h2 : wd.cps.all (· < 0x110000) = true := (h wd hw).ok
    rw [← Array.all_toList, List.all_eq_true] at h2
    exact h2 c h1
theorem strip_sum {ws : List Str} (h : ∀ w ∈ ws, WordOk w) : ((ws.map fun w => padS w ++ w).map (·.length)).sum = 20 * ws.length := by
  induction ws with
  | nil => rfl
  | cons a r ih =>
    have h1 := ih fun w hw => h w (.tail _ hw)
    have h2 := (h a (.head _)).le
    have h3 : (padS a ++ a).length = 20 := by
      have e : (padS a ++ a).cps.toList.length = (padS a ++ a).length := by simp [Str.length]
      rw [← e, Str.cps_append, Array.toList_append, ← padded_eq]
      exact padded_len (h a (.head _))
    simp only [List.map_cons, List.sum_cons, List.length_cons, h1, h3]; omega
theorem W.via {P : Program} {w : World} {K : Frag} {sc : Scope} {C : Ctxt w K sc} {ρ : Frame} {σ : Ledger} {α β : Type} {R : β → α → Prop} {t : Sem α} {Φ : β → Frame → Ledger → Prop} (b : β) (h : W P R C ρ σ t fun a ρ' σ' => a = b ∧ ρ' = ρ ∧ σ.Sublist σ') (k : Φ b ρ σ) : W P R C ρ σ t Φ :=
  W.sub (W.mono h fun _ _ _ ⟨h1, h2, h3⟩ => ⟨σ, h3, by rw [h1, h2]; exact k⟩)
theorem place_cast {n h u : Nat} (hh : h ≤ n) : 20 * ((n : Int) - (h : Int)) + (u : Int) * (20 * (n : Int)) = ((20 * (n - h + u * n) : Nat) : Int) := by
  have e : (u : Int) * (20 * (n : Int)) = 20 * ((u * n : Nat) : Int) := by push_cast; rw [Int.mul_left_comm]
  rw [e]
  omega
theorem cut_slice {n h u : Nat} (hn : 2 ≤ n ∧ n ≤ 5) (hh : h ≤ n) {ws : List Str} (hw : ∀ w ∈ ws, WordOk w) (hl : ws.length = 8) (hu : u < endsN n h) :
    Txt.slice (rowStr ws) (some (if 20 * ((n : Int) - (h : Int)) + (u : Int) * (20 * (n : Int)) - 20 * (n : Int) > 0 then 20 * ((n : Int) - (h : Int)) + (u : Int) * (20 * (n : Int)) - 20 * (n : Int) else 0)) (some (20 * ((n : Int) - (h : Int)) + (u : Int) * (20 * (n : Int)))) = rowStr (cutH n h ws u) := by
  have hE := (ends_ok hn hh).last
  have h1 : u * n ≤ (endsN n h - 1) * n := Nat.mul_le_mul_right _ (by omega)
  rw [place_cast hh]
  unfold cutH
  generalize u * n = q at *
  have e : (if ((20 * (n - h + q) : Nat) : Int) - 20 * (n : Int) > 0 then ((20 * (n - h + q) : Nat) : Int) - 20 * (n : Int) else 0) = ((20 * (n - h + q - n) : Nat) : Int) := by
    split <;> omega
  rw [e, strip_cutH hw (by omega) (by omega)]
theorem last_slice {n h : Nat} (hn : 2 ≤ n ∧ n ≤ 5) (hh : h ≤ n) {ws : List Str} (hw : ∀ w ∈ ws, WordOk w) (hl : ws.length = 8) :
    Txt.slice (rowStr ws) (some (20 * ((n : Int) - (h : Int)) + ((endsN n h - 1 : Nat) : Int) * (20 * (n : Int)))) none = rowStr (ws.drop (n - h + (endsN n h - 1) * n)) := by
  have hE := (ends_ok hn hh).last
  rw [place_cast hh, strip_fromH hw (by omega)]
end Mine
end
section -- G23
open PySem PySem.W PySem.Calls PyProof.Rows PySem.SeqAt
set_option Elab.async false
set_option maxRecDepth 100000
set_option maxHeartbeats 1000000
set_option linter.unusedVariables false
-- mget
namespace Mine
noncomputable def lawFd (w : World) : FuncData := match (K1 w).lookup 299 with | some ⟨_, _, .func fd, _⟩ => fd | _ => default
noncomputable def lawScope (w : World) : Scope := (lawFd w).scope
noncomputable def lawBody (w : World) : List Stmt := match (lawFd w).body with | .stmts b => b | _ => []
noncomputable def turnBody (w : World) : List Stmt := match (lawBody w)[7]? with | some (Stmt.For _ _ b _ _) => b | _ => []
/-- the frame of the law within its first loop -/
noncomputable abbrev lawF (l nl : Addr) (total : Int) (h : Nat) (ll : Addr) (z1 z2 z3 z4 z5 : Option AV) : Frame :=
  [(Str.ofString "script", some (.ref l)), (Str.ofString "numbers", some (.ref nl)), (Str.ofString "total", some (.int total)), (Str.ofString "head", some (.int h)), (Str.ofString "leads", some (.ref ll)), (Str.ofString "stand", z1), (Str.ofString "typed", z2), (Str.ofString "rows", z3), (Str.ofString "ends", z4), (Str.ofString "steps", z5), (Str.ofString "top", none), (Str.ofString "due", none), (Str.ofString "tab", none), (Str.ofString "one", none), (Str.ofString "two", none)]
noncomputable abbrev lawT (c1 c2 c3 c4 c5 c6 c7 tl ll nl : Addr) (y1 y2 y3 y4 : Option AV) (base n : Nat) (tolds leads : List AV) (ns : List Int) (D : Ledger) : Ledger :=
  (c1, .cell y1) :: (c2, .cell y2) :: (c3, .cell y3) :: (c4, .cell y4) :: (c5, .cell (some (.ref tl))) :: (c6, .cell (some (.int (base : Int)))) :: (c7, .cell (some (.int (n : Int)))) :: (tl, .list tolds) :: (ll, .list leads) :: (nl, .list (ns.map AV.int)) :: D
noncomputable abbrev lawL (c1 c2 c3 c4 c5 c6 c7 tl ll nl : Addr) (y1 y2 y3 y4 : Option AV) (base n : Nat) (tolds leads : List AV) (ns : List Int) (D : Ledger) : Ledger :=
  (140, .table) :: (147, .table) :: lawT c1 c2 c3 c4 c5 c6 c7 tl ll nl y1 y2 y3 y4 base n tolds leads ns D
noncomputable abbrev cellsL (c1 c2 c3 c4 c5 c6 c7 : Addr) : List (Str × Addr) := [(Str.ofString "whole", c1), (Str.ofString "strip", c2), (Str.ofString "words", c3), (Str.ofString "part", c4), (Str.ofString "told", c5), (Str.ofString "base", c6), (Str.ofString "size", c7)]
noncomputable def callsOf (ns : List Int) (pt : Nat) : List Nat := ns.map fun x => ((x.fdiv pt).fmod 3).toNat
theorem calls_lt (ns : List Int) (pt : Nat) : ∀ c ∈ callsOf ns pt, c < 3 := by
  intro c hc
  obtain ⟨x, -, rfl⟩ := List.mem_map.mp hc
  have h1 := Int.fmod_nonneg_of_pos (x.fdiv pt) (b := 3) (by decide)
  have h2 := Int.fmod_lt_of_pos (x.fdiv pt) (b := 3) (by decide)
  omega
theorem calls_av (ns : List Int) (pt : Nat) : (ns.map fun x => AV.int ((x.fdiv pt).fmod 3)) = nats (callsOf ns pt) := by
  unfold callsOf nats
  rw [List.map_map]
  refine List.map_congr_left fun x _ => ?_
  have h1 := Int.fmod_nonneg_of_pos (x.fdiv pt) (b := 3) (by decide)
  show _ = AV.int ((((x.fdiv pt).fmod 3).toNat : Nat) : Int)
  congr 1
  omega
section
variable {w : World} {C : Ctxt w (K1 w) (lawScope w)} {ρ : Frame} {σ σ' : Ledger}
theorem lawTurn {base n h pt : Nat} {ns : List Int} {l nl c1 c2 c3 c4 c5 c6 c7 tl ll : Addr} {total : Int} {tolds leads : List AV} {D : Ledger} {z1 z2 z3 z4 z5 y1 y2 y3 : Option AV} {Φ : AFlow → Frame → Ledger → Prop} (hd : 30 ≤ C.d) (hn : 2 ≤ n ∧ n ≤ 5) (hh : h ≤ n) (hbase : base < 23) (hpt : 1 ≤ pt ∧ pt ≤ 3) (hns : ns.length = 9)
    (hcl : C.env.cells = cellsL c1 c2 c3 c4 c5 c6 c7) (hl1 : tolds.length ≤ 5) (hl2 : leads.length ≤ 5)
    (k : ∀ tA x D' z1 z2 z3 z4 z5 y1 y2 y3, (∀ p ∈ D, p ∈ D') → (tA, AObj.list ((leaves n (clRun n h (callsOf ns pt)).2).map AV.int)) ∈ D' → WsAt D' x (tabRun (clRun n h (callsOf ns pt)).2) →
      Φ .next (lawF l nl total h ll z1 z2 z3 z4 z5) (lawL c1 c2 c3 c4 c5 c6 c7 tl ll nl y1 y2 y3 (some (.int pt)) base n (tolds ++ [.ref tA]) (leads ++ [.ref x]) ns D')) :
    WF P1 C (lawF l nl total h ll z1 z2 z3 z4 z5) (lawL c1 c2 c3 c4 c5 c6 c7 tl ll nl y1 y2 y3 (some (.int pt)) base n tolds leads ns D) (execs (turnBody w) C.env) Φ := by
  have hsz := sizeLine_eq
  have hm20 : IntMulOk 20 (n : Int) := IntMulOk.of_left (intBits_le_64 (by omega) (by omega))
  have hm20h : IntMulOk 20 ((n : Int) - (h : Int)) := IntMulOk.of_left (intBits_le_64 (by omega) (by omega))
  have hc3 := calls_lt ns pt
  have hcln : (callsOf ns pt).length = 9 := by unfold callsOf; rw [List.length_map]; exact hns
  refine W.subp ?_
  refine x_cons ?_
  refine x_unpack2 ?_
  refine ev_callK rfl (by kernel_rfl) ?_
  refine sp_cons ?_
  refine ev_comp (comp_is1 hcl rfl rfl (by decide +kernel) (by decide +kernel)) ?_
  refine ev_loc (mget 1 rfl) ?_
  refine compH src_list (mget 11 rfl) (fun C2 hd2 hcl2 => ?_)
  refine loop_all (us := ns) (ys := nats (callsOf ns pt)) AV.int (fun x => AV.int ((x.fdiv pt).fmod 3)) rfl (calls_av ns pt) (mget 11 rfl) (by omega) rfl (fun i u hu => ?_) (fun z D0 => ?_)
  · refine ev_bin ?_
    refine ev_bin ?_
    refine ev_loc (.head _) ?_
    refine ev_cell (by rw [hcl2]; rfl) (mget 5 rfl) ?_
    refine op_fdiv_ii (by omega) (PyProof.noPylong_small (by omega)) ?_
    refine ev_int ?_
    refine op_mod_ii (by decide) ?_
    exact ⟨rfl, ⟨_, rfl⟩, .refl _⟩
  refine sp_cons ?_
  refine ev_cell (by rw [hcl]; rfl) (mget 9 rfl) ?_
  refine sp_cons ?_
  refine ev_loc (mget 3 rfl) ?_
  refine sp_nil ?_
  refine th_rii fun t1 t2 => ?_
  refine cl (by omega) (.head _) hn (by omega) hc3 (by omega) (fun t s => ⟨t, _, _, rfl, (.head _), fun vb vc hb hc => ?_⟩)
  refine st_loc (.tail (.tail (.tail (.tail (.tail (.head)))))) hb ?_
  refine st_loc (.tail (.tail (.tail (.tail (.tail (.tail (.head))))))) hc ?_
  have H := clRun_ok (h := h) hn hc3
  have htl := clRun_text (h := h) hn hc3
  generalize clRun n h (callsOf ns pt) = st at *
  have h3 := H.len3
  have hm8 := H.mem.2
  refine W.less (σ' := (s, .list (nats st.1)) :: lawL c1 c2 c3 c4 c5 c6 c7 tl ll nl y1 y2 y3 (some (.int pt)) base n tolds leads ns D) (.cons _ (.cons_cons _ (.cons _ (.refl _)))) ?_
  refine x_cons ?_
  refine x_asg ?_
  refine ev_meth ?_
  refine ev_callK rfl (by kernel_rfl) ?_
  refine sp_cons ?_
  refine ev_callB rfl (by boot_fast) (by decide) ?_
  refine sp_cons ?_
  refine ev_comp (comp_is1 hcl rfl rfl (by decide +kernel) (by decide +kernel)) ?_
  refine ev_loc (mget 5 rfl) ?_
  refine compH src_list (.head _) (fun C2 hd2 hcl2 => ?_)
  refine loop_all (us := st.1) (ys := (st.1.map fun (p : Nat) => (1 : Int) * 2 ^ ((base : Int) + (p : Int)).toNat).map AV.int) (fun p => AV.int (p : Nat)) (fun (p : Nat) => AV.int (1 * 2 ^ ((base : Int) + (p : Int)).toNat)) rfl (by rw [List.map_map]; rfl) (.head _) (by omega) rfl (fun i u hu => ?_) (fun z D1 => ?_)
  · have hu8 := hm8 u (List.mem_of_getElem? hu)
    refine ev_bin ?_
    refine ev_int ?_
    refine ev_bin ?_
    refine ev_cell (by rw [hcl2]; rfl) (mget 8 rfl) ?_
    refine ev_loc (.head _) ?_
    refine op_add_ii ?_
    refine op_shl_ii (by omega) (by omega) (by decide) ?_
    exact ⟨rfl, ⟨_, rfl⟩, .refl _⟩
  refine sp_nil ?_
  refine call_sumE (.head _) H.sum ?_
  refine sp_nil ?_
  refine th_i (fun t4 => ?_)
  refine pf (by omega) (Nat.lt_of_lt_of_le (flagSum_lt _ _ _) (Nat.pow_le_pow_right (by omega) (by omega))) t4 ?_
  have hpl := H.pretty_len hbase
  refine tm_str PySem.F.slot_str_split PySem.F.type_str_split (fun tq => ?_)
  refine cw_b ?_
  refine sp_cons ?_
  refine ev_str ?_
  refine sp_nil ?_
  refine call_split1 (by decide +kernel) (by omega) (fun wl => ?_)
  rw [H.split hbase]
  intro v hv
  refine st_cell (by rw [hcl]; rfl) (.tail (.tail (.tail (.tail (.tail (.tail (.tail (.head)))))))) hv ?_
  have hwok : ∀ x ∈ wordsW st.1 base, PyData.strOk x = true := fun x hx => by
    obtain ⟨p, hp, rfl⟩ := List.mem_map.mp hx
    have := hm8 p hp
    exact (flag_ok (k := base + p) (by omega)).1.ok
  refine x_cons ?_
  refine x_if ?_
  refine W.via false ?_ ⟨fun hb => absurd hb (by decide), fun _ => ?_⟩
  · refine tst_cmp ?_
    refine ev_cell (by rw [hcl]; rfl) (mget 7 rfl) ?_
    refine ev_comp (comp_is1 hcl rfl rfl (by decide +kernel) (by decide +kernel)) ?_
    refine ev_loc (mget 5 rfl) ?_
    refine compH src_list (mget 2 rfl) (fun C2 hd2 hcl2 => ?_)
    refine loop_all (us := st.1) (ys := (wordsW st.1 base).map AV.str) (fun p => AV.int (p : Nat)) (fun (p : Nat) => AV.str (flagWord (base + p))) rfl (by unfold wordsW; rw [List.map_map]; rfl) (mget 2 rfl) (by omega) rfl (fun i u hu => ?_) (fun z D2 => ?_)
    · have hu8 := hm8 u (List.mem_of_getElem? hu)
      refine ev_callK rfl (by kernel_rfl) ?_
      refine sp_cons ?_
      refine ev_bin ?_
      refine ev_cell (by rw [hcl2]; rfl) (mget 10 rfl) ?_
      refine ev_loc (.head _) ?_
      refine op_add_ii ?_
      refine sp_nil ?_
      refine Then.eq1 (a' := .int ((base + u : Nat) : Int)) (by push_cast; rfl) (th_i fun t5 => ?_)
      exact lw (by omega) (by omega) t5 ⟨rfl, ⟨_, rfl⟩, .refl _⟩
    refine cmp_ne_data (r := true) (da := .list ((wordsW st.1 base).map PyData.str)) (db := .list ((wordsW st.1 base).map PyData.str)) (by omega) (.list (mget 1 rfl) (ADats.strs _)) (.list (.head _) (ADats.strs _)) (strs_shaped hwok) (strs_shaped hwok) (strsL_mix _ _) (strsL_same _) ⟨rfl, rfl, .cons _ (.refl _)⟩
  refine x_nil ?_
  refine x_cons ?_
  refine x_asg ?_ (swaps_cell (by kernel_rfl))
  refine ev_comp (comp_is1 hcl rfl rfl (by decide +kernel) (by decide +kernel)) ?_
  refine ev_callT rfl (by boot_fast) (by decide) ?_
  refine sp_cons ?_
  refine ev_int ?_
  refine sp_nil ?_
  refine mk_range1 (fun r => ?_)
  refine compH (src_range0 (n := 8) (by omega) rfl) (.head _) (fun C2 hd2 hcl2 => ?_)
  refine loop_all (us := List.range 8) (ys := ((List.range 8).map fun p => flagWord (base + p)).map AV.str) (fun p => AV.int (p : Nat)) (fun (p : Nat) => AV.str (flagWord (base + p))) rfl (by rw [List.map_map]; rfl) (.head _) (by rw [List.length_range]; omega) rfl (fun i u hu => ?_) (fun z D3 => ?_)
  · have hu8 : u < 8 := List.mem_range.mp (List.mem_of_getElem? hu)
    refine ev_callK rfl (by kernel_rfl) ?_
    refine sp_cons ?_
    refine ev_bin ?_
    refine ev_cell (by rw [hcl2]; rfl) (mget 11 rfl) ?_
    refine ev_loc (.head _) ?_
    refine op_add_ii ?_
    refine sp_nil ?_
    refine Then.eq1 (a' := .int ((base + u : Nat) : Int)) (by push_cast; rfl) (th_i fun t5 => ?_)
    exact lw (by omega) (by omega) t5 ⟨rfl, ⟨_, rfl⟩, .refl _⟩
  intro v hv
  refine st_cell (by rw [hcl]; rfl) (.tail (.tail (.tail (.tail (.tail (.tail (.tail (.tail (.head))))))))) hv ?_
  refine x_cons ?_
  refine x_asg ?_ (swaps_cell (by kernel_rfl))
  refine ev_comp (comp_is1 hcl rfl rfl (by decide +kernel) (by decide +kernel)) ?_
  refine ev_cell (by rw [hcl]; rfl) (mget 8 rfl) ?_
  refine compH src_list (.head _) (fun C2 hd2 hcl2 => ?_)
  refine loop_all (us := List.range 8) (ys := (stripW st.1 base).map AV.str) (fun (p : Nat) => AV.str (flagWord (base + p))) (fun p => AV.str (stripWd st.1 base p)) (by rw [List.map_map]; rfl) (by unfold stripW; rw [List.map_map]; rfl) (.head _) (by rw [List.length_range]; omega) rfl (fun i u hu => ?_) (fun z sl => ?_)
  · have hu8 : u < 8 := List.mem_range.mp (List.mem_of_getElem? hu)
    refine ev_ifexp ?_
    refine tst_cmp ?_
    refine ev_loc (.head _) ?_
    refine ev_cell (by rw [hcl2]; rfl) (mget 9 rfl) ?_
    refine cmp_in_strs (ys := wordsW st.1 base) (mget 2 rfl) ?_
    rw [H.isin hbase hu8]
    refine ⟨fun hb => ?_, fun hb => ?_⟩
    · refine ev_loc (.head _) ⟨?_, ⟨_, rfl⟩, .refl _⟩
      unfold stripWd; rw [if_pos hb]
    · refine ev_str ⟨?_, ⟨_, rfl⟩, .refl _⟩
      unfold stripWd; rw [if_neg (by rw [hb]; decide)]
  intro v hv
  refine st_cell (by rw [hcl]; rfl) (.tail (.tail (.tail (.tail (.tail (.tail (.tail (.tail (.tail (.head)))))))))) hv ?_
  refine W.less (σ' := (sl, .list ((stripW st.1 base).map AV.str)) :: (s, .list (nats st.1)) :: lawL c1 c2 c3 c4 c5 c6 c7 tl ll nl y1 (some (.ref sl)) (some (.ref wl)) (some (.int pt)) base n tolds leads ns D) (.cons_cons _ (.cons _ (.cons _ (.cons _ (.cons _ (.cons_cons _ (.refl _))))))) ?_
  refine W.perm (List.perm_append_comm_assoc [(sl, AObj.list ((stripW st.1 base).map AV.str)), (s, .list (nats st.1))] [(140, .table), (147, .table)] (lawT c1 c2 c3 c4 c5 c6 c7 tl ll nl y1 (some (.ref sl)) (some (.ref wl)) (some (.int pt)) base n tolds leads ns D)) ?_
  have hsw := stripW_ok (stand := st.1) hbase
  have hsl := stripW_len st.1 base
  refine x_cons ?_
  refine x_asgL ?_
  refine ev_callK rfl (by kernel_rfl) ?_
  refine sp_cons ?_
  refine ev_cell (by rw [hcl]; rfl) (mget 5 rfl) ?_
  refine sp_cons ?_
  refine ev_cell (by rw [hcl]; rfl) (mget 10 rfl) ?_
  refine sp_cons ?_
  refine ev_loc (mget 3 rfl) ?_
  refine sp_nil ?_
  refine th_rii fun t5 t6 => ?_
  refine laidH (by omega) (by omega) hh hsw (fun e => by rw [e] at hsl; simp at hsl) (by omega) (.head _) (fun a => ⟨_, (.tail (.tail (.tail (.tail (.tail (.tail (.tail (.head)))))))), ?_⟩)
  refine x_cons ?_
  refine x_asg ?_
  refine ev_meth ?_
  refine ev_str ?_
  refine tm_str PySem.F.slot_str_join PySem.F.type_str_join (fun tq => ?_)
  refine cw_b ?_
  refine sp_cons ?_
  refine ev_comp (comp_is1 hcl rfl rfl (by decide +kernel) (by decide +kernel)) ?_
  refine ev_cell (by rw [hcl]; rfl) (mget 6 rfl) ?_
  refine compH src_list (mget 3 rfl) (fun C2 hd2 hcl2 => ?_)
  refine loop_all (us := stripW st.1 base) (ys := ((stripW st.1 base).map fun w => padS w ++ w).map AV.str) AV.str (fun w => AV.str (padS w ++ w)) rfl (by rw [List.map_map]; rfl) (mget 3 rfl) (by omega) rfl (fun i u hu => ?_) (fun z D5 => ?_)
  · have hok := hsw u (List.mem_of_getElem? hu)
    have hle := hok.le
    refine ev_bin ?_
    refine ev_bin ?_
    refine ev_str ?_
    refine ev_bin ?_
    refine ev_int ?_
    refine ev_callB rfl (by boot_fast) (by decide) ?_
    refine sp_cons ?_
    refine ev_loc (.head _) ?_
    refine sp_nil ?_
    refine call_len_str (by omega) ?_
    refine op_sub_ii ?_
    refine op_mul_si (c := 32) (by decide +kernel) (by omega) (by omega) ?_
    refine ev_loc (.head _) ?_
    refine op_add_ss (by rw [rep_len]; omega) ?_
    exact ⟨rfl, ⟨_, rfl⟩, .refl _⟩
  refine sp_nil ?_
  refine call_joinE (ys := (stripW st.1 base).map fun w => padS w ++ w) (.head _) (by decide) (by rw [strip_sum hsw, List.length_map, hsl]; decide) (strip_join (stripW st.1 base)) ?_
  intro v hv
  refine st_cell (by rw [hcl]; rfl) (.tail (.tail (.tail (.tail (.tail (.tail (.head))))))) hv ?_
  have hE := ends_ok hn hh
  obtain ⟨rs1, rs2⟩ := rng_okH hn hh
  have hE1 := hE.pos
  have hE2 := hE.le
  have hE3 := hE.last
  have hwl : (rowStr (stripW st.1 base)).length = 160 := by rw [rowStr_len hsw, hsl]
  refine x_cons ?_
  refine x_asgL ?_
  refine ev_callT rfl (by boot_fast) (by decide) ?_
  refine sp_cons ?_
  refine ev_callT rfl (by boot_fast) (by decide) ?_
  refine sp_cons ?_
  refine ev_bin ?_
  refine ev_int ?_
  refine ev_bin ?_
  refine ev_cell (by rw [hcl]; rfl) (mget 12 rfl) ?_
  refine ev_loc (mget 3 rfl) ?_
  refine op_sub_ii ?_
  refine op_mul_ii hm20h ?_
  refine sp_cons ?_
  refine ev_int ?_
  refine sp_cons ?_
  refine ev_bin ?_
  refine ev_int ?_
  refine ev_cell (by rw [hcl]; rfl) (mget 12 rfl) ?_
  refine op_mul_ii hm20 ?_
  refine sp_nil ?_
  refine mk_range3 (by omega) (PyProof.noPylong_small (by omega)) (fun r3 => ?_)
  refine sp_nil ?_
  refine call_listR (.head _) rs1 rs2 (by omega) (fun el => ⟨_, (.tail (.tail (.tail (.tail (.tail (.tail (.tail (.tail (.head))))))))), ?_⟩)
  have hrowok : ∀ l ∈ layH n h (stripW st.1 base), ∀ x ∈ l, WordOk x := fun l hl x hx => hsw x (layH_mem (by omega) hl hx)
  have hcut := layH_cut hn hh hsl
  refine x_cons ?_
  refine x_if ?_
  refine W.via false ?_ ⟨fun hb => absurd hb (by decide), fun _ => ?_⟩
  · refine tst_cmp ?_
    refine ev_loc (mget 7 rfl) ?_
    refine ev_bin ?_
    refine ev_comp (comp_is1 hcl rfl rfl (by decide +kernel) (by decide +kernel)) ?_
    refine ev_loc (mget 8 rfl) ?_
    refine compH src_list (.head _) (fun C2 hd2 hcl2 => ?_)
    refine loop_all (us := List.range (endsN n h)) (ys := ((List.range (endsN n h)).map fun j => rowStr (cutH n h (stripW st.1 base) j)).map AV.str) (fun j => AV.int (20 * ((n : Int) - (h : Int)) + (j : Int) * (20 * (n : Int)))) (fun j => AV.str (rowStr (cutH n h (stripW st.1 base) j))) rfl (by rw [List.map_map]; rfl) (.head _) (by rw [List.length_range]; omega) rfl (fun i u hu => ?_) (fun z D6 => ?_)
    · have hu' : u < endsN n h := List.mem_range.mp (List.mem_of_getElem? hu)
      refine ev_sub ?_
      refine ev_cell (by rw [hcl2]; rfl) (mget 8 rfl) ?_
      refine ev_sliceLU ?_
      refine ev_callB rfl (by boot_fast) (by decide) ?_
      refine sp_cons ?_
      refine ev_int ?_
      refine sp_cons ?_
      refine ev_bin ?_
      refine ev_loc (.head _) ?_
      refine ev_bin ?_
      refine ev_int ?_
      refine ev_cell (by rw [hcl2]; rfl) (mget 14 rfl) ?_
      refine op_mul_ii hm20 ?_
      refine op_sub_ii ?_
      refine sp_nil ?_
      refine call_max2 ?_
      refine ev_loc (.head _) ?_
      refine (fun sx => ?_)
      refine sub_strS (.head _) (by omega) ?_
      exact ⟨congrArg AV.str (cut_slice hn hh hsw hsl hu'), ⟨_, rfl⟩, .cons _ (.refl _)⟩
    refine ev_list ?_
    refine sp_cons ?_
    refine ev_sub ?_
    refine ev_cell (by rw [hcl]; rfl) (mget 9 rfl) ?_
    refine ev_sliceL ?_
    refine ev_sub ?_
    refine ev_loc (mget 8 rfl) ?_
    refine ev_usub ?_
    refine ev_int ?_
    refine ⟨_, rfl, ?_⟩
    refine sub_listN (xs := (List.range (endsN n h)).map fun (i : Nat) => AV.int (20 * ((n : Int) - (h : Int)) + (i : Int) * (20 * (n : Int)))) (a := .int (20 * ((n : Int) - (h : Int)) + ((endsN n h - 1 : Nat) : Int) * (20 * (n : Int)))) (mget 1 rfl) (by decide) (by rw [List.length_map, List.length_range]; omega) (by decide) ?_ ?_
    · rw [List.length_map, List.length_range, show ((-1 : Int) + (endsN n h : Int)).toNat = endsN n h - 1 by omega, List.getElem?_map, List.getElem?_range (by omega)]; rfl
    refine (fun sx => ?_)
    refine sub_strF (.head _) (by omega) ?_
    refine sp_nil ?_
    refine new_list (by show 1 ≤ _; omega) (fun q => ?_)
    rw [last_slice hn hh hsw hsl]
    refine op_add_ll (xs := ((List.range (endsN n h)).map fun j => rowStr (cutH n h (stripW st.1 base) j)).map AV.str) (ys := [AV.str (rowStr ((stripW st.1 base).drop (n - h + (endsN n h - 1) * n)))]) (mget 2 rfl) (.head _) (by rw [List.length_map, List.length_map, List.length_range, List.length_singleton]; omega) (fun al => ?_)
    have eal : ((List.range (endsN n h)).map fun j => rowStr (cutH n h (stripW st.1 base) j)).map AV.str ++ [AV.str (rowStr ((stripW st.1 base).drop (n - h + (endsN n h - 1) * n)))] = ((layH n h (stripW st.1 base)).map rowStr).map AV.str := by
      rw [hcut]; simp only [List.map_append, List.map_map, List.map_cons, List.map_nil]; rfl
    rw [eal]
    have hsh : SeqAt.shaped (.list (((layH n h (stripW st.1 base)).map rowStr).map PyData.str)) = true := strs_shaped fun x hx => by
      obtain ⟨l, hl, rfl⟩ := List.mem_map.mp hx
      exact row_strOk (hrowok l hl)
    exact cmp_ne_data (r := true) (da := .list (((layH n h (stripW st.1 base)).map rowStr).map PyData.str)) (db := .list (((layH n h (stripW st.1 base)).map rowStr).map PyData.str)) (by omega) (.list (mget 7 rfl) (ADats.strs _)) (.list (.head _) (ADats.strs _)) hsh hsh (strsL_mix _ _) (strsL_same _) ⟨rfl, rfl, .cons _ (.cons _ (.cons _ (.cons _ (.refl _))))⟩
  refine x_nil ?_
  refine x_cons ?_
  refine x_asgL ?_
  refine ev_bin ?_
  refine ev_callB rfl (by boot_fast) (by decide) ?_
  refine sp_cons ?_
  refine ev_comp (comp_is1 hcl rfl rfl (by decide +kernel) (by decide +kernel)) ?_
  refine ev_callT rfl (by boot_fast) (by decide) ?_
  refine sp_cons ?_
  refine ev_int ?_
  refine sp_nil ?_
  refine mk_range1 (fun r4 => ?_)
  refine compH (src_range0 (n := 8) (by omega) rfl) (.head _) (fun C2 hd2 hcl2 => ?_)
  refine loop_to (us := List.range 8) (ys := (toIn st.1).map AV.int) (fun i => AV.int (i : Nat)) (fun p => st.1.contains p) (fun i => AV.int (i : Nat)) rfl (by rw [H.filt]; unfold toIn; rw [List.map_map]; rfl) (.head _) (by rw [List.length_range]; omega) rfl (fun i u hu => ?_) (fun z D7 => ?_)
  · have hu8 : u < 8 := List.mem_range.mp (List.mem_of_getElem? hu)
    refine t_one ?_
    refine tst_cmp ?_
    refine ev_sub ?_
    refine ev_cell (by rw [hcl2]; rfl) (mget 10 rfl) ?_
    refine ev_loc (.head _) ?_
    refine sub_list (a := .str (stripWd st.1 base u)) (mget 7 rfl) (by omega) (by omega) (by rw [List.getElem?_map, Int.toNat_natCast, stripW_get hu8]; rfl) ?_
    refine ev_str ?_
    refine cmp_ne_ss ?_
    refine ⟨stripWd_ne hbase hu8, rfl, .refl _, fun _ => ?_⟩
    refine ev_loc (.head _) ?_
    exact ⟨rfl, ⟨_, rfl⟩, .refl _⟩
  refine sp_nil ?_
  refine call_sum_ints (.head _) ?_
  refine ev_int ?_
  refine op_sub_ii ?_
  rw [H.steps]
  refine ⟨_, (.tail (.tail (.tail (.tail (.tail (.tail (.tail (.tail (.tail (.head)))))))))), ?_⟩
  refine W.less (σ' := (a, .list (((layH n h (stripW st.1 base)).map rowStr).map AV.str)) :: (140, .table) :: (147, .table) :: (sl, .list ((stripW st.1 base).map AV.str)) :: (s, .list (nats st.1)) :: lawT c1 c2 c3 c4 c5 c6 c7 tl ll nl (some (.str (rowStr (stripW st.1 base)))) (some (.ref sl)) (some (.ref wl)) (some (.int pt)) base n tolds leads ns D) (.cons _ (.cons _ (.cons _ (.cons _ (.cons _ (.refl _)))))) ?_
  refine x_cons ?_
  refine x_expr ?_
  refine ev_meth ?_
  refine ev_cell (by rw [hcl]; rfl) (mget 9 rfl) ?_
  refine tm_append (mget 12 rfl) ?_
  refine cw_b ?_
  refine sp_cons ?_
  refine ev_callK rfl (by kernel_rfl) ?_
  refine sp_cons ?_
  refine ev_callK rfl (by kernel_rfl) ?_
  refine sp_cons ?_
  refine ev_loc (mget 7 rfl) ?_
  refine sp_cons ?_
  refine ev_cell (by rw [hcl]; rfl) (mget 11 rfl) ?_
  refine sp_cons ?_
  refine ev_loc (mget 3 rfl) ?_
  refine sp_nil ?_
  refine th_rii fun t7 t8 => ?_
  refine hel (css := layH n h (stripW st.1 base)) (by omega) (.head _) ?_ ?_ (by omega) (by omega) (rows_fit hn hh hsl) (fun hl => ?_)
  · rw [List.map_map]
    refine (List.map_congr_left fun l hl => ?_).trans (List.map_id _)
    exact words_row (hrowok l hl)
  · intro r hr
    obtain ⟨l, hl, rfl⟩ := List.mem_map.mp hr
    rw [rowStr_len (hrowok l hl)]
    have h1 := (List.sublist_flatten_of_mem hl).length_le
    rw [layH_flat (by omega)] at h1
    omega
  rw [rows_bits hbase, rows_held hn hh H]
  refine sp_cons ?_
  refine ev_loc (mget 9 rfl) ?_
  refine sp_cons ?_
  refine ev_loc (mget 3 rfl) ?_
  refine sp_nil ?_
  refine th_rii fun t9 t10 => ?_
  refine lft (by omega) (heldZ_len _ _ _) ⟨hn.1, by omega⟩ (by omega) (fun tA => ?_)
  rw [left_ok (by omega) H]
  refine sp_nil ?_
  refine call_append (.tail (.tail (.tail (.tail (.tail (.tail (.tail (.tail (.tail (.tail (.tail (.tail (.tail (.head)))))))))))))) (by omega) ?_
  refine x_cons ?_
  refine x_expr ?_
  refine ev_meth ?_
  refine ev_loc (mget 4 rfl) ?_
  refine tm_append (mget 14 rfl) ?_
  refine cw_b ?_
  refine sp_cons ?_
  refine ev_callK rfl (by kernel_rfl) ?_
  refine sp_cons ?_
  refine ev_loc (mget 6 rfl) ?_
  refine sp_nil ?_
  refine th_s (fun t11 => ?_)
  refine call_cls (Cc := 252) (fI := 207) (by omega) (by kernel_rfl) (by kernel_rfl) (by kernel_rfl) (fun C' x d hd' => ?_)
  refine wsi (by omega) (tabsS_sign _) (by omega) (fun t tc => ⟨rfl, ?_⟩)
  rw [ws_run]
  refine sp_nil ?_
  refine call_append (.tail (.tail (.tail (.tail (.tail (.tail (.tail (.tail (.tail (.tail (.tail (.tail (.tail (.tail (.tail (.tail (.tail (.tail (.head))))))))))))))))))) (by omega) ?_
  refine x_nil ?_
  refine ⟨[(t, _), (tc, _), (x, _), (d, _), (tA, _)] ++ (lawL c1 c2 c3 c4 c5 c6 c7 tl ll nl (some (.str (rowStr (stripW st.1 base)))) (some (.ref sl)) (some (.ref wl)) (some (.int pt)) base n (tolds ++ [.ref tA]) (leads ++ [.ref x]) ns [] ++ D), lawL c1 c2 c3 c4 c5 c6 c7 tl ll nl (some (.str (rowStr (stripW st.1 base)))) (some (.ref sl)) (some (.ref wl)) (some (.int pt)) base n (tolds ++ [.ref tA]) (leads ++ [.ref x]) ns [] ++ ([(t, _), (tc, _), (x, _), (d, _), (tA, _)] ++ D), .cons_cons _ (.cons_cons _ (.cons_cons _ (.cons_cons _ (.cons_cons _ (.cons _ (.cons_cons _ (.cons_cons _ (.cons _ (.cons _ (.refl _)))))))))), List.perm_append_comm_assoc _ _ _, ?_⟩
  exact k tA x _ _ _ _ _ _ _ _ _ (fun p hp => (.tail _ (.tail _ (.tail _ (.tail _ (.tail _ (hp))))))) (mget 4 rfl) ⟨_, _, _, _, (mget 2 rfl), (mget 3 rfl), (.head _), (mget 1 rfl)⟩
end
end Mine
end
section -- G24
open PySem PySem.W PySem.Calls PyProof.Rows PySem.SeqAt
set_option Elab.async false
set_option maxRecDepth 100000
set_option maxHeartbeats 1000000
set_option linter.unusedVariables false
-- mget
namespace Mine
noncomputable def dflt : List Int := [8, 8, 4, 8, 3, 7, 5, 4, 0]
noncomputable def nums (script : List Int) : List Int := script.take 9 ++ dflt.drop script.length
theorem nums_len (script : List Int) : (nums script).length = 9 := by
  unfold nums dflt
  rw [List.length_append, List.length_take, List.length_drop]
  show min 9 script.length + (9 - script.length) = 9
  omega
theorem nums_av (script : List Int) {n : Nat} (hn : n = script.length) : (((script.map AV.int).drop 0).take (min 9 n - 0)) ++ (((dflt.map AV.int).drop (min n 9)).take (9 - min n 9)) = (nums script).map AV.int := by
  subst hn
  unfold nums
  rw [List.map_append, List.drop_zero, Nat.sub_zero, List.map_take, List.map_drop]
  have h1 : (script.map AV.int).take (min 9 script.length) = (script.map AV.int).take 9 := by
    by_cases h : 9 ≤ script.length
    · rw [Nat.min_eq_left h]
    · rw [Nat.min_eq_right (by omega), List.take_of_length_le (by simp), List.take_of_length_le (by simp; omega)]
  have hl : (dflt.map AV.int).length = 9 := rfl
  have h2 : ((dflt.map AV.int).drop (min script.length 9)).take (9 - min script.length 9) = (dflt.map AV.int).drop script.length := by
    rw [List.take_of_length_le (by rw [List.length_drop, hl]; exact Nat.le_refl _)]
    by_cases h : 9 ≤ script.length
    · rw [Nat.min_eq_right h, List.drop_of_length_le (by rw [hl]; exact Nat.le_refl _), List.drop_of_length_le (by rw [hl]; exact h)]
    · rw [Nat.min_eq_left (by omega)]
  rw [h1, h2]
theorem mod_nat (t : Int) {k : Nat} (hk : 0 < k) : ∃ b : Nat, b < k ∧ t.fmod k = (b : Int) := by
  have h1 := Int.fmod_nonneg_of_pos t (b := (k : Int)) (by omega)
  have h2 := Int.fmod_lt_of_pos t (b := (k : Int)) (by omega)
  exact ⟨(t.fmod k).toNat, by omega, by omega⟩
noncomputable def emOf (ns : List Int) (n h pt : Nat) : List Nat := (clRun n h (callsOf ns pt)).2
/-- what a turn leaves in the ledger -/
noncomputable def Left (D : Ledger) (ns : List Int) (n h pt : Nat) (tA x : Addr) : Prop := (tA, AObj.list ((leaves n (emOf ns n h pt)).map AV.int)) ∈ D ∧ WsAt D x (tabRun (emOf ns n h pt))
theorem Left.mono {D D' : Ledger} {ns : List Int} {n h pt : Nat} {tA x : Addr} (hs : ∀ p ∈ D, p ∈ D') (H : Left D ns n h pt tA x) : Left D' ns n h pt tA x := ⟨hs _ H.1, H.2.mono hs⟩
inductive Done (D : Ledger) (ns : List Int) (n h : Nat) : Nat → List AV → List AV → Prop
  | zero : Done D ns n h 0 [] []
  | one {tA x : Addr} : Left D ns n h 1 tA x → Done D ns n h 1 [.ref tA] [.ref x]
  | two {tA x tB y : Addr} : Left D ns n h 1 tA x → Left D ns n h 3 tB y → Done D ns n h 2 [.ref tA, .ref tB] [.ref x, .ref y]
theorem Done.len {D : Ledger} {ns : List Int} {n h i : Nat} {ts ls : List AV} (H : Done D ns n h i ts ls) : ts.length ≤ 5 ∧ ls.length ≤ 5 := by
  cases H <;> simp
section
variable {w : World} {C : Ctxt w (K1 w) (lawScope w)} {ρ : Frame} {σ σ' : Ledger}
noncomputable abbrev lawF0 (l : Addr) : Frame :=
  [(Str.ofString "script", some (.ref l)), (Str.ofString "numbers", none), (Str.ofString "total", none), (Str.ofString "head", none), (Str.ofString "leads", none), (Str.ofString "stand", none), (Str.ofString "typed", none), (Str.ofString "rows", none), (Str.ofString "ends", none), (Str.ofString "steps", none), (Str.ofString "top", none), (Str.ofString "due", none), (Str.ofString "tab", none), (Str.ofString "one", none), (Str.ofString "two", none)]
theorem lawHead {script : List Int} {us : List Value} {m : Nat} (hus : All2 AV.is (script.map AV.int) us) {l c1 c2 c3 c4 c5 c6 c7 : Addr} {Φ : AFlow → Frame → Ledger → Prop} (hd : 40 ≤ C.d) (hlen : script.length ≤ 63)
    (hcl : C.env.cells = cellsL c1 c2 c3 c4 c5 c6 c7) {rest : List Stmt} (hrest : lawBody w = (lawBody w).take 8 ++ rest)
    (k : ∀ (n h base : Nat) nl ll tl tA x tB y D z1 z2 z3 z4 z5 y1 y2 y3 y4 total, (2 ≤ n ∧ n ≤ 5) → h ≤ n → base < 23 → Left D (nums script) n h 1 tA x → Left D (nums script) n h 3 tB y → (l, rawList us m) ∈ D →
      WF P1 C (lawF l nl total h ll z1 z2 z3 z4 z5) (lawL c1 c2 c3 c4 c5 c6 c7 tl ll nl y1 y2 y3 y4 base n [.ref tA, .ref tB] [.ref x, .ref y] (nums script) D) (execs rest C.env) Φ) :
    WF P1 C (lawF0 l) [(c1, .cell none), (c2, .cell none), (c3, .cell none), (c4, .cell none), (c5, .cell none), (c6, .cell none), (c7, .cell none), (140, .table), (147, .table), (l, rawList us m)] (execs (lawBody w) C.env) Φ := by
  have hsz := sizeLine_eq
  have hl : (script.map AV.int).length = script.length := List.length_map _
  rw [hrest]
  refine x_cons ?_
  refine x_asgL ?_
  refine ev_bin ?_
  refine ev_sub ?_
  refine ev_loc (.head _) ?_
  refine ev_sliceU ?_
  refine ev_int ?_
  refine (fun s1 => ?_)
  refine sub_listSR (a := 0) (b := min 9 (script.map AV.int).length) (mget 10 rfl) hus (.head _) rfl rfl (bounds_upto _ 9) (by omega) (fun a1 => ?_)
  refine ev_sub ?_
  refine ev_list ?_
  refine sp_cons ?_
  refine ev_int ?_
  refine sp_cons ?_
  refine ev_int ?_
  refine sp_cons ?_
  refine ev_int ?_
  refine sp_cons ?_
  refine ev_int ?_
  refine sp_cons ?_
  refine ev_int ?_
  refine sp_cons ?_
  refine ev_int ?_
  refine sp_cons ?_
  refine ev_int ?_
  refine sp_cons ?_
  refine ev_int ?_
  refine sp_cons ?_
  refine ev_int ?_
  refine sp_nil ?_
  refine new_list (by decide +kernel) (fun a2 => ?_)
  refine ev_sliceL ?_
  refine ev_callB rfl (by boot_fast) (by decide) ?_
  refine sp_cons ?_
  refine ev_loc (.head _) ?_
  refine sp_nil ?_
  refine call_len_listR (mget 12 rfl) (by rw [← hus.length]; omega) ?_
  rw [← hus.length]
  refine (fun s2 => ?_)
  refine sub_listS (a := min (script.map AV.int).length 9) (b := 9) (mget 1 rfl) (.head _) rfl rfl (bounds_fromM _ _) (by decide +kernel) (fun a3 => ?_)
  refine op_add_ll (xs := ((script.map AV.int).drop 0).take (min 9 (script.map AV.int).length - 0)) (ys := ((dflt.map AV.int).drop (min (script.map AV.int).length 9)).take (9 - min (script.map AV.int).length 9)) (mget 3 rfl) (.head _) ?_ (fun nl => ?_)
  · rw [List.length_take, List.length_take, List.length_drop, List.length_drop]
    have : (dflt.map AV.int).length = 9 := rfl
    omega
  rw [hl, nums_av script rfl]
  have hns := nums_len script
  generalize nums script = ns at *
  refine ⟨_, (.tail (.head)), ?_⟩
  refine x_cons ?_
  refine x_asgL ?_
  refine ev_callB rfl (by boot_fast) (by decide) ?_
  refine sp_cons ?_
  refine ev_loc (mget 1 rfl) ?_
  refine sp_nil ?_
  refine call_sum_ints (.head _) ?_
  refine ⟨_, (.tail (.tail (.head))), ?_⟩
  generalize ns.sum = T
  refine x_cons ?_
  refine x_asg ?_
  refine ev_bin ?_
  refine ev_int ?_
  refine ev_bin ?_
  refine ev_bin ?_
  refine ev_loc (mget 2 rfl) ?_
  refine ev_int ?_
  refine op_fdiv_ii (by decide) (PyProof.noPylong_small (by decide)) ?_
  refine ev_int ?_
  refine op_mod_ii (by decide) ?_
  refine op_add_ii ?_
  obtain ⟨n0, hn0, en⟩ := mod_nat (T.fdiv 9) (k := 4) (by decide)
  rw [show (T.fdiv 9).fmod 4 = (n0 : Int) from en, show (2 : Int) + (n0 : Int) = ((2 + n0 : Nat) : Int) by push_cast; rfl]
  have hn : 2 ≤ 2 + n0 ∧ 2 + n0 ≤ 5 := ⟨by omega, by omega⟩
  generalize 2 + n0 = n at *
  intro v hv
  refine st_cell (by rw [hcl]; rfl) (.tail (.tail (.tail (.tail (.tail (.tail (.tail (.tail (.tail (.tail (.tail (.tail (.head))))))))))))) hv ?_
  refine x_cons ?_
  refine x_asgL ?_
  refine ev_bin ?_
  refine ev_bin ?_
  refine ev_loc (mget 2 rfl) ?_
  refine ev_int ?_
  refine op_fdiv_ii (by decide) (PyProof.noPylong_small (by decide)) ?_
  refine ev_bin ?_
  refine ev_cell (by rw [hcl]; rfl) (mget 12 rfl) ?_
  refine ev_int ?_
  refine op_add_ii ?_
  refine op_mod_ii (by omega) ?_
  obtain ⟨h, hh, eh⟩ := mod_nat (T.fdiv 36) (k := n + 1) (by omega)
  rw [show (T.fdiv 36).fmod ((n : Int) + 1) = (h : Int) from by rw [← eh]; push_cast; rfl]
  refine ⟨_, (.tail (.tail (.tail (.head)))), ?_⟩
  refine x_cons ?_
  refine x_asg ?_
  refine ev_bin ?_
  refine ev_loc (mget 2 rfl) ?_
  refine ev_int ?_
  refine op_mod_ii (by decide) ?_
  obtain ⟨base, hbase, eb⟩ := mod_nat T (k := 23) (by decide)
  rw [show T.fmod 23 = (base : Int) from eb]
  intro v hv
  refine st_cell (by rw [hcl]; rfl) (.tail (.tail (.tail (.tail (.tail (.tail (.tail (.tail (.tail (.tail (.tail (.head)))))))))))) hv ?_
  refine x_cons ?_
  refine x_asgL ?_
  refine ev_list ?_
  refine sp_nil ?_
  refine new_list (by show 0 ≤ _; omega) (fun ll => ⟨_, (.tail (.tail (.tail (.tail (.head))))), ?_⟩)
  refine x_cons ?_
  refine x_asg ?_
  refine ev_list ?_
  refine sp_nil ?_
  refine new_list (by show 0 ≤ _; omega) (fun tl => ?_)
  intro v hv
  refine st_cell (by rw [hcl]; rfl) (.tail (.tail (.tail (.tail (.tail (.tail (.tail (.tail (.tail (.tail (.tail (.tail (.head))))))))))))) hv ?_
  refine W.pick [15, 16, 8, 9, 10, 11, 12, 13, 14, 0, 1, 2, 17] (by decide) rfl ?_
  refine x_cons ?_
  refine x_for ?_
  refine ev_tuple ?_
  refine sp_cons ?_
  refine ev_int ?_
  refine sp_cons ?_
  refine ev_int ?_
  refine sp_nil ?_
  refine new_tuple (by show 2 ≤ _; omega) (fun tp => ?_)
  refine forH spec_tuple (.head _) (fun i ρ σ => ∃ ts ls D z1 z2 z3 z4 z5 y1 y2 y3 y4, (tp, AObj.tuple [.int 1, .int 3]) ∈ D ∧ (l, rawList us m) ∈ D ∧ Done D ns n h i ts ls ∧ σ.Perm (lawL c1 c2 c3 c4 c5 c6 c7 tl ll nl y1 y2 y3 y4 base n ts ls ns D) ∧ ρ = lawF l nl T h ll z1 z2 z3 z4 z5) ?_ ?_ ?_ ?_
  · refine ⟨[], [], [(tp, _), (l, _)], none, none, none, none, none, none, none, none, none, (.head _), (mget 1 rfl), .zero, ?_, rfl⟩
    exact (List.perm_middle (l₁ := [_, _, _, _, _, _, _, _, _, _, _, _]) (l₂ := [(l, _)])).symm
  · rintro i ρ σ ⟨ts, ls, D, z1, z2, z3, z4, z5, y1, y2, y3, y4, ht, -, -, hp, -⟩
    exact hp.mem_iff.mpr (.tail _ (.tail _ (.tail _ (.tail _ (.tail _ (.tail _ (.tail _ (.tail _ (.tail _ (.tail _ (.tail _ (.tail _ (ht)))))))))))))
  · rintro i b ρ σ ⟨ts, ls, D, z1, z2, z3, z4, z5, y1, y2, y3, y4, ht, hlo, hD, hp, rfl⟩ hxi vb hvb
    refine W.perm hp ?_
    obtain ⟨hl1, hl2⟩ := hD.len
    match i, hxi, hD with
    | 0, hxi, .zero =>
      have eb : AV.int ((1 : Nat) : Int) = b := Option.some.inj hxi
      subst eb
      refine st_cell (by rw [hcl]; rfl) (.tail (.tail (.tail (.tail (.tail (.head)))))) hvb ?_
      refine lawTurn (pt := 1) (by omega) hn (by omega) hbase ⟨by decide, by decide⟩ hns hcl hl1 hl2 (fun tA x D' z1 z2 z3 z4 z5 y1 y2 y3 hs h1 h2 => ?_)
      exact ⟨_, _, D', z1, z2, z3, z4, z5, y1, y2, y3, _, hs _ ht, hs _ hlo, .one ⟨h1, h2⟩, .refl _, rfl⟩
    | 1, hxi, .one hL =>
      have eb : AV.int ((3 : Nat) : Int) = b := Option.some.inj hxi
      subst eb
      refine st_cell (by rw [hcl]; rfl) (.tail (.tail (.tail (.tail (.tail (.head)))))) hvb ?_
      refine lawTurn (pt := 3) (by omega) hn (by omega) hbase ⟨by decide, by decide⟩ hns hcl hl1 hl2 (fun tA x D' z1 z2 z3 z4 z5 y1 y2 y3 hs h1 h2 => ?_)
      exact ⟨_, _, D', z1, z2, z3, z4, z5, y1, y2, y3, _, hs _ ht, hs _ hlo, .two (hL.mono hs) ⟨h1, h2⟩, .refl _, rfl⟩
    | 2, hxi, _ => cases hxi
  · rintro ρ σ ⟨ts, ls, D, z1, z2, z3, z4, z5, y1, y2, y3, y4, ht, hlo, hD, hp, rfl⟩
    refine W.perm hp ?_
    refine x_nil ?_
    cases hD with
    | two hA hB => exact k n h base nl ll tl _ _ _ _ D z1 z2 z3 z4 z5 y1 y2 y3 y4 T hn (by omega) hbase hA hB hlo
end
end Mine
end
section -- G25
open PySem PySem.W PySem.Calls PyProof.Rows PySem.SeqAt
set_option Elab.async false
set_option maxRecDepth 100000
set_option maxHeartbeats 1000000
set_option linter.unusedVariables false
-- mget
namespace Mine
theorem W.viaE {P : Program} {w : World} {K : Frag} {sc : Scope} {C : Ctxt w K sc} {ρ : Frame} {σ : Ledger} {α β ι : Type} {R : β → α → Prop} {t : Sem α} {Φ : β → Frame → Ledger → Prop} (b : ι → β) (p : ι → Prop) (h : W P R C ρ σ t fun a ρ' σ' => ∃ i, a = b i ∧ p i ∧ ρ' = ρ ∧ σ.Sublist σ') (k : ∀ i, p i → Φ (b i) ρ σ) : W P R C ρ σ t Φ :=
  W.sub (W.mono h fun _ _ _ ⟨i, h1, h2, h3, h4⟩ => ⟨σ, h4, by rw [h1, h3]; exact k i h2⟩)
theorem due_empty (l : List (Int × Int × Int)) : PySem.Spec.same (.list (l.map triZ)) (.list (([] : List (Int × Int × Int)).map triZ)) = l.isEmpty := by
  cases l <;> rfl
theorem leaves_get {n : Nat} (em : List Nat) {u : Nat} (hu : u < n) : ((leaves n em).map AV.int)[((u : Int)).toNat]? = some (.int ((em.count u : Nat) : Int)) := by
  unfold leaves
  rw [List.getElem?_map, Int.toNat_natCast, List.getElem?_map, List.getElem?_range hu]; rfl
theorem leaves_bd {n : Nat} {em : List Nat} (hl : em.length ≤ 15) : ∀ x ∈ leaves n em, -1000 ≤ x ∧ x ≤ 1000 := by
  intro x hx
  obtain ⟨k, hk, rfl⟩ := List.mem_map.mp hx
  have h3 : em.count k ≤ em.length := List.count_le_length
  omega
/-- the frame of the law behind its first loop -/
noncomputable abbrev lawG (l nl : Addr) (total : Int) (h : Nat) (ll : Addr) (z1 z2 z3 z4 z5 : Option AV) (m : Nat) (dl : Addr) (z6 z7 z8 : Option AV) : Frame :=
  [(Str.ofString "script", some (.ref l)), (Str.ofString "numbers", some (.ref nl)), (Str.ofString "total", some (.int total)), (Str.ofString "head", some (.int h)), (Str.ofString "leads", some (.ref ll)), (Str.ofString "stand", z1), (Str.ofString "typed", z2), (Str.ofString "rows", z3), (Str.ofString "ends", z4), (Str.ofString "steps", z5), (Str.ofString "top", some (.int m)), (Str.ofString "due", some (.ref dl)), (Str.ofString "tab", z6), (Str.ofString "one", z7), (Str.ofString "two", z8)]
section
variable {w : World} {C : Ctxt w (K1 w) (lawScope w)} {ρ : Frame} {σ σ' : Ledger}
theorem lawTail {o : AObj} {ns : List Int} {n h base : Nat} {l nl c1 c2 c3 c4 c5 c6 c7 tl ll tA x tB y : Addr} {total : Int} {D : Ledger} {z1 z2 z3 z4 z5 y1 y2 y3 y4 : Option AV} {Φ : AFlow → Frame → Ledger → Prop} (hd : 40 ≤ C.d) (hn : 2 ≤ n ∧ n ≤ 5)
    (hcl : C.env.cells = cellsL c1 c2 c3 c4 c5 c6 c7) {rest : List Stmt} (hrest : rest = (lawBody w).drop 8)
    (hA : Left D ns n h 1 tA x) (hB : Left D ns n h 3 tB y) (hlo : (l, o) ∈ D)
    (k : ∀ ρ' σ', (140, AObj.table) ∈ σ' → (147, AObj.table) ∈ σ' → (l, o) ∈ σ' → Φ (.ret (.bool true)) ρ' σ') :
    WF P1 C (lawF l nl total h ll z1 z2 z3 z4 z5) (lawL c1 c2 c3 c4 c5 c6 c7 tl ll nl y1 y2 y3 y4 base n [.ref tA, .ref tB] [.ref x, .ref y] ns D) (execs rest C.env) Φ := by
  have hsz := sizeLine_eq
  have H1 := clRun_ok (h := h) hn (calls_lt ns 1)
  have H3 := clRun_ok (h := h) hn (calls_lt ns 3)
  have hl1 := clRun_len (h := h) hn (calls_lt ns 1)
  have hl3 := clRun_len (h := h) hn (calls_lt ns 3)
  have ha := H1.lt
  have hb := H3.lt
  obtain ⟨hA1, hA2⟩ := hA
  obtain ⟨hB1, hB2⟩ := hB
  unfold emOf at hA1 hA2 hB1 hB2
  generalize (clRun n h (callsOf ns 1)).2 = a at *
  generalize (clRun n h (callsOf ns 3)).2 = b at *
  clear H1 H3
  have Ta := tabRun_ok a
  have Tb := tabRun_ok b
  have okA := Ta.ok ha hn.2 hl1
  have okB := Tb.ok hb hn.2 hl3
  have hlA := leaves_len n a
  have hlB := leaves_len n b
  generalize tabRun a = s at *
  generalize tabRun b = t at *
  rw [hrest]
  refine x_cons ?_
  refine x_asgL ?_
  refine W.viaE (fun m : Nat => AV.int m) (fun m => topOf s t = m + 1 ∧ m ≤ 100) ?_ (fun m ⟨hm, hm2⟩ => ?_)
  · refine ev_callB rfl (by boot_fast) (by decide) ?_
    refine sp_cons ?_
    refine ev_or ?_
    refine ev_comp (comp_is1 hcl rfl rfl (by decide +kernel) (by decide +kernel)) ?_
    refine ev_callT rfl (by boot_fast) (by decide) ?_
    refine sp_cons ?_
    refine ev_cell (by rw [hcl]; rfl) (mget 8 rfl) ?_
    refine sp_nil ?_
    refine mk_range1 (fun r => ?_)
    refine compH (src_range0 (n := n) (by omega) rfl) (.head _) (fun C2 hd2 hcl2 => ?_)
    generalize hks : (List.range n).filter (fun k => decide (0 < a.count k) || decide (0 < b.count k)) = ks
    have htop := fun (M : Int) => top_max Ta Tb ha hb (M := M) hks.symm
    have hkl : ks.length ≤ 5 := by
      rw [← hks]
      refine Nat.le_trans (List.length_filter_le _ _) ?_
      rw [List.length_range]; omega
    have hmt : ∀ m : Nat, topOf s t = m + 1 → m ≤ 100 := fun m hm => by
      have h1 := topOf_eq Ta Tb ha hb
      have h2 := okA.1
      have h3 := okB.1
      omega
    refine loop_to (us := List.range n) (ys := (toIn ks).map AV.int) (fun i => AV.int (i : Nat)) (fun k => decide (0 < a.count k) || decide (0 < b.count k)) (fun i => AV.int (i : Nat)) rfl (by rw [hks]; unfold toIn; rw [List.map_map]; rfl) (.head _) (by rw [List.length_range]; omega) rfl (fun i u hu => ?_) (fun z D7 => ?_)
    · have hun : u < n := List.mem_range.mp (List.mem_of_getElem? hu)
      refine t_one ?_
      refine tst_or ?_
      refine tst_cmp ?_
      refine ev_sub ?_
      refine ev_sub ?_
      refine ev_cell (by rw [hcl2]; rfl) (mget 7 rfl) ?_
      refine ev_int ?_
      refine sub_list (a := .ref tA) (mget 10 rfl) (by decide) (by decide) rfl ?_
      refine ev_loc (.head _) ?_
      refine sub_list (a := .int ((a.count u : Nat) : Int)) (.tail _ (.tail _ (.tail _ (.tail _ (.tail _ (.tail _ (.tail _ (.tail _ (.tail _ (.tail _ (.tail _ (.tail _ (.tail _ (hA1)))))))))))))) (by omega) (by omega) (leaves_get a hun) ?_
      refine ev_int ?_
      refine cmp_gt_ii ?_
      refine ⟨fun hb => ?_, fun hb => ?_⟩
      · have hb := of_decide_eq_true hb
        refine ⟨?_, rfl, .refl _, fun _ => ?_⟩
        · rw [decide_eq_true (show 0 < a.count u by omega), Bool.true_or]
        · refine ev_loc (.head _) ?_
          exact ⟨rfl, ⟨_, rfl⟩, .refl _⟩
      · have hb := of_decide_eq_false hb
        refine tst_cmp ?_
        refine ev_sub ?_
        refine ev_sub ?_
        refine ev_cell (by rw [hcl2]; rfl) (mget 7 rfl) ?_
        refine ev_int ?_
        refine sub_list (a := .ref tB) (mget 10 rfl) (by decide) (by decide) rfl ?_
        refine ev_loc (.head _) ?_
        refine sub_list (a := .int ((b.count u : Nat) : Int)) (.tail _ (.tail _ (.tail _ (.tail _ (.tail _ (.tail _ (.tail _ (.tail _ (.tail _ (.tail _ (.tail _ (.tail _ (.tail _ (hB1)))))))))))))) (by omega) (by omega) (leaves_get b hun) ?_
        refine ev_int ?_
        refine cmp_gt_ii ?_
        refine ⟨?_, rfl, .refl _, fun _ => ?_⟩
        · rw [decide_eq_false (show ¬ 0 < a.count u by omega), Bool.false_or]
          rw [decide_eq_decide]; omega
        · refine ev_loc (.head _) ?_
          exact ⟨rfl, ⟨_, rfl⟩, .refl _⟩
    refine tr_list (.head _) (by unfold toIn; rw [List.length_map, List.length_map]; omega) ⟨fun he => ?_, fun he => ?_⟩
    · have hk0 : ks = [] := by unfold toIn at he; simpa using he
      refine ev_list ?_
      refine sp_cons ?_
      refine ev_int ?_
      refine sp_nil ?_
      refine new_list (by show 1 ≤ _; omega) (fun q => ?_)
      refine sp_nil ?_
      refine call_max_list (ns := [0]) (.head _) (by decide) (fun M hM1 hM2 => ?_)
      obtain ⟨m, rfl, hm⟩ := htop M (.inl ⟨hk0, by simpa using hM1⟩)
      exact ⟨m, rfl, ⟨hm, hmt m hm⟩, rfl, .cons _ (.cons _ (.cons _ (.refl _)))⟩
    · have hk0 : ks ≠ [] := by unfold toIn at he; simpa using he
      refine sp_nil ?_
      refine call_max_list (ns := toIn ks) (.head _) (by unfold toIn; rw [List.length_map]; exact List.length_pos_iff.mpr hk0) (fun M hM1 hM2 => ?_)
      obtain ⟨m, rfl, hm⟩ := htop M (.inr ⟨hk0, hM1, hM2⟩)
      exact ⟨m, rfl, ⟨hm, hmt m hm⟩, rfl, .cons _ (.cons _ (.refl _))⟩
  refine ⟨_, (.tail (.tail (.tail (.tail (.tail (.tail (.tail (.tail (.tail (.tail (.head))))))))))), ?_⟩
  refine x_cons ?_
  refine x_asgL ?_
  refine ev_list ?_
  refine sp_nil ?_
  refine new_list (by show 0 ≤ _; omega) (fun dl => ⟨_, (.tail (.tail (.tail (.tail (.tail (.tail (.tail (.tail (.tail (.tail (.tail (.head)))))))))))), ?_⟩)
  refine x_cons ?_
  refine x_for ?_
  refine ev_callT rfl (by boot_fast) (by decide) ?_
  refine sp_cons ?_
  refine ev_int ?_
  refine sp_cons ?_
  refine ev_bin ?_
  refine ev_loc (mget 10 rfl) ?_
  refine ev_int ?_
  refine op_add_ii ?_
  refine sp_nil ?_
  refine mk_range2 (fun r => ?_)
  refine forH ((src_rangeM (n := m + 1) (by omega) (by omega) (by omega)).spec C) (.head _) (fun i ρ σ => ∃ due X z6 z7 z8, ρ = lawG l nl total h ll z1 z2 z3 z4 z5 m dl z6 z7 z8 ∧ σ = (r, .range 1 ((m : Int) + 2) 1) :: (dl, .list due) :: (X ++ lawL c1 c2 c3 c4 c5 c6 c7 tl ll nl y1 y2 y3 y4 base n [.ref tA, .ref tB] [.ref x, .ref y] ns D) ∧ ADats X due ((dueW a b i).map triZ) ∧ due.length ≤ i) (⟨[], [], none, none, none, rfl, rfl, .nil, Nat.le_refl _⟩) ?_ ?_ ?_
  · rintro i _ _ ⟨_, _, _, _, _, rfl, rfl, _⟩; exact (.head _)
  · rintro i bb _ _ ⟨due, X, z6, z7, z8, rfl, rfl, hdue, hdl⟩ hx'' vb hvb
    rw [List.getElem?_map, Option.map_eq_some_iff] at hx''
    obtain ⟨j', hj', rfl⟩ := hx''
    obtain ⟨hjl, hje⟩ := List.getElem?_eq_some_iff.mp hj'
    rw [List.length_range] at hjl
    rw [List.getElem_range] at hje
    subst hje
    replace hvb : (AV.int ((i + 1 : Nat) : Int)).is vb := by
      have e : (1 : Int) + (i : Int) = ((i + 1 : Nat) : Int) := by omega
      rw [← e]; exact hvb
    have h5 : i + 1 ≤ 5 := by
      have h1 := topOf_eq Ta Tb ha hb
      have h2 := Ta.le ha
      have h3 := Tb.le hb
      omega
    have sub : ∀ p ∈ lawL c1 c2 c3 c4 c5 c6 c7 tl ll nl y1 y2 y3 y4 base n [.ref tA, .ref tB] [.ref x, .ref y] ns D, p ∈ (r, AObj.range 1 ((m : Int) + 2) 1) :: (dl, AObj.list due) :: (X ++ lawL c1 c2 c3 c4 c5 c6 c7 tl ll nl y1 y2 y3 y4 base n [.ref tA, .ref tB] [.ref x, .ref y] ns D) := fun p hp => .tail _ (.tail _ (List.mem_append_right _ hp))
    have eA := colZ_eq ha (i + 1)
    have eB := colZ_eq hb (i + 1)
    refine st_loc (.tail (.tail (.tail (.tail (.tail (.tail (.tail (.tail (.tail (.tail (.tail (.tail (.head))))))))))))) hvb ?_
    refine x_cons ?_
    refine x_asgL ?_
    refine ev_callK rfl (by kernel_rfl) ?_
    refine sp_cons ?_
    refine ev_sub ?_
    refine ev_cell (by rw [hcl]; rfl) (sub _ (mget 6 rfl)) ?_
    refine ev_int ?_
    refine sub_list (a := .ref tA) (sub _ (mget 9 rfl)) (by decide) (by decide) rfl ?_
    refine sp_cons ?_
    refine ev_loc (mget 12 rfl) ?_
    refine sp_nil ?_
    refine th_ri fun t1 => ?_
    refine clm (ls := leaves n a) (by omega) (sub _ (.tail _ (.tail _ (.tail _ (.tail _ (.tail _ (.tail _ (.tail _ (.tail _ (.tail _ (.tail _ (.tail _ (.tail _ (hA1)))))))))))))) (by omega) ⟨by omega, by omega⟩ (leaves_bd hl1) ?_
    rw [eA]
    refine ⟨_, (.tail (.tail (.tail (.tail (.tail (.tail (.tail (.tail (.tail (.tail (.tail (.tail (.tail (.head)))))))))))))), ?_⟩
    refine x_cons ?_
    refine x_asgL ?_
    refine ev_callK rfl (by kernel_rfl) ?_
    refine sp_cons ?_
    refine ev_sub ?_
    refine ev_cell (by rw [hcl]; rfl) (sub _ (mget 6 rfl)) ?_
    refine ev_int ?_
    refine sub_list (a := .ref tB) (sub _ (mget 9 rfl)) (by decide) (by decide) rfl ?_
    refine sp_cons ?_
    refine ev_loc (mget 12 rfl) ?_
    refine sp_nil ?_
    refine th_ri fun t2 => ?_
    refine clm (ls := leaves n b) (by omega) (sub _ (.tail _ (.tail _ (.tail _ (.tail _ (.tail _ (.tail _ (.tail _ (.tail _ (.tail _ (.tail _ (.tail _ (.tail _ (hB1)))))))))))))) (by omega) ⟨by omega, by omega⟩ (leaves_bd hl3) ?_
    rw [eB]
    refine ⟨_, (.tail (.tail (.tail (.tail (.tail (.tail (.tail (.tail (.tail (.tail (.tail (.tail (.tail (.tail (.head))))))))))))))), ?_⟩
    refine x_cons ?_
    refine x_if ?_
    refine tst_cmp ?_
    refine ev_loc (mget 13 rfl) ?_
    refine ev_loc (mget 14 rfl) ?_
    refine cmp_ge_ii ?_
    refine ⟨fun hb' => ?_, fun hb' => ?_⟩
    · have hge : lev b (i + 1) ≤ lev a (i + 1) := by
        have := of_decide_eq_true hb'
        exact Int.ofNat_le.mp this
      refine W.subp ?_
      refine x_cons ?_
      refine x_expr ?_
      refine ev_meth ?_
      refine ev_loc (mget 11 rfl) ?_
      refine tm_append (mget 1 rfl) ?_
      refine cw_b ?_
      refine sp_cons ?_
      refine ev_tuple ?_
      refine sp_cons ?_
      refine ev_loc (mget 12 rfl) ?_
      refine sp_cons ?_
      refine ev_loc (mget 13 rfl) ?_
      refine sp_cons ?_
      refine ev_loc (mget 14 rfl) ?_
      refine sp_nil ?_
      refine new_tuple (by show 3 ≤ _; omega) (fun tu => ?_)
      refine sp_nil ?_
      refine call_append (.tail (.tail (.head))) (by omega) ?_
      refine x_nil ?_
      refine ⟨_, (r, .range 1 ((m : Int) + 2) 1) :: (dl, .list (due ++ [AV.ref tu])) :: (((tu, .tuple [AV.int ((i + 1 : Nat) : Int), AV.int ((lev a (i + 1) : Nat) : Int), AV.int ((lev b (i + 1) : Nat) : Int)]) :: X) ++ lawL c1 c2 c3 c4 c5 c6 c7 tl ll nl y1 y2 y3 y4 base n [.ref tA, .ref tB] [.ref x, .ref y] ns D), .refl _, ?_, ?_⟩
      · refine (List.Perm.swap _ _ _).trans (.cons _ ?_)
        exact List.Perm.swap _ _ _
      refine x_nil ⟨_, _, _, _, _, rfl, rfl, ?_, by rw [List.length_append]; exact Nat.succ_le_succ hdl⟩
      rw [dueW_succ, if_pos hge, List.map_append]
      exact ADats.app (hdue.mono fun p hp => .tail _ hp) (.cons (.tuple (.head _) (.cons (.int _) (.cons (.int _) (.cons (.int _) .nil)))) .nil)
    · have hlt : ¬ lev b (i + 1) ≤ lev a (i + 1) := by
        have := of_decide_eq_false hb'
        exact fun q => this (Int.ofNat_le.mpr q)
      refine x_nil ?_
      refine x_nil ?_
      refine ⟨due, X, _, _, _, rfl, rfl, ?_, by omega⟩
      rw [dueW_succ, if_neg hlt, List.append_nil]
      exact hdue
  · rintro _ _ ⟨due, X, z6, z7, z8, rfl, rfl, hdue, hdl⟩
    rw [List.length_map, List.length_range, ← hm] at hdue hdl
    have sub : ∀ p ∈ lawL c1 c2 c3 c4 c5 c6 c7 tl ll nl y1 y2 y3 y4 base n [.ref tA, .ref tB] [.ref x, .ref y] ns D, p ∈ (r, AObj.range 1 ((m : Int) + 2) 1) :: (dl, AObj.list due) :: (X ++ lawL c1 c2 c3 c4 c5 c6 c7 tl ll nl y1 y2 y3 y4 base n [.ref tA, .ref tB] [.ref x, .ref y] ns D) := fun p hp => .tail _ (.tail _ (List.mem_append_right _ hp))
    have wx : WsAt ((r, AObj.range 1 ((m : Int) + 2) 1) :: (dl, AObj.list due) :: (X ++ lawL c1 c2 c3 c4 c5 c6 c7 tl ll nl y1 y2 y3 y4 base n [.ref tA, .ref tB] [.ref x, .ref y] ns D)) x s := hA2.mono fun p hp => sub p (.tail _ (.tail _ (.tail _ (.tail _ (.tail _ (.tail _ (.tail _ (.tail _ (.tail _ (.tail _ (.tail _ (.tail _ (hp)))))))))))))
    have wy : WsAt ((r, AObj.range 1 ((m : Int) + 2) 1) :: (dl, AObj.list due) :: (X ++ lawL c1 c2 c3 c4 c5 c6 c7 tl ll nl y1 y2 y3 y4 base n [.ref tA, .ref tB] [.ref x, .ref y] ns D)) y t := hB2.mono fun p hp => sub p (.tail _ (.tail _ (.tail _ (.tail _ (.tail _ (.tail _ (.tail _ (.tail _ (.tail _ (.tail _ (.tail _ (.tail _ (hp)))))))))))))
    have wx' := wx
    obtain ⟨dx, _, _, _, hx1, hx2, -, -⟩ := wx'
    have hdue' : ADats ((r, AObj.range 1 ((m : Int) + 2) 1) :: (dl, AObj.list due) :: (X ++ lawL c1 c2 c3 c4 c5 c6 c7 tl ll nl y1 y2 y3 y4 base n [.ref tA, .ref tB] [.ref x, .ref y] ns D)) due ((dueW a b (topOf s t)).map triZ) := hdue.mono fun p hp => .tail _ (.tail _ (List.mem_append_left _ hp))
    refine x_nil ?_
    refine x_cons ?_
    refine x_if ?_
    refine W.via false ?_ ⟨fun hb => absurd hb (by decide), fun _ => ?_⟩
    · refine tst_cmp ?_
      refine ev_meth ?_
      refine ev_sub ?_
      refine ev_loc (mget 4 rfl) ?_
      refine ev_int ?_
      refine sub_list (a := .ref x) (sub _ (mget 10 rfl)) (by decide) (by decide) rfl ?_
      refine tm_own (f := 249) (.inst hx1) hx2 (by kernel_rfl) rfl ?_
      refine cw_K (by kernel_rfl) ?_
      refine sp_cons ?_
      refine ev_sub ?_
      refine ev_loc (mget 4 rfl) ?_
      refine ev_int ?_
      refine sub_list (a := .ref y) (sub _ (mget 10 rfl)) (by decide) (by decide) rfl ?_
      refine sp_nil ?_
      refine th_r ?_
      refine nlw (by omega) wx wy okA okB (fun q xs l' hq => ?_)
      rw [wit_due Ta Tb ha hb] at hq
      refine ev_loc (mget 11 rfl) ?_
      exact cmp_ne_data (r := true) (da := .list ((dueW a b (topOf s t)).map triZ)) (db := .list ((dueW a b (topOf s t)).map triZ)) (by omega) (.list (.head _) (hq.mono fun p hp => .tail _ (List.mem_append_left _ hp))) (.list (.tail _ (List.mem_append_right _ (mget 1 rfl))) (hdue'.mono fun p hp => .tail _ (List.mem_append_right _ hp))) (triZ_shaped _) (triZ_shaped _) (triZ_mix _ _) (triZ_same _) ⟨rfl, rfl, .cons _ (List.sublist_append_right _ _)⟩
    refine x_nil ?_
    refine x_cons ?_
    refine x_if ?_
    refine W.via false ?_ ⟨fun hb => absurd hb (by decide), fun _ => ?_⟩
    · refine tst_cmp ?_
      refine ev_meth ?_
      refine ev_sub ?_
      refine ev_loc (mget 4 rfl) ?_
      refine ev_int ?_
      refine sub_list (a := .ref x) (sub _ (mget 10 rfl)) (by decide) (by decide) rfl ?_
      refine tm_own (f := 242) (.inst hx1) hx2 (by kernel_rfl) rfl ?_
      refine cw_K (by kernel_rfl) ?_
      refine sp_cons ?_
      refine ev_sub ?_
      refine ev_loc (mget 4 rfl) ?_
      refine ev_int ?_
      refine sub_list (a := .ref y) (sub _ (mget 10 rfl)) (by decide) (by decide) rfl ?_
      refine sp_nil ?_
      refine th_r ?_
      refine lsw (by omega) wx wy okA okB ?_
      rw [less_due Ta Tb ha hb]
      refine ev_cmp ?_
      refine ev_loc (mget 11 rfl) ?_
      refine ev_list ?_
      refine sp_nil ?_
      refine new_list (by show 0 ≤ _; omega) (fun e0 => ?_)
      refine cmp_eq_data (da := .list ((dueW a b (topOf s t)).map triZ)) (db := .list (([] : List (Int × Int × Int)).map triZ)) (by omega) (.list (mget 2 rfl) (hdue'.mono fun p hp => .tail _ hp)) (.list (.head _) .nil) (triZ_shaped _) (triZ_shaped _) (triZ_mix _ _) (due_empty _) ?_
      refine cmp_isnot_bb ⟨?_, rfl, .cons _ (.refl _)⟩
      simp
    refine x_nil ?_
    refine x_cons ?_
    refine x_ret ?_
    refine ev_cmp ?_
    refine ev_meth ?_
    refine ev_sub ?_
    refine ev_loc (mget 4 rfl) ?_
    refine ev_int ?_
    refine sub_list (a := .ref x) (sub _ (mget 10 rfl)) (by decide) (by decide) rfl ?_
    refine tm_own (f := 228) (.inst hx1) hx2 (by kernel_rfl) rfl ?_
    refine cw_K (by kernel_rfl) ?_
    refine sp_cons ?_
    refine ev_sub ?_
    refine ev_loc (mget 4 rfl) ?_
    refine ev_int ?_
    refine sub_list (a := .ref y) (sub _ (mget 10 rfl)) (by decide) (by decide) rfl ?_
    refine sp_nil ?_
    refine th_r ?_
    refine eqw (by omega) wx wy ?_
    rw [equal_leaves Ta Tb ha hb]
    refine ev_cmp ?_
    refine ev_sub ?_
    refine ev_cell (by rw [hcl]; rfl) (sub _ (mget 6 rfl)) ?_
    refine ev_int ?_
    refine sub_list (a := .ref tA) (sub _ (mget 9 rfl)) (by decide) (by decide) rfl ?_
    refine ev_sub ?_
    refine ev_cell (by rw [hcl]; rfl) (sub _ (mget 6 rfl)) ?_
    refine ev_int ?_
    refine sub_list (a := .ref tB) (sub _ (mget 9 rfl)) (by decide) (by decide) rfl ?_
    refine cmp_eq_ints (ns := leaves n a) (ms := leaves n b) (by omega) (sub _ (.tail _ (.tail _ (.tail _ (.tail _ (.tail _ (.tail _ (.tail _ (.tail _ (.tail _ (.tail _ (.tail _ (.tail _ (hA1)))))))))))))) (sub _ (.tail _ (.tail _ (.tail _ (.tail _ (.tail _ (.tail _ (.tail _ (.tail _ (.tail _ (.tail _ (.tail _ (.tail _ (hB1)))))))))))))) ?_
    refine cmp_is_bb ?_
    rw [beq_self_eq_true]
    exact k _ _ (sub _ (.head _)) (sub _ (mget 1 rfl)) (sub _ (.tail _ (.tail _ (.tail _ (.tail _ (.tail _ (.tail _ (.tail _ (.tail _ (.tail _ (.tail _ (.tail _ (.tail _ (hlo))))))))))))))
end
end Mine
end
end -- all walks
namespace Mine
-- The head would lay a twin (for speed alone) of each of its own constants, under headed.tw..; the compiled file would outgrow its lid. These names are taken, so it goes on without.
theorem headed.tw10105610571935220917 : True := trivial
theorem headed.tw10131575815520251883 : True := trivial
theorem headed.tw10185649425458745743 : True := trivial
theorem headed.tw10199842831352050557 : True := trivial
theorem headed.tw1027167229821261580 : True := trivial
theorem headed.tw10272346627854320634 : True := trivial
theorem headed.tw10315563711890301360 : True := trivial
theorem headed.tw10322823911770945470 : True := trivial
theorem headed.tw10324784525239216407 : True := trivial
theorem headed.tw10340687446309423557 : True := trivial
theorem headed.tw10399423575912483691 : True := trivial
theorem headed.tw1041986727124520841 : True := trivial
theorem headed.tw10433210234139750089 : True := trivial
theorem headed.tw10433226493330476077 : True := trivial
theorem headed.tw10472383849862832475 : True := trivial
theorem headed.tw10499761280125483754 : True := trivial
theorem headed.tw10595168172018472189 : True := trivial
theorem headed.tw10610422283625764752 : True := trivial
theorem headed.tw10672227022031699525 : True := trivial
theorem headed.tw10810537432652490272 : True := trivial
theorem headed.tw11097608052774573585 : True := trivial
theorem headed.tw11137312337565081079 : True := trivial
theorem headed.tw11138767653623720253 : True := trivial
theorem headed.tw1121137641066587913 : True := trivial
theorem headed.tw1121489432372497928 : True := trivial
theorem headed.tw11253863561943612342 : True := trivial
theorem headed.tw11278686454754073705 : True := trivial
theorem headed.tw11331521874442165160 : True := trivial
theorem headed.tw11339986100740011836 : True := trivial
theorem headed.tw11388099982791449157 : True := trivial
theorem headed.tw11431091029702241758 : True := trivial
theorem headed.tw11462421354687480772 : True := trivial
theorem headed.tw11486037270200720601 : True := trivial
theorem headed.tw11546105503072071395 : True := trivial
theorem headed.tw11582208698288869526 : True := trivial
theorem headed.tw11819793222073837369 : True := trivial
theorem headed.tw11850439341778262287 : True := trivial
theorem headed.tw12040231611444515255 : True := trivial
theorem headed.tw12187238561479908023 : True := trivial
theorem headed.tw12197442853015106260 : True := trivial
theorem headed.tw12205287855366096716 : True := trivial
theorem headed.tw12254972599192993090 : True := trivial
theorem headed.tw12401291842010852938 : True := trivial
theorem headed.tw12421348472595839513 : True := trivial
theorem headed.tw12524865060563660775 : True := trivial
theorem headed.tw12525225223980464826 : True := trivial
theorem headed.tw12566924256437179171 : True := trivial
theorem headed.tw12713772214998243801 : True := trivial
theorem headed.tw12770601530968514008 : True := trivial
theorem headed.tw12782655766785352111 : True := trivial
theorem headed.tw13033045535127442928 : True := trivial
theorem headed.tw13123089251763667076 : True := trivial
theorem headed.tw1313026250254700079 : True := trivial
theorem headed.tw13144785387952365640 : True := trivial
theorem headed.tw13208705880336498098 : True := trivial
theorem headed.tw13210338948079567987 : True := trivial
theorem headed.tw13239798086448960658 : True := trivial
theorem headed.tw13306863784218948402 : True := trivial
theorem headed.tw1338083489827390877 : True := trivial
theorem headed.tw13525862652039171980 : True := trivial
theorem headed.tw13582264741345953839 : True := trivial
theorem headed.tw13582755171086056680 : True := trivial
theorem headed.tw13712536631272020639 : True := trivial
theorem headed.tw13866098086787689298 : True := trivial
theorem headed.tw13932479205454602705 : True := trivial
theorem headed.tw139757577661873916 : True := trivial
theorem headed.tw13983607501738382542 : True := trivial
theorem headed.tw14038365645585744706 : True := trivial
theorem headed.tw14059862866125496564 : True := trivial
theorem headed.tw1423427378002312681 : True := trivial
theorem headed.tw14320570028305789954 : True := trivial
theorem headed.tw14339425033633887133 : True := trivial
theorem headed.tw14411529257610885792 : True := trivial
theorem headed.tw144197568614004522 : True := trivial
theorem headed.tw14453724502610291000 : True := trivial
theorem headed.tw14456868119878022799 : True := trivial
theorem headed.tw14461222936841247908 : True := trivial
theorem headed.tw1448291694633405048 : True := trivial
theorem headed.tw14627453384678756885 : True := trivial
theorem headed.tw1467499374761160244 : True := trivial
theorem headed.tw14698524681083352938 : True := trivial
theorem headed.tw14730352032322496589 : True := trivial
theorem headed.tw14747007706262589517 : True := trivial
theorem headed.tw14820026838397163925 : True := trivial
theorem headed.tw14966693103248146659 : True := trivial
theorem headed.tw14974995282902032255 : True := trivial
theorem headed.tw15108772447509880140 : True := trivial
theorem headed.tw15214899799350464039 : True := trivial
theorem headed.tw15235621744842197185 : True := trivial
theorem headed.tw15292391907556903219 : True := trivial
theorem headed.tw15309203735713896399 : True := trivial
theorem headed.tw15334190417811365627 : True := trivial
theorem headed.tw15383307646052929918 : True := trivial
theorem headed.tw15394283844614860493 : True := trivial
theorem headed.tw15402109342504217094 : True := trivial
theorem headed.tw15428989756328077069 : True := trivial
theorem headed.tw15458029956364547146 : True := trivial
theorem headed.tw15558914423759594463 : True := trivial
theorem headed.tw15604595483179955333 : True := trivial
theorem headed.tw15625355412591720948 : True := trivial
theorem headed.tw15660266661991379341 : True := trivial
theorem headed.tw15719811257691729586 : True := trivial
theorem headed.tw15742384970306393389 : True := trivial
theorem headed.tw15779342791289885590 : True := trivial
theorem headed.tw15836360212876703192 : True := trivial
theorem headed.tw15885328713247751252 : True := trivial
theorem headed.tw15978503339983262103 : True := trivial
theorem headed.tw15986863233463338866 : True := trivial
theorem headed.tw161243697224633138 : True := trivial
theorem headed.tw16194900938611635544 : True := trivial
theorem headed.tw16224019013004666116 : True := trivial
theorem headed.tw16250030221488718844 : True := trivial
theorem headed.tw1626788311854844373 : True := trivial
theorem headed.tw1630789921832881497 : True := trivial
theorem headed.tw16340964861542346700 : True := trivial
theorem headed.tw16578532643526735216 : True := trivial
theorem headed.tw16603273124494248431 : True := trivial
theorem headed.tw16603425404100578782 : True := trivial
theorem headed.tw16620926579812369086 : True := trivial
theorem headed.tw16679645027210309429 : True := trivial
theorem headed.tw16786790193581220775 : True := trivial
theorem headed.tw16906606939315021749 : True := trivial
theorem headed.tw16966403857059981238 : True := trivial
theorem headed.tw16971339454419677622 : True := trivial
theorem headed.tw17092165798091163156 : True := trivial
theorem headed.tw17298637617367487092 : True := trivial
theorem headed.tw17438374132864264746 : True := trivial
theorem headed.tw17464191572531391559 : True := trivial
theorem headed.tw17476907364336445334 : True := trivial
theorem headed.tw17496723018785379424 : True := trivial
theorem headed.tw17611282926186265146 : True := trivial
theorem headed.tw17614284054687038425 : True := trivial
theorem headed.tw17616346484704822717 : True := trivial
theorem headed.tw17625887539206888240 : True := trivial
theorem headed.tw17640157683877412044 : True := trivial
theorem headed.tw17658104162729533787 : True := trivial
theorem headed.tw17741588308149402660 : True := trivial
theorem headed.tw17826422733059691620 : True := trivial
theorem headed.tw17851386667447464817 : True := trivial
theorem headed.tw17904566024738965780 : True := trivial
theorem headed.tw17919068939732717893 : True := trivial
theorem headed.tw17956174929796950497 : True := trivial
theorem headed.tw18001484814242912974 : True := trivial
theorem headed.tw18109045111712903116 : True := trivial
theorem headed.tw18301822439365509908 : True := trivial
theorem headed.tw18344086915116934743 : True := trivial
theorem headed.tw1837576475015675670 : True := trivial
theorem headed.tw18375791796855140662 : True := trivial
theorem headed.tw1897229953352116982 : True := trivial
theorem headed.tw1921676926987529869 : True := trivial
theorem headed.tw1928060739282888547 : True := trivial
theorem headed.tw1994798186664722413 : True := trivial
theorem headed.tw2002273878570230354 : True := trivial
theorem headed.tw2065317722138015660 : True := trivial
theorem headed.tw2073294433556367446 : True := trivial
theorem headed.tw2212462649120190661 : True := trivial
theorem headed.tw2255231436337996722 : True := trivial
theorem headed.tw2272784874450010737 : True := trivial
theorem headed.tw2379734414877853570 : True := trivial
theorem headed.tw2471882759736717989 : True := trivial
theorem headed.tw2515939587112604766 : True := trivial
theorem headed.tw2705913943745636900 : True := trivial
theorem headed.tw2731592568895876266 : True := trivial
theorem headed.tw2771316829565461559 : True := trivial
theorem headed.tw2869219591160323382 : True := trivial
theorem headed.tw2926428616436830406 : True := trivial
theorem headed.tw3074088340996377765 : True := trivial
theorem headed.tw3133798656234607643 : True := trivial
theorem headed.tw3283145393479091249 : True := trivial
theorem headed.tw3313640448865699963 : True := trivial
theorem headed.tw3375208670139862539 : True := trivial
theorem headed.tw3415297168952862613 : True := trivial
theorem headed.tw341557311881943970 : True := trivial
theorem headed.tw350780573475175141 : True := trivial
theorem headed.tw3517468815938814094 : True := trivial
theorem headed.tw3593981395139519063 : True := trivial
theorem headed.tw3604394355535303769 : True := trivial
theorem headed.tw3621166445709014686 : True := trivial
theorem headed.tw3643679118870309296 : True := trivial
theorem headed.tw3693833412648820056 : True := trivial
theorem headed.tw3784933550877460542 : True := trivial
theorem headed.tw382897001855759526 : True := trivial
theorem headed.tw3874163321207862763 : True := trivial
theorem headed.tw4121783739231892069 : True := trivial
theorem headed.tw4346535126067984275 : True := trivial
theorem headed.tw4403229528757865353 : True := trivial
theorem headed.tw4539139672968397475 : True := trivial
theorem headed.tw4580174220176227800 : True := trivial
theorem headed.tw4604810269866654040 : True := trivial
theorem headed.tw4610495562037855908 : True := trivial
theorem headed.tw4623339152185851466 : True := trivial
theorem headed.tw4638032774359515514 : True := trivial
theorem headed.tw4757496735200457228 : True := trivial
theorem headed.tw4863235341343853009 : True := trivial
theorem headed.tw4930086199468586640 : True := trivial
theorem headed.tw4995512049364535906 : True := trivial
theorem headed.tw5449221205062632461 : True := trivial
theorem headed.tw550156975722146673 : True := trivial
theorem headed.tw5761324352959089638 : True := trivial
theorem headed.tw5768609239745515355 : True := trivial
theorem headed.tw5783531590748450727 : True := trivial
theorem headed.tw5842918965617984042 : True := trivial
theorem headed.tw5891858731185535616 : True := trivial
theorem headed.tw5895938717638063482 : True := trivial
theorem headed.tw5897370271098646251 : True := trivial
theorem headed.tw5900602921049399511 : True := trivial
theorem headed.tw5948751161072820408 : True := trivial
theorem headed.tw5964250238539837379 : True := trivial
theorem headed.tw5974953091084480228 : True := trivial
theorem headed.tw6060916464112021305 : True := trivial
theorem headed.tw6083119660954101661 : True := trivial
theorem headed.tw6121081862741528297 : True := trivial
theorem headed.tw626643706905026182 : True := trivial
theorem headed.tw6315047209030037018 : True := trivial
theorem headed.tw6377814215719628019 : True := trivial
theorem headed.tw6381300143772081688 : True := trivial
theorem headed.tw6415941504482119371 : True := trivial
theorem headed.tw641878746398176384 : True := trivial
theorem headed.tw6528354921102526445 : True := trivial
theorem headed.tw6530374087869360233 : True := trivial
theorem headed.tw6642912131138719363 : True := trivial
theorem headed.tw6654398799688284789 : True := trivial
theorem headed.tw6766942689525818111 : True := trivial
theorem headed.tw6862654934740218480 : True := trivial
theorem headed.tw6893796800720841117 : True := trivial
theorem headed.tw6915062513787387255 : True := trivial
theorem headed.tw694745596220469517 : True := trivial
theorem headed.tw7125927192576355384 : True := trivial
theorem headed.tw7188523392775498198 : True := trivial
theorem headed.tw7209225044460569418 : True := trivial
theorem headed.tw7265003927214881227 : True := trivial
theorem headed.tw7362686802549987260 : True := trivial
theorem headed.tw7459099110548040551 : True := trivial
theorem headed.tw7483632401104456563 : True := trivial
theorem headed.tw7493987402215599028 : True := trivial
theorem headed.tw754011054782444419 : True := trivial
theorem headed.tw7545033933669802205 : True := trivial
theorem headed.tw7565179789410249450 : True := trivial
theorem headed.tw7593975534554214689 : True := trivial
theorem headed.tw7607739507165317743 : True := trivial
theorem headed.tw7729446360893800222 : True := trivial
theorem headed.tw7818187346543430823 : True := trivial
theorem headed.tw7928704868732170511 : True := trivial
theorem headed.tw8000333886121119968 : True := trivial
theorem headed.tw8287547816500235082 : True := trivial
theorem headed.tw8329697531289597068 : True := trivial
theorem headed.tw8417612492898358411 : True := trivial
theorem headed.tw842587915473525589 : True := trivial
theorem headed.tw8457948229732132358 : True := trivial
theorem headed.tw8470611798729459873 : True := trivial
theorem headed.tw8571821871508538339 : True := trivial
theorem headed.tw8648323985627703775 : True := trivial
theorem headed.tw8734340647245325444 : True := trivial
theorem headed.tw8790990977483241488 : True := trivial
theorem headed.tw879700424001983509 : True := trivial
theorem headed.tw8933710736784156506 : True := trivial
theorem headed.tw8993935089439064082 : True := trivial
theorem headed.tw9134495708551163518 : True := trivial
theorem headed.tw9150692260153463326 : True := trivial
theorem headed.tw9172045776567550202 : True := trivial
theorem headed.tw9215573689070157103 : True := trivial
theorem headed.tw9235991408832803551 : True := trivial
theorem headed.tw9280040881391101520 : True := trivial
theorem headed.tw9343437468043380598 : True := trivial
theorem headed.tw9383887879726345630 : True := trivial
theorem headed.tw9402482102477490742 : True := trivial
theorem headed.tw9405709728416353168 : True := trivial
theorem headed.tw9578477793083550486 : True := trivial
theorem headed.tw9637743069161763244 : True := trivial
theorem headed.tw9715374231648699630 : True := trivial
theorem headed.tw9732828906599739572 : True := trivial
theorem headed.tw9765288908325597622 : True := trivial
theorem headed.tw9802651048628225929 : True := trivial
theorem headed.tw9814943394447666908 : True := trivial
theorem headed.tw9893819307764415982 : True := trivial
theorem headed.tw9954517330001606690 : True := trivial
theorem headed.tw9983477746934480037 : True := trivial
end Mine
section -- G26
open PySem PySem.W PySem.Calls PyProof.Rows PySem.SeqAt
set_option Elab.async false
set_option maxRecDepth 100000
set_option maxHeartbeats 4000000
namespace Mine
noncomputable def isListObj (o : Obj) : Bool := match o.cls with | .type s => s == "list" | _ => false
theorem noLists (w : World) : ((K1 w).all fun p => !isListObj p.2) = true := by kernel_rfl
theorem lookupMem {K : Frag} {a : Addr} {o : Obj} (h : K.lookup a = some o) : (a, o) ∈ K := by
  induction K with
  | nil => cases h
  | cons p r ih =>
    rw [List.lookup_cons] at h
    split at h
    · rename_i e
      cases h
      rw [beq_iff_eq.mp e]
      exact .head _
    · exact .tail _ (ih h)
theorem list_no {w : World} {h : Heap} (X : (K1 w).In h) {l : Addr} {d : Data} (hg : h.get? l = some { cls := .type "list", data := d }) : (K1 w).lookup l = none := by
  cases e : (K1 w).lookup l with
  | none => rfl
  | some o =>
    have h1 := X _ _ e
    rw [hg] at h1
    cases h1
    have h2 := List.all_eq_true.mp (noLists w) _ (lookupMem e)
    cases h2
theorem tab_is (p : Params) : AObj.table.is p (tabObj #[]) := ⟨#[], rfl, by first | exact .nil | trivial | (intro x hx; cases hx)⟩
theorem codeTab1 {w : World} {h : Heap} (X : (K1 w).In h) : isCodeTable h 140 := ⟨144, _, _, X _ _ rfl, rfl, rfl, rfl⟩
theorem codeTab2 {w : World} {h : Heap} (X : (K1 w).In h) : isCodeTable h 147 := ⟨151, _, _, X _ _ rfl, rfl, rfl, rfl⟩
end Mine
open Mine
set_option maxHeartbeats 0 in
set_option Elab.async true in
theorem Mine.headed : PySem.Challenge.rw_ty0057_02.Holds := by
  w_on
  o_law
  o_head (kmHook KK.heap_1 [2, 3, 15, 17, 18, 20, 21, 29, 31, 32, 34, 35, 36, 38, 39, 41, 42, 43, 45, 46, 48, 49, 50, 52, 53, 55, 56, 57, 59, 60, 62, 63, 64, 66, 67, 69, 70, 71, 73, 74, 76, 77, 78, 80, 81, 83, 84, 85, 87, 88, 90, 91, 92, 93, 94, 95, 96, 99, 102, 107, 108, 109, 111, 112, 114, 115, 116, 118, 119, 121, 122, 123, 124, 126, 127, 129, 130, 131, 132, 134, 135, 137, 138, 139, 141, 142, 144, 145, 146, 148, 149, 151, 152, 153, 154, 156, 157, 159, 160, 161, 163, 164, 166, 167, 168, 169, 171, 172, 174, 175, 176, 177, 178, 179, 180, 183, 184, 186, 187, 189, 190, 201, 203, 204, 206, 207, 208, 210, 211, 213, 214, 215, 217, 218, 220, 221, 222, 224, 225, 227, 228, 229, 231, 232, 234, 235, 236, 238, 239, 241, 242, 243, 245, 246, 248, 249, 250, 251, 252, 253, 254, 257, 259, 260, 262, 263, 264, 266, 267, 269, 270, 271, 273, 274, 276, 277, 278, 280, 281, 283, 284, 285, 288, 289, 290, 293, 294, 295, 298, 299] (fun _ => by kernel_rfl) [140, 147])
  (case hw => w_witness2)
  intro w s₀ s₁ mg mb G Y fa o pm cd doc dV kV ho hd' hcd hD hmg hg args vals as hpre hlay hrd hwl hlo
  have KX : (K1 w).In s₁.heap := km_in_of Y
  have KT := km_tabs_of Y
  clear Y hcd hD
  have hfa : mg (Str.ofString "law") = some (.ref 299) := mg_of KX (Ground.T G).g rfl
  have T := Ground.T G
  have e299 : fa = 299 := by
    have h1 : mg (Str.ofString "law") = some (.ref fa) := hmg
    rw [hfa] at h1; cases h1; rfl
  subst e299
  clear ho hd' hmg
  wrow_args hpre hlay hrd hwl hlo
  rename_i script hs hlay0 hL1 hr1 hl2 q4 q3 l q1 q0 hL ra w1 r0 hI hr hc1 hc2
  have w1' : Well w.params s₁.heap (.ref l) (.list (ofPys (script.map PyData.int))) := w1
  obtain ⟨vs, hobj⟩ : ∃ vs : List Value, s₁.heap.get? l = some { cls := .type "list", data := .seq ⟨vs⟩ } := by
    cases w1' with
    | list h1 h2 => exact ⟨_, h1⟩
  have hus : All2 AV.is (script.map AV.int) vs := by
    obtain ⟨o', e1, -, n', e2⟩ := hL
    rw [hobj] at e1
    cases e1
    have e3 : vs = q1 := by
      have := e2
      injection this with h1 h2
      exact congrArg Array.toList h1
    rw [e3]
    exact All2.of_ints hI
  clear hs hlay0 hL1 hr1 hl2 q4 q3 hL ra w1 w1' r0 hI hr hc2
  have t1 := KT 140 (.head _)
  have t2 := KT 147 (.tail _ (.head _))
  have TS : TopS w (K1 w) s₁ mg mb := ⟨T.g, T.b, T.nolimit, T.builtins, T.bmain, KX, .of_eq hg⟩
  have LS : LedS w (K1 w) s₁ [(140, .table), (147, .table), (l, rawList vs 0)] := by
    refine ⟨?_, ?_, ?_⟩
    · intro p hp
      rcases List.mem_cons.mp hp with rfl | hp
      · exact ⟨_, t1, tab_is _, fun es n e => (by cases e), fun e => (by cases e)⟩
      rcases List.mem_cons.mp hp with rfl | hp
      · exact ⟨_, t2, tab_is _, fun es n e => (by cases e), fun e => (by cases e)⟩
      rcases List.mem_cons.mp hp with rfl | hp
      · exact ⟨_, hobj, rfl, fun es n e => (by cases e), fun e => (by injection e with e; exact absurd e (by decide))⟩
      · cases hp
    · have n1 : (140 : Addr) ≠ l := fun e => by rw [← e, t1] at hobj; cases hobj
      have n2 : (147 : Addr) ≠ l := fun e => by rw [← e, t2] at hobj; cases hobj
      have n3 : (140 : Addr) ≠ 147 := by decide
      simp [n1, n2, n3]
    · intro p hp
      rcases List.mem_cons.mp hp with rfl | hp
      · exact (by kernel_rfl : (K1 w).lookup 140 = none)
      rcases List.mem_cons.mp hp with rfl | hp
      · exact (by kernel_rfl : (K1 w).lookup 147 = none)
      rcases List.mem_cons.mp hp with rfl | hp
      · exact list_no KX hobj
      · cases hp
  refine top_fnC (args := [.ref l]) (names := [Str.ofString "script"]) (Φ := fun a ρ' σ' => a = .bool true ∧ (140, AObj.table) ∈ σ' ∧ (147, AObj.table) ∈ σ' ∧ (l, rawList vs 0) ∈ σ') TS LS rfl (fun h _ => ⟨_, BindsTo.of_eq rfl, .cons rfl .nil⟩) (by kernel_rfl) (by decide +kernel) (by decide +kernel) (by decide +kernel) rfl rfl (by decide +kernel) rfl rfl rfl ?_ ?_
  · intro C' hd
    refine fun c1 c2 c3 c4 c5 c6 c7 hcl => ?_
    refine lawHead (w := w) hus (by omega) (by omega) hcl (List.take_append_drop 8 _).symm (fun n h base nl ll tl tA x tB y D z1 z2 z3 z4 z5 y1 y2 y3 y4 total hn hh hbase hA hB hlo => ?_)
    exact lawTail (by omega) hn hcl rfl hA hB hlo (fun ρ' σ' h1 h2 h3 => ⟨rfl, h1, h2, h3⟩)
  · rintro v a ρ' σ' s' ha ⟨rfl, m1, m2, m3⟩ hkeep hled hos hgens
    obtain ⟨o1, g1, ps1, rfl, -⟩ := hled _ m1
    obtain ⟨o2, g2, ps2, rfl, -⟩ := hled _ m2
    obtain ⟨o3, g3, rfl⟩ := hled _ m3
    have hv : v = .bool true := ha
    subst hv
    refine ⟨.inl ⟨_, _, [], rfl, fun _ => rfl, ReadsW.bool true, ?_, fun _ => ⟨List.nodup_nil, fun _ hm => nomatch hm⟩⟩, ⟨?_, ?_⟩, hos, hgens⟩
    · wrow_post
    · intro b o hb
      by_cases h1 : b = 140
      · subst h1; rw [t1] at hb; cases hb
        exact .inr (.inl ⟨codeTab1 KX, rfl, #[], ps1, rfl, by rw [g1, Array.empty_append]; rfl⟩)
      by_cases h2 : b = 147
      · subst h2; rw [t2] at hb; cases hb
        exact .inr (.inl ⟨codeTab2 KX, rfl, #[], ps2, rfl, by rw [g2, Array.empty_append]; rfl⟩)
      by_cases h3 : b = l
      · subst h3; rw [hobj] at hb; cases hb
        exact .inl g3
      · exact .inl (hkeep b o (by simp [h1, h2, h3]) hb)
    · intro b o hb
      by_cases h1 : b = 140
      · subst h1; exact ⟨_, g1⟩
      by_cases h2 : b = 147
      · subst h2; exact ⟨_, g2⟩
      by_cases h3 : b = l
      · subst h3; exact ⟨_, g3⟩
      · exact ⟨_, hkeep b o (by simp [h1, h2, h3]) hb⟩
theorem PySem.Challenge.cw_ty0057_02_holds : PySem.Challenge.rw_ty0057_02.Holds := by
  exact Mine.headed
end
