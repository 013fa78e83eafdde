import PyProof.Rows.All
import Wide.All
import OpenK.AllK
import Wide.FinOn
import KE.KNestM
import KE.KDictSum
import KE.KLam
import KE.KSortAsk
import PySem.Challenge.RW_du0008_02
set_option Elab.async false
set_option compiler.extract_closed false
set_option linter.unusedSimpArgs false
set_option linter.unusedVariables false
namespace Mine.Internal
open PySem PySem.W PyProof.Rows PySem.Calls

inductive AV where
  | none | bool (b : Bool) | int (i : Int) | str (s : Str) | ref (a : Addr) | other (v : Value)
  deriving DecidableEq

@[reducible] noncomputable def er : Value → AV
  | .none => .none
  | .bool b => .bool b
  | .int i _ => .int i
  | .str s _ => .str s
  | .ref a => .ref a
  | v => .other v

theorem er_int {v : Value} {i : Int} (h : er v = .int i) : ∃ t, v = .int i t := by
  cases v <;> simp_all [er]
theorem er_str {v : Value} {x : Str} (h : er v = .str x) : ∃ t, v = .str x t := by
  cases v <;> simp_all [er]
theorem er_ref {v : Value} {a : Addr} (h : er v = .ref a) : v = .ref a := by
  cases v <;> simp_all [er]
theorem er_none {v : Value} (h : er v = .none) : v = .none := by
  cases v <;> simp_all [er]
theorem er_bool {v : Value} {b : Bool} (h : er v = .bool b) : v = .bool b := by
  cases v <;> simp_all [er]

noncomputable def AV.isKey : AV → Bool
  | .int _ => true
  | .str _ => true
  | _ => false

theorem isKey_cases {k : AV} (h : k.isKey = true) : (∃ i, k = .int i) ∨ ∃ x, k = .str x := by
  cases k <;> simp_all [AV.isKey]

noncomputable def avHash (w : World) : AV → Int
  | .int i => hashInt i
  | .str s => hashStr w s
  | _ => 0

section
variable {prog : Program} {w : World} {A : Around} {E : Value → Shared → Prop} {s : Shared}
theorem eqBool_int_str {a : Int} {b : Str} {t u : Tok} {Q : Bool → Shared → Prop} (h : Q false s) :
    wpAny (model prog w) A (eqBool (.int a t) (.str b u)) Q E s := by
  unfold eqBool
  refine wpAny_holding ?_
  rw [if_neg (by simp)]
  refine wpAny_bind ?_
  exact PySem.EqMixed.eq_int_str (by exact fun _ _ _ => h)
theorem eqBool_str_int {a : Str} {b : Int} {t u : Tok} {Q : Bool → Shared → Prop} (h : Q false s) :
    wpAny (model prog w) A (eqBool (.str a t) (.int b u)) Q E s := by
  unfold eqBool
  refine wpAny_holding ?_
  rw [if_neg (by simp)]
  refine wpAny_bind ?_
  exact PySem.EqMixed.eq_str_int (by exact fun _ _ _ => h)
end


noncomputable def avKind (prog : Program) (w : World) : KeyKind prog w AV where
  is k v := decide (er v = k) && k.isKey
  hash := avHash w
  inj := fun v a b ha hb => by
    simp only [Bool.and_eq_true, decide_eq_true_eq] at ha hb
    exact ha.1.symm.trans hb.1
  byValue := fun k v h => by
    simp only [Bool.and_eq_true, decide_eq_true_eq] at h
    obtain ⟨h, hk⟩ := h
    rcases isKey_cases hk with ⟨i, rfl⟩ | ⟨x, rfl⟩
    · obtain ⟨t, rfl⟩ := er_int h; rfl
    · obtain ⟨t, rfl⟩ := er_str h; rfl
  pyHash := fun {A E s k v Q} hv h => by
    simp only [Bool.and_eq_true, decide_eq_true_eq] at hv
    obtain ⟨e, hk⟩ := hv
    rcases isKey_cases hk with ⟨i, rfl⟩ | ⟨x, rfl⟩
    · obtain ⟨t, rfl⟩ := er_int e; exact wpAny_pyHash_int h
    · obtain ⟨t, rfl⟩ := er_str e; exact wpAny_pyHash_str h
  eqBool := fun {A E s a b u v Q} hu hv h => by
    simp only [Bool.and_eq_true, decide_eq_true_eq] at hu hv
    obtain ⟨eu, ku⟩ := hu
    obtain ⟨ev, kv⟩ := hv
    rcases isKey_cases ku with ⟨i, rfl⟩ | ⟨x, rfl⟩ <;> rcases isKey_cases kv with ⟨j, rfl⟩ | ⟨y, rfl⟩
    · obtain ⟨t, rfl⟩ := er_int eu; obtain ⟨t', rfl⟩ := er_int ev
      refine wpAny_eqBool_int ?_
      have : (i == j) = decide (AV.int i = AV.int j) := by rw [Bool.eq_iff_iff]; simp
      rw [this]; exact h
    · obtain ⟨t, rfl⟩ := er_int eu; obtain ⟨t', rfl⟩ := er_str ev
      exact eqBool_int_str (by simpa using h)
    · obtain ⟨t, rfl⟩ := er_str eu; obtain ⟨t', rfl⟩ := er_int ev
      exact eqBool_str_int (by simpa using h)
    · obtain ⟨t, rfl⟩ := er_str eu; obtain ⟨t', rfl⟩ := er_str ev
      refine wpAny_eqBool_str ?_
      have : decide (x = y) = decide (AV.str x = AV.str y) := by simp
      rw [this]; exact h
  «strs» := fun k x t v h => by
    simp only [Bool.and_eq_true] at h
    obtain ⟨h, hk⟩ := h
    have h : AV.str x = k := of_decide_eq_true h
    subst h
    cases v <;> simp [er, Value.isStr, AV.isKey]
    rename_i y _
    rw [Bool.eq_iff_iff]; simp

theorem avKind_is {prog : Program} {w : World} {k : AV} {v : Value} : (avKind prog w).is k v = true ↔ er v = k ∧ k.isKey = true := by
  simp [avKind]

theorem scannable_of_key {k : AV} {v : Value} (h : er v = k) (hk : k.isKey = true) : v.scannable = true := by
  rcases isKey_cases hk with ⟨i, rfl⟩ | ⟨x, rfl⟩
  · obtain ⟨t, rfl⟩ := er_int h; rfl
  · obtain ⟨t, rfl⟩ := er_str h; rfl

inductive Cell where
  | list (vs : List AV)
  | tuple (vs : List AV)
  | dict (kvs : List (AV × AV)) (ep : Nat)
  | set (S : AV → Bool) (n : Nat)
  | inst (C dx : Addr) (sl : List (Option AV))
  | attrs (kvs : List (Str × AV))
  | raw (P : Obj → Prop)

structure Frm where
  L : Addr
  cl : List (Str × Addr)
  ns : List Str
  vs : List (Option AV)

noncomputable def Frm.as (f : Frm) : List Addr := f.L :: f.cl.map (·.2)

structure AS where
  fs : List Frm
  σ : Addr → Option (Nat × Cell)
  gens : Array GenState

structure Cx where
  prog : Program
  w : World
  base : Heap
  os : OsState
  K : Frag
  inK : K.In base
  nolim : base.NoLimit
  sysm : (base.get? sysModules).isSome = true

noncomputable def gv : List Str → List (Option AV) → Str → Option AV
  | n :: ns, v :: vs, x => if n = x then v else gv ns vs x
  | _, _, _ => none

end Mine.Internal

namespace Mine.Internal
open PySem PySem.W PyProof.Rows PySem.Calls

inductive F2 {α β : Type} (R : α → β → Prop) : List α → List β → Prop
  | nil : F2 R [] []
  | cons {a b l m} : R a b → F2 R l m → F2 R (a :: l) (b :: m)

noncomputable def Cell.ok (c : Cx) : Cell → Obj → Prop
  | .list vs, o => ∃ us n, o = listOf us n ∧ us.toList.map er = vs
  | .tuple vs, o => ∃ us n, o = { cls := .type "tuple", data := .seq us n } ∧ us.toList.map er = vs
  | .dict kvs ep, o => o.ExactDict ∧ ∃ es kvs', o.data = .dict es ep ∧ KeysOf (avKind c.prog c.w) es ∧ Pairs (avKind c.prog c.w) es.toList kvs' ∧ kvs = kvs'.map (fun p => (p.1, er p.2)) ∧ (kvs.map (·.1)).Nodup
  | .set S n, o => o.SetObjOf (avKind c.prog c.w) S n
  | .inst C dx sl, o => o.cls = .ref C ∧ o.dict = some dx ∧ o.data = .plain ∧ o.slots.toList.map (·.map er) = sl
  | .attrs kvs, o => ∃ es n, o = dictOf es n ∧ F2 (fun (e : DictEntry) (p : Str × AV) => (∃ t, e.key = .str p.1 t) ∧ er e.val = p.2) es kvs
  | .raw P, o => P o

noncomputable def FrmOk (h : Heap) (f : Frm) : Prop :=
  ∃ m, h.Ns f.L m ∧ (∀ x, f.cl.lookup x = none → (m x).map er = gv f.ns f.vs x) ∧
    ∀ p ∈ f.cl, ∃ ov : Option Value, h.IsCell p.2 ov ∧ ov.map er = gv f.ns f.vs p.1

structure St (c : Cx) (a : AS) (s : Shared) : Prop where
  keep : ∀ b o, c.base.get? b = some o → s.heap.get? b = some o
  fr : ∀ f ∈ a.fs, FrmOk s.heap f
  nb : ∀ f ∈ a.fs, ∀ x ∈ f.as, c.base.get? x = none
  nd : (a.fs.flatMap Frm.as).Nodup
  own : ∀ x k cl, a.σ x = some (k, cl) → (∃ o, s.heap.get? x = some o ∧ cl.ok c o) ∧ c.base.get? x = none ∧ x ∉ a.fs.flatMap Frm.as
  os : s.os = c.os
  gens : s.gens = a.gens

theorem St.of_eq {c : Cx} {a : AS} {s s' : Shared} (h : St c a s) (e1 : s'.heap = s.heap := by rfl) (e2 : s'.os = s.os := by rfl) (e3 : s'.gens = s.gens := by rfl) : St c a s' :=
  ⟨by rw [e1]; exact h.keep, by rw [e1]; exact h.fr, h.nb, h.nd, by rw [e1]; exact h.own, e2.trans h.os, e3.trans h.gens⟩

theorem lookup_mem {x : Str} {ca : Addr} : ∀ {l : List (Str × Addr)}, l.lookup x = some ca → (x, ca) ∈ l
  | [], h => by simp at h
  | (y, b) :: l, h => by
    rw [List.lookup_cons] at h
    by_cases e : x == y
    · simp only [e] at h; cases h; simp [beq_iff_eq.mp e]
    · simp only [e] at h; exact List.mem_cons_of_mem _ (lookup_mem h)

/-- frames survive a change of the heap that keeps them -/
theorem FrmOk.keeps {h h' : Heap} {f : Frm} (x : FrmOk h f) (k : ∀ b ∈ f.as, ∀ o, h.get? b = some o → h'.get? b = some o) : FrmOk h' f := by
  obtain ⟨m, ⟨o, es, ep, ho, r⟩, h2, h3⟩ := x
  refine ⟨m, ⟨o, es, ep, k _ (by simp [Frm.as]) _ ho, r⟩, h2, fun p hp => ?_⟩
  obtain ⟨ov, ⟨oc, hc, hd⟩, q⟩ := h3 p hp
  exact ⟨ov, ⟨oc, k _ (by simp only [Frm.as, List.mem_cons]; exact .inr (List.mem_map_of_mem hp)) _ hc, hd⟩, q⟩

noncomputable def upd (σ : Addr → Option (Nat × Cell)) (l : Addr) (x : Option (Nat × Cell)) : Addr → Option (Nat × Cell) := fun y => if y = l then x else σ y
@[simp] theorem upd_self {σ : Addr → Option (Nat × Cell)} {l : Addr} {x} : upd σ l x l = x := by simp [upd]
theorem upd_ne {σ : Addr → Option (Nat × Cell)} {l y : Addr} {x} (h : y ≠ l) : upd σ l x y = σ y := by simp [upd, h]

noncomputable def Ext (C : List Nat) (σ σ' : Addr → Option (Nat × Cell)) : Prop := ∀ x k cl, σ x = some (k, cl) → k ∉ C → σ' x = some (k, cl)
theorem Ext.refl {C : List Nat} {σ} : Ext C σ σ := fun _ _ _ h _ => h
theorem Ext.trans {C : List Nat} {σ σ' σ''} (h : Ext C σ σ') (h' : Ext C σ' σ'') : Ext C σ σ'' := fun x k cl e n => h' x k cl (h x k cl e n) n
theorem Ext.mono {C D : List Nat} {σ σ'} (h : Ext C σ σ') (s : ∀ k ∈ C, k ∈ D) : Ext D σ σ' := fun x k cl e n => h x k cl e fun q => n (s k q)
theorem Ext.nil {C : List Nat} {σ σ'} (h : Ext [] σ σ') : Ext C σ σ' := h.mono (by simp)
theorem Ext.upd_new {C : List Nat} {σ : Addr → Option (Nat × Cell)} {l : Addr} {x} (h : σ l = none) : Ext C σ (upd σ l x) := fun y k cl e _ => by
  rw [upd_ne (fun q => by rw [q, h] at e; cases e)]; exact e
theorem Ext.upd_own {C : List Nat} {σ : Addr → Option (Nat × Cell)} {l : Addr} {k cl x} (h : σ l = some (k, cl)) (hk : k ∈ C) : Ext C σ (upd σ l x) := fun y k' cl' e n => by
  rw [upd_ne (fun q => by rw [q, h] at e; cases e; exact n hk)]; exact e

theorem St.fresh {c : Cx} {a : AS} {s : Shared} (h : St c a s) : a.σ s.heap.objs.size = none ∧ s.heap.objs.size ∉ a.fs.flatMap Frm.as ∧ c.base.get? s.heap.objs.size = none := by
  refine ⟨?_, fun hm => ?_, ?_⟩
  · cases e : a.σ s.heap.objs.size with
    | none => rfl
    | some p =>
      obtain ⟨⟨o, ho, _⟩, _⟩ := h.own _ p.1 p.2 e
      exact absurd (Heap.lt_size ho) (Nat.lt_irrefl _)
  · obtain ⟨f, hf, hx⟩ := List.mem_flatMap.mp hm
    obtain ⟨m, hn, _, h3⟩ := h.fr f hf
    simp only [Frm.as, List.mem_cons, List.mem_map] at hx
    rcases hx with e | ⟨p, hp, e⟩
    · exact absurd (e ▸ hn.lt) (Nat.lt_irrefl _)
    · obtain ⟨ov, ⟨oc, hc, _⟩, _⟩ := h3 p hp
      exact absurd (e ▸ Heap.lt_size hc) (Nat.lt_irrefl _)
  · cases e : c.base.get? s.heap.objs.size with
    | none => rfl
    | some o => exact absurd (Heap.lt_size (h.keep _ _ e)) (Nat.lt_irrefl _)
end Mine.Internal

namespace Mine.Internal
open PySem PySem.W PyProof.Rows PySem.Calls

/-- another heap that keeps all but x; x is forgotten -/
theorem St.drop {c : Cx} {a : AS} {s : Shared} {h' : Heap} {x : Addr} {p : Nat × Cell} (h : St c a s) (hx : a.σ x = some p)
    (hs : ∀ b o, b ≠ x → s.heap.get? b = some o → h'.get? b = some o) : St c { a with σ := upd a.σ x none } { s with heap := h' } := by
  have hxo := h.own x p.1 p.2 hx
  refine ⟨fun b o e => hs b o (fun q => by rw [q, hxo.2.1] at e; cases e) (h.keep b o e), fun f hf => (h.fr f hf).keeps fun b hb o e => hs b o (fun q => ?_) e, h.nb, h.nd, fun y k cl e => ?_, h.os, h.gens⟩
  · exact hxo.2.2 (List.mem_flatMap.mpr ⟨f, hf, q ▸ hb⟩)
  · by_cases q : y = x
    · subst q; simp [upd] at e
    · simp only [upd_ne q] at e
      obtain ⟨⟨o, ho, ok⟩, r⟩ := h.own y k cl e
      exact ⟨⟨o, hs y o q ho, ok⟩, r⟩

theorem St.put {c : Cx} {a : AS} {s : Shared} {h' : Heap} {x : Addr} {p : Nat × Cell} {k' : Nat} {cl' : Cell} {o' : Obj} (h : St c a s) (hx : a.σ x = some p)
    (hs : ∀ b o, b ≠ x → s.heap.get? b = some o → h'.get? b = some o) (ho : h'.get? x = some o') (hk : cl'.ok c o') :
    St c { a with σ := upd a.σ x (some (k', cl')) } { s with heap := h' } := by
  have hxo := h.own x p.1 p.2 hx
  have D := h.drop hx hs
  refine ⟨D.keep, D.fr, D.nb, D.nd, fun y k cl e => ?_, D.os, D.gens⟩
  by_cases q : y = x
  · subst q
    simp only [upd_self, Option.some.injEq, Prod.mk.injEq] at e
    obtain ⟨rfl, rfl⟩ := e
    exact ⟨⟨o', ho, hk⟩, hxo.2⟩
  · simp only [upd_ne q] at e
    exact D.own y k cl (by simp only [upd_ne q]; exact e)

theorem St.alloc {c : Cx} {a : AS} {s : Shared} {k : Nat} {cl : Cell} {o : Obj} (h : St c a s) (hk : cl.ok c o) (hf : o.isFreed = false) :
    St c { a with σ := upd a.σ s.heap.objs.size (some (k, cl)) } { s with heap := s.heap.push o } := by
  obtain ⟨f1, f2, f3⟩ := h.fresh
  have hs : ∀ b o', s.heap.get? b = some o' → (s.heap.push o).get? b = some o' := fun b o' e => Heap.get?_push_of_some _ e
  refine ⟨fun b o e => hs b o (h.keep b o e), fun f hf => (h.fr f hf).keeps fun b _ o e => hs b o e, h.nb, h.nd, fun y k' cl' e => ?_, h.os, h.gens⟩
  by_cases q : y = s.heap.objs.size
  · subst q
    simp only [upd_self, Option.some.injEq, Prod.mk.injEq] at e
    obtain ⟨rfl, rfl⟩ := e
    exact ⟨⟨o, Heap.get?_push_size _ hf, hk⟩, f3, f2⟩
  · simp only [upd_ne q] at e
    obtain ⟨⟨o', ho, ok⟩, r⟩ := h.own y k' cl' e
    exact ⟨⟨o', hs y o' ho, ok⟩, r⟩

/-- a heap that keeps everything (new, unowned objects may stand in it) -/
theorem St.grow {c : Cx} {a : AS} {s : Shared} {h' : Heap} (h : St c a s) (hs : ∀ b o, s.heap.get? b = some o → h'.get? b = some o) : St c a { s with heap := h' } :=
  ⟨fun b o e => hs b o (h.keep b o e), fun f hf => (h.fr f hf).keeps fun b _ o e => hs b o e, h.nb, h.nd,
    fun y k cl e => let ⟨⟨o, ho, ok⟩, r⟩ := h.own y k cl e; ⟨⟨o, hs y o ho, ok⟩, r⟩, h.os, h.gens⟩

noncomputable def W (c : Cx) {α : Type} (A : Around) (t : Sem α) (Q : α → AS → Prop) (E : Value → AS → Prop) (a : AS) : Prop :=
  ∀ s, St c a s → wpAny (model c.prog c.w) A t (fun v s' => ∃ a', St c a' s' ∧ Q v a') (fun e s' => ∃ a', St c a' s' ∧ E e a') s

noncomputable def Wk (c : Cx) (A : Around) (k : Code) (R : Result → AS → Prop) (a : AS) : Prop :=
  ∀ s, St c a s → codeAny (model c.prog c.w) A k (fun r s' => ∃ a', St c a' s' ∧ R r a') s

section
variable {c : Cx} {α β : Type} {A : Around} {E : Value → AS → Prop} {a : AS} {env : Env}

theorem W_pure {v : α} {Q : α → AS → Prop} (h : Q v a) : W c A (pure v) Q E a := fun s hs => wpAny_pure ⟨a, hs, h⟩
theorem W_mono {t : Sem α} {Q Q' : α → AS → Prop} {E' : Value → AS → Prop} (h : W c A t Q E a) (hQ : ∀ v a, Q v a → Q' v a) (hE : ∀ e a, E e a → E' e a) : W c A t Q' E' a :=
  fun s hs => wpAny_mono (h s hs) (fun v s' ⟨a', h1, q⟩ => ⟨a', h1, hQ _ _ q⟩) fun e s' ⟨a', h1, q⟩ => ⟨a', h1, hE _ _ q⟩
theorem W_bind {t : Sem α} {f : α → Sem β} {Q : β → AS → Prop} (h : W c A t (fun v a' => W c A (f v) Q E a') E a) : W c A (t >>= f) Q E a :=
  fun s hs => wpAny_bind (wpAny_mono (h s hs) (fun v s' ⟨a', h1, q⟩ => q s' h1) fun _ _ x => x)
theorem W_holding {vs : List Value} {t : Sem α} {Q : α → AS → Prop} (h : W c A t Q E a) : W c A (holding vs t) Q E a := fun s hs => wpAny_holding (h s hs)
theorem W_standAt {p : Pos} {Q : Unit → AS → Prop} (h : Q () a) : W c A (standAt p) Q E a := fun s hs => wpAny_standAt ⟨a, hs, h⟩
/-- a rule of the library that takes one tree and its rest -/
theorem W_of1 {t : Sem β} {t1 : Sem α} {k : α → Sem β} {Q : β → AS → Prop}
    (R : ∀ (Q : β → Shared → Prop) (E : Value → Shared → Prop) (s : Shared), wpAny (model c.prog c.w) A t1 (fun v s1 => wpAny (model c.prog c.w) A (k v) Q E s1) E s → wpAny (model c.prog c.w) A t Q E s)
    (h : W c A t1 (fun v a1 => W c A (k v) Q E a1) E a) : W c A t Q E a := fun s hs => R _ _ _ (wpAny_mono (h s hs) (fun v s1 ⟨a1, h1, q⟩ => q s1 h1) fun _ _ x => x)
/-! statements -/
theorem W_nil {Q : Flow → AS → Prop} (h : Q .next a) : W c A (execs [] env) Q E a := fun s hs => wpAny_execs_nil ⟨a, hs, h⟩
theorem W_cons {st : Stmt} {rest : List Stmt} {Q : Flow → AS → Prop}
    (h : W c A (exec st env) (fun f a' => match f with | .next => W c A (execs rest env) Q E a' | f => Q f a') E a) : W c A (execs (st :: rest) env) Q E a := fun s hs =>
  wpAny_execs_cons (wpAny_mono (h s hs) (fun f s' ⟨a', h1, q⟩ => by cases f <;> first | exact q s' h1 | exact ⟨a', h1, q⟩) fun _ _ x => x)
theorem W_Expr {e : Expr} {pos : Pos} {Q : Flow → AS → Prop} (h : W c A (eval e env) (fun _ a' => Q .next a') E a)
    (hi : interactive env = false := by with_unfolding_all rfl) (hs : swapsWith e none pos.line env = pure false := by with_unfolding_all rfl) : W c A (exec (.Expr e pos) env) Q E a := fun s hs' =>
  wpAny_Expr_any (h s hs') hi hs
theorem W_Assign_Name {x : Str} {pos' : Pos} {value : Expr} {pos : Pos} {Q : Flow → AS → Prop}
    (h : W c A (eval value env) (fun v a₁ => W c A (storeName env x v) (fun _ => Q .next) E a₁) E a)
    (hs : swapsWith value (some (.Name x pos')) pos.line env = pure false := by with_unfolding_all rfl) : W c A (exec (.Assign [.Name x pos'] value pos) env) Q E a := fun s hs' =>
  wpAny_Assign_Name (wpAny_mono (h s hs') (fun v s₁ ⟨a1, h1, q⟩ => q s₁ h1) fun _ _ x => x) hs
theorem W_If {test : Expr} {body orelse : List Stmt} {pos : Pos} {Q : Flow → AS → Prop}
    (h : W c A (isTrue test env (eval test env)) (fun b a₂ => if b then W c A (execs body env) Q E a₂ else W c A (execs orelse env) Q E a₂) E a) : W c A (exec (.If test body orelse pos) env) Q E a := fun s hs =>
  wpAny_If (wpAny_mono (h s hs) (fun b s₂ ⟨a₂, h2, q⟩ => by cases b <;> exact q s₂ h2) fun _ _ x => x)
theorem W_Return_some {e : Expr} {pos : Pos} {Q : Flow → AS → Prop} (h : W c A (eval e env) (fun v a' => Q (.ret v) a') E a) : W c A (exec (.Return (some e) pos) env) Q E a := fun s hs =>
  wpAny_Return_some (h s hs)
theorem W_Break {pos : Pos} {Q : Flow → AS → Prop} (h : Q .brk a) : W c A (exec (.Break pos) env) Q E a := fun s hs => wpAny_Break ⟨a, hs, h⟩
theorem W_Continue {pos : Pos} {Q : Flow → AS → Prop} (h : Q .cont a) : W c A (exec (.Continue pos) env) Q E a := fun s hs => wpAny_Continue ⟨a, hs, h⟩
/-! expressions -/
theorem W_BinOp {l : Expr} {op : Operator} {r : Expr} {pos : Pos} {Q : Value → AS → Prop}
    (h : W c A (eval l env) (fun u a₁ => W c A (eval r env) (fun v a₂ => W c A (binaryOp op u v) Q E a₂) E a₁) E a) : W c A (eval (.BinOp l op r pos) env) Q E a := fun s hs =>
  wpAny_BinOp (wpAny_mono (h s hs) (fun u s₁ ⟨a₁, h1, q⟩ => wpAny_mono (q s₁ h1) (fun v s₂ ⟨a₂, h2, q⟩ => q s₂ h2) fun _ _ x => x) fun _ _ x => x)
theorem W_Compare1 {l : Expr} {op : CmpOp} {r : Expr} {pos : Pos} {Q : Value → AS → Prop}
    (h : W c A (eval l env) (fun u a₁ => W c A (eval r env) (fun v a₂ => W c A (compareOp op u v) Q E a₂) E a₁) E a)
    (hm : behindInMarks op r = false := by with_unfolding_all rfl) : W c A (eval (.Compare l [op] [r] pos) env) Q E a := fun s hs =>
  wpAny_Compare1 (wpAny_mono (h s hs) (fun u s₁ ⟨a₁, h1, q⟩ => wpAny_mono (q s₁ h1) (fun v s₂ ⟨a₂, h2, q⟩ => q s₂ h2) fun _ _ x => x) fun _ _ x => x) hm
theorem W_isTrue_Compare1 {l : Expr} {op : CmpOp} {r : Expr} {pos : Pos} {whole : Sem Value} {Q : Bool → AS → Prop}
    (h : W c A (eval l env) (fun u a₁ => W c A (eval r env) (fun v a₂ => W c A (compareOp op u v) (fun t a₃ => W c A (truthy t) Q E a₃) E a₂) E a₁) E a)
    (hm : behindInMarks op r = false := by with_unfolding_all rfl) : W c A (isTrue (.Compare l [op] [r] pos) env whole) Q E a := fun s hs =>
  wpAny_isTrue_Compare1 (wpAny_mono (h s hs) (fun u s₁ ⟨a₁, h1, q⟩ => wpAny_mono (q s₁ h1) (fun v s₂ ⟨a₂, h2, q⟩ => wpAny_mono (q s₂ h2) (fun t s₃ ⟨a₃, h3, q⟩ => q s₃ h3) fun _ _ x => x) fun _ _ x => x) fun _ _ x => x) hm
theorem W_truthy_bool {b : Bool} {Q : Bool → AS → Prop} (h : Q b a) : W c A (truthy (.bool b)) Q E a := fun s hs => wpAny_truthy_bool ⟨a, hs, h⟩
theorem W_UnaryOp {op : UnaryOp} {x : Expr} {pos : Pos} {Q : Value → AS → Prop} (h : W c A (eval x env) (fun v a₁ => W c A (unaryOp op v) Q E a₁) E a) : W c A (eval (.UnaryOp op x pos) env) Q E a :=
  W_of1 (fun _ _ _ => wpAny_UnaryOp) h
theorem W_isTrue_Not {x : Expr} {pos : Pos} {whole : Sem Value} {Q : Bool → AS → Prop} (h : W c A (isTrue x env (eval x env)) (fun b a₁ => Q (!b) a₁) E a) : W c A (isTrue (.UnaryOp .Not x pos) env whole) Q E a :=
  fun s hs => wpAny_isTrue_Not (h s hs)
theorem W_And2 {x y : Expr} {pos : Pos} {Q : Value → AS → Prop}
    (h : W c A (eval x env) (fun v a₁ => W c A (truthy v) (fun t a₂ => if t then W c A (eval y env) Q E a₂ else Q v a₂) E a₁) E a) : W c A (eval (.BoolOp .And [x, y] pos) env) Q E a := fun s hs =>
  wpAny_And2 (wpAny_mono (h s hs) (fun v s₁ ⟨a₁, h1, q⟩ => wpAny_mono (q s₁ h1) (fun t s₂ ⟨a₂, h2, q⟩ => by cases t; exact ⟨a₂, h2, q⟩; exact q s₂ h2) fun _ _ x => x) fun _ _ x => x)
theorem W_Or2 {x y : Expr} {pos : Pos} {Q : Value → AS → Prop}
    (h : W c A (eval x env) (fun v a₁ => W c A (truthy v) (fun t a₂ => if t then Q v a₂ else W c A (eval y env) Q E a₂) E a₁) E a) : W c A (eval (.BoolOp .Or [x, y] pos) env) Q E a := fun s hs =>
  wpAny_Or2 (wpAny_mono (h s hs) (fun v s₁ ⟨a₁, h1, q⟩ => wpAny_mono (q s₁ h1) (fun t s₂ ⟨a₂, h2, q⟩ => by cases t; exact q s₂ h2; exact ⟨a₂, h2, q⟩) fun _ _ x => x) fun _ _ x => x)
theorem W_allTrue_nil {op : BoolOp} {Q : Bool → AS → Prop} (h : Q (op == .And) a) : W c A (allTrue op [] env) Q E a := W_pure h
theorem W_allTrue_or {x : Expr} {rest : List Expr} {Q : Bool → AS → Prop}
    (h : W c A (isTrue x env (eval x env)) (fun b a₁ => if b then Q true a₁ else W c A (allTrue .Or rest env) Q E a₁) E a) : W c A (allTrue .Or (x :: rest) env) Q E a := by
  show W c A (isTrue x env (eval x env) >>= _) Q E a
  refine W_bind (W_mono h (fun b a₁ q => ?_) fun _ _ x => x)
  cases b
  · exact q
  · exact W_pure q
theorem W_isTrue_BoolOp {op : BoolOp} {vs : List Expr} {pos : Pos} {whole : Sem Value} {Q : Bool → AS → Prop} (h : W c A (allTrue op vs env) Q E a) : W c A (isTrue (.BoolOp op vs pos) env whole) Q E a := h
theorem W_isTrue_any {e : Expr} {whole : Sem Value} {Q : Bool → AS → Prop}
    (h : W c A whole (fun v a₁ => W c A (truthy v) Q E a₁) E a) (he : isTrue e env whole = (do let v ← whole; standAt e.pos; holding [v] (truthy v)) := by with_unfolding_all rfl) : W c A (isTrue e env whole) Q E a := by
  rw [he]
  exact W_bind (W_mono h (fun v a₁ q => W_bind (W_standAt (W_holding q))) fun _ _ x => x)
theorem W_NamedExpr {x : Str} {p pos : Pos} {value : Expr} {Q : Value → AS → Prop}
    (h : W c A (eval value env) (fun v a₁ => W c A (storeName env x v) (fun _ a₂ => Q v a₂) E a₁) E a) : W c A (eval (.NamedExpr (.Name x p) value pos) env) Q E a := by
  show W c A (eval value env >>= _) Q E a
  refine W_bind (W_mono h (fun v a₁ q => W_bind (W_holding (W_bind (W_standAt ?_)))) fun _ _ x => x)
  exact fun s hs => wpAny_bindName (wpAny_mono (q s hs) (fun _ s' ⟨a', h1, q⟩ => ⟨a', h1, W_pure q⟩) fun _ _ x => x)
end
end Mine.Internal

namespace Mine.Internal
open PySem PySem.W PyProof.Rows PySem.Calls

@[reducible] noncomputable def All (v : AV) (P : Value → Prop) : Prop :=
  match v with
  | .none => P .none
  | .bool b => P (.bool b)
  | .int i => ∀ t, P (.int i t)
  | .str s => ∀ t, P (.str s t)
  | .ref a => P (.ref a)
  | .other v => P v

theorem All.at {v : AV} {P : Value → Prop} (h : All v P) {u : Value} (e : er u = v) : P u := by
  subst e
  cases u <;> first | exact h | exact h _
theorem All.of {v : AV} {P : Value → Prop} (h : ∀ u, er u = v → P u) (hv : ∀ u, v = .other u → er u = .other u := by intro u e; cases e) : All v P := by
  cases v <;> first | exact h _ rfl | exact fun t => h _ rfl | skip
  exact h _ (hv _ rfl)

inductive VarAt : List Str → List (Option AV) → Str → Option AV → Prop
  | here {x ns v vs} : VarAt (x :: ns) (v :: vs) x v
  | there {n ns w vs x v} : VarAt ns vs x v → VarAt (n :: ns) (w :: vs) x v
inductive SetVar : List Str → List (Option AV) → Str → Option AV → List (Option AV) → Prop
  | here {x ns w vs v} : SetVar (x :: ns) (w :: vs) x v (v :: vs)
  | there {n ns w vs x v vs'} : SetVar ns vs x v vs' → SetVar (n :: ns) (w :: vs) x v (w :: vs')

theorem VarAt.gv {ns : List Str} {vs : List (Option AV)} {x : Str} {v : Option AV} (h : VarAt ns vs x v) (hd : ns.Nodup) : gv ns vs x = v ∧ x ∈ ns := by
  induction h with
  | here => simp [Mine.Internal.gv]
  | @there n ns w vs x v h ih =>
    obtain ⟨e, hm⟩ := ih (List.nodup_cons.mp hd).2
    have hne : n ≠ x := fun q => (List.nodup_cons.mp hd).1 (q ▸ hm)
    exact ⟨by simp [Mine.Internal.gv, hne, e], List.mem_cons_of_mem _ hm⟩
theorem SetVar.gv {ns : List Str} {vs vs' : List (Option AV)} {x : Str} {v : Option AV} (h : SetVar ns vs x v vs') (hd : ns.Nodup) : (∀ y, gv ns vs' y = if y = x then v else gv ns vs y) ∧ x ∈ ns := by
  induction h with
  | @here x ns w vs v =>
    refine ⟨fun y => ?_, by simp⟩
    simp only [Mine.Internal.gv]
    by_cases e : x = y
    · subst e; simp
    · simp [e, Ne.symm e]
  | @there n ns w vs x v vs' h ih =>
    obtain ⟨e, hm⟩ := ih (List.nodup_cons.mp hd).2
    have hne : n ≠ x := fun q => (List.nodup_cons.mp hd).1 (q ▸ hm)
    refine ⟨fun y => ?_, List.mem_cons_of_mem _ hm⟩
    simp only [Mine.Internal.gv, e y]
    by_cases q : n = y
    · subst q; simp [hne]
    · simp [q]

noncomputable def Glob (c : Cx) (x : Str) (v : Value) : Prop :=
  (∃ mg, c.base.Ns mainGlobals mg ∧ mg x = some v) ∨ ∃ mg mb, c.base.Ns mainGlobals mg ∧ mg x = none ∧ c.base.Ns builtinsNs mb ∧ mb x = some v

structure EnvOk (c : Cx) (env : Env) (L : Addr) (cl : List (Str × Addr)) (ns : List Str) (gs : List (Str × Value)) : Prop where
  kind : env.scope.kind = .function
  loc : env.locals = L
  nd : ns.Nodup
  cn : (cl.map (·.1)).Nodup
  var : ∀ x ∈ ns, (x == ("__debug__" : Str)) = false ∧ ((cl.lookup x = none ∧ env.kindOf x = some .local) ∨ ∃ ca, cl.lookup x = some ca ∧ env.kindOf x = some .cell ∧ env.cells.lookup x = some ca)
  glo : ∀ p ∈ gs, (p.1 == ("__debug__" : Str)) = false ∧ env.kindOf p.1 = some .globalImplicit ∧ Glob c p.1 p.2
  gl : env.globals = mainGlobals
  bl : env.builtins = builtinsNs

section
variable {c : Cx} {A : Around} {E : Value → AS → Prop} {env : Env} {L : Addr} {cl : List (Str × Addr)} {ns : List Str} {gs : List (Str × Value)} {vs vs' : List (Option AV)} {fs : List Frm} {σ : Addr → Option (Nat × Cell)} {g : Array GenState} {x : Str}

theorem map_some_of {α β : Type} {f : α → β} {o : Option α} {b : β} (h : o.map f = some b) : ∃ a, o = some a ∧ f a = b := by
  cases o with
  | none => cases h
  | some a => exact ⟨a, rfl, Option.some.inj h⟩

theorem W_loadName {v : AV} {Q : Value → AS → Prop} (he : EnvOk c env L cl ns gs) (hv : VarAt ns vs x (some v)) (h : All v (fun u => Q u ⟨⟨L, cl, ns, vs⟩ :: fs, σ, g⟩)) :
    W c A (loadName env x) Q E ⟨⟨L, cl, ns, vs⟩ :: fs, σ, g⟩ := by
  intro s hs
  obtain ⟨e, hm⟩ := hv.gv he.nd
  obtain ⟨m, hn, h2, h3⟩ := hs.fr _ (List.mem_cons_self ..)
  rcases (he.var x hm).2 with ⟨hc, hk⟩ | ⟨ca, hc, hk, hcell⟩
  · obtain ⟨u, hu, eu⟩ := map_some_of ((h2 x hc).trans e)
    refine wpAny_loadName_local he.kind hk (by rw [he.loc]; exact hn) hu ⟨_, hs, h.at eu⟩
  · obtain ⟨ov, hov, eo⟩ := h3 _ (lookup_mem hc)
    obtain ⟨u, rfl, eu⟩ := map_some_of (eo.trans e)
    exact wpAny_loadName_cell he.kind hk hcell hov ⟨_, hs, h.at eu⟩

theorem W_Name {pos : Pos} {v : AV} {Q : Value → AS → Prop} (he : EnvOk c env L cl ns gs) (hv : VarAt ns vs x (some v)) (h : All v (fun u => Q u ⟨⟨L, cl, ns, vs⟩ :: fs, σ, g⟩)) :
    W c A (eval (.Name x pos) env) Q E ⟨⟨L, cl, ns, vs⟩ :: fs, σ, g⟩ := by
  intro s hs
  exact wpAny_Name (W_loadName he hv h s hs) (he.var x (hv.gv he.nd).2).1

theorem W_Glob {pos : Pos} {v : Value} {a : AS} {Q : Value → AS → Prop} (he : EnvOk c env L cl ns gs) (hv : (x, v) ∈ gs) (h : Q v a) : W c A (eval (.Name x pos) env) Q E a := by
  intro s hs
  obtain ⟨h1, h2, h3⟩ := he.glo _ hv
  refine Name_function_global he.kind h2 ?_ h1
  rcases h3 with ⟨mg, n1, n2⟩ | ⟨mg, mb, n1, n2, n3, n4⟩
  · exact loadGlobal_global (by rw [he.gl]; exact n1.keeps hs.keep) n2 ⟨a, hs, h⟩
  · exact loadGlobal_builtin (by rw [he.gl]; exact n1.keeps hs.keep) n2 (by rw [he.bl]; exact n3.keeps hs.keep) n4 ⟨a, hs, h⟩

theorem mem_as_ne {fs : List Frm} {f f' : Frm} (hnd : ((f :: fs).flatMap Frm.as).Nodup) {b b' : Addr} (hb : b ∈ f.as) (hf : f' ∈ fs) (hb' : b' ∈ f'.as) : b' ≠ b := fun e => by
  rw [List.flatMap_cons] at hnd
  exact (List.nodup_append.mp hnd).2.2 b hb b' (List.mem_flatMap.mpr ⟨f', hf, hb'⟩) e.symm

theorem nodup_inj {α β : Type} {f : α → β} : ∀ {l : List α}, (l.map f).Nodup → ∀ {p q : α}, p ∈ l → q ∈ l → f p = f q → p = q
  | [], _, _, _, hp, _, _ => by cases hp
  | r :: l, hd, p, q, hp, hq, e => by
    simp only [List.map_cons, List.nodup_cons] at hd
    rcases List.mem_cons.mp hp with hp' | hp' <;> rcases List.mem_cons.mp hq with hq' | hq'
    · rw [hp', hq']
    · exact absurd (by rw [← hp', e]; exact List.mem_map_of_mem hq') hd.1
    · exact absurd (by rw [← hq', ← e]; exact List.mem_map_of_mem hp') hd.1
    · exact nodup_inj hd.2 hp' hq' e

theorem W_storeName {u : Value} {Q : Unit → AS → Prop} (he : EnvOk c env L cl ns gs) (hv : SetVar ns vs x (some (er u)) vs') (h : Q () ⟨⟨L, cl, ns, vs'⟩ :: fs, σ, g⟩) :
    W c A (storeName env x u) Q E ⟨⟨L, cl, ns, vs⟩ :: fs, σ, g⟩ := by
  intro s hs
  obtain ⟨e, hm⟩ := hv.gv he.nd
  obtain ⟨m, hn, h2, h3⟩ := hs.fr _ (List.mem_cons_self ..)
  dsimp only at hn h2 h3
  have hnd := hs.nd
  rw [List.flatMap_cons] at hnd
  have hndh : (L :: cl.map (·.2)).Nodup := (List.nodup_append.mp hnd).1
  -- what both arms share: a heap that keeps all but one address of this frame
  have fin : ∀ (b : Addr) (h' : Heap) (tk : Nat), b ∈ (L :: cl.map (·.2)) → (∀ b' o, b' ≠ b → s.heap.get? b' = some o → h'.get? b' = some o) → FrmOk h' ⟨L, cl, ns, vs'⟩ →
      St c ⟨⟨L, cl, ns, vs'⟩ :: fs, σ, g⟩ { s with heap := h', toks := tk } := by
    intro b h' tk hb hk hfr
    have hbb := hs.nb _ (List.mem_cons_self ..) b hb
    refine ⟨fun b' o q => hk b' o (fun z => by rw [z, hbb] at q; cases q) (hs.keep b' o q), fun f hf => ?_, fun f hf => ?_, hs.nd, fun y k cl' q => ?_, hs.os, hs.gens⟩
    · rcases List.mem_cons.mp hf with rfl | hf
      · exact hfr
      · exact (hs.fr f (List.mem_cons_of_mem _ hf)).keeps fun b' hb' o q => hk b' o (mem_as_ne hs.nd hb hf hb') q
    · rcases List.mem_cons.mp hf with rfl | hf
      · exact hs.nb ⟨L, cl, ns, vs⟩ (List.mem_cons_self ..)
      · exact hs.nb f (List.mem_cons_of_mem _ hf)
    · obtain ⟨⟨o, ho, ok⟩, r1, r2⟩ := hs.own y k cl' q
      refine ⟨⟨o, hk y o (fun z => r2 ?_) ho, ok⟩, r1, r2⟩
      rw [List.flatMap_cons]
      exact List.mem_append_left _ (z ▸ hb)
  rcases (he.var x hm).2 with ⟨hc, hk⟩ | ⟨ca, hc, hk, hcell⟩
  · refine wpAny_storeName_local hk (by rw [he.loc]; exact hn) (fun h' hn' hsb => ⟨_, fin L h' _ (by simp) (fun b' o q z => ?_) ⟨_, by rw [← he.loc]; exact hn', fun y hy => ?_, fun p hp => ?_⟩, h⟩) (by rw [he.kind]; rfl)
    · rw [he.loc] at hsb; exact (hsb.2 b' q).trans z
    · dsimp only; rw [e y]
      by_cases q : y = x
      · simp [q]
      · simp only [if_neg q]; exact h2 y hy
    · obtain ⟨ov, ⟨oc, hoc, hod⟩, eo⟩ := h3 p hp
      have hne : p.2 ≠ L := fun z => (List.nodup_cons.mp hndh).1 (z ▸ List.mem_map_of_mem hp)
      have hpx : p.1 ≠ x := fun z => by
        have : ∀ l : List (Str × Addr), p ∈ l → l.lookup x ≠ none := by
          intro l hl q
          induction l with
          | nil => cases hl
          | cons r l ih =>
            rw [List.lookup_cons] at q
            by_cases w : x == r.1
            · simp [w] at q
            · simp only [w] at q
              rcases List.mem_cons.mp hl with rfl | hl
              · exact w (by simp [z])
              · exact ih hl q
        exact this cl hp hc
      refine ⟨ov, ⟨oc, (by rw [he.loc] at hsb; exact (hsb.2 _ hne).trans hoc), hod⟩, ?_⟩
      dsimp only; rw [e, if_neg hpx]; exact eo
  · obtain ⟨ov, hov, eo⟩ := h3 _ (lookup_mem hc)
    have hcam : ca ∈ cl.map (·.2) := List.mem_map_of_mem (lookup_mem hc)
    have hne : ca ≠ L := fun z => (List.nodup_cons.mp hndh).1 (z ▸ hcam)
    refine wpAny_storeName_cell he.kind hk hcell hov (fun h' hc' hsb => ⟨_, fin ca h' _ (List.mem_cons_of_mem _ hcam) (fun b' o q z => (hsb.2 b' q).trans z) ⟨m, hn.sameBut hsb (Ne.symm hne), fun y hy => ?_, fun p hp => ?_⟩, h⟩)
    · dsimp only; rw [e y, if_neg (fun z => by subst z; rw [hc] at hy; cases hy)]; exact h2 y hy
    · dsimp only; rw [e]
      by_cases q : p.2 = ca
      · have : p = (x, ca) := nodup_inj (f := (·.2)) (List.nodup_cons.mp hndh).2 hp (lookup_mem hc) q
        subst this
        exact ⟨_, hc', by simp⟩
      · obtain ⟨ov', ⟨oc, hoc, hod⟩, eo'⟩ := h3 p hp
        have hpx : p.1 ≠ x := fun z => q (congrArg (·.2) (nodup_inj (f := (·.1)) he.cn hp (lookup_mem hc) z))
        exact ⟨ov', ⟨oc, (hsb.2 _ q).trans hoc, hod⟩, by rw [if_neg hpx]; exact eo'⟩
end
end Mine.Internal

namespace Mine.Internal
open PySem PySem.W PyProof.Rows PySem.Calls

noncomputable def Link (A : Around) (fs : List Frm) : Prop := ∃ envs, A.frames = some envs ∧ ∀ e ∈ envs, e.scope.kind = .function ∧ ∃ f ∈ fs, e.frame = some f.L

structure AOk (A : Around) (fs : List Frm) (d : Nat) : Prop where
  depth : A.depth + 8 * d ≤ 900
  units : A.units + 200 * d ≤ 9000
  link : Link A fs
  guards : A.guards = some []
  handled : A.handled = none

theorem AOk.le {A : Around} {fs : List Frm} {d d' : Nat} (h : AOk A fs d) (hd : d' ≤ d) : AOk A fs d' :=
  ⟨by have := h.depth; omega, by have := h.units; omega, h.link, h.guards, h.handled⟩
theorem AOk.room {A : Around} {fs : List Frm} {d : Nat} (h : AOk A fs d) : A.depth < recursionLimit := by
  have := h.depth; unfold recursionLimit; omega
theorem AOk.deeper {A : Around} {fs : List Frm} {d : Nat} {env : Env} {f : Frm} (h : AOk A fs (d + 1)) (hk : env.scope.kind = .function) (hf : env.frame = some f.L) : AOk (A.deeper env) (f :: fs) d := by
  refine ⟨by have := h.depth; simp only [Around.deeper]; omega, by have := h.units; simp only [Around.deeper]; omega, ?_, h.guards, h.handled⟩
  obtain ⟨envs, e, r⟩ := h.link
  refine ⟨env :: envs, by simp [Around.deeper, e], fun e' he => ?_⟩
  rcases List.mem_cons.mp he with rfl | he
  · exact ⟨hk, f, List.mem_cons_self .., hf⟩
  · obtain ⟨k, f', hf', q⟩ := r e' he
    exact ⟨k, f', List.mem_cons_of_mem _ hf', q⟩
theorem AOk.pop {A : Around} {fs fs' : List Frm} {d : Nat} (h : AOk A fs d) (hs : ∀ f ∈ fs, ∃ f' ∈ fs', f'.L = f.L) : AOk A fs' d := by
  refine ⟨h.depth, h.units, ?_, h.guards, h.handled⟩
  obtain ⟨envs, e, r⟩ := h.link
  refine ⟨envs, e, fun e' he => ?_⟩
  obtain ⟨k, f, hf, q⟩ := r e' he
  obtain ⟨f', hf', q'⟩ := hs f hf
  exact ⟨k, f', hf', q' ▸ q⟩
/-- the frame's values may change -/
theorem AOk.vs {A : Around} {fs : List Frm} {d : Nat} {L : Addr} {cl ns vs vs'} (h : AOk A (⟨L, cl, ns, vs⟩ :: fs) d) : AOk A (⟨L, cl, ns, vs'⟩ :: fs) d :=
  h.pop fun f hf => by
    rcases List.mem_cons.mp hf with rfl | hf
    · exact ⟨_, List.mem_cons_self .., rfl⟩
    · exact ⟨f, List.mem_cons_of_mem _ hf, rfl⟩
theorem AOk.under {A : Around} {fs : List Frm} {d : Nat} {k : Code} (h : AOk A fs (d + 1)) (hw : k.weight ≤ 8) (hu : k.cUnits ≤ 200) (he : k.envs = []) (hg : k.guards = []) : AOk (A.under k) fs d := by
  refine ⟨by have := h.depth; simp only [Around.under]; omega, by have := h.units; simp only [Around.under]; omega, ?_, ?_, h.handled⟩
  · obtain ⟨envs, e, r⟩ := h.link
    exact ⟨envs, by simp [Around.under, he, pushEnvs, e], r⟩
  · simp [Around.under, hg, pushGuards, h.guards]
theorem AOk.in1 {A : Around} {fs : List Frm} {d : Nat} (h : AOk A fs (d + 1)) : AOk A.in1 fs d :=
  ⟨by have := h.depth; simp only [Around.in1]; omega, by have := h.units; simp only [Around.in1]; omega, h.link, h.guards, h.handled⟩
theorem AOk.lt {A : Around} {fs : List Frm} {d : Nat} (h : AOk A fs d) : A.units < cLine := by have := h.units; unfold cLine; omega
theorem St.pop {c : Cx} {f : Frm} {fs : List Frm} {σ g} {s : Shared} (h : St c ⟨f :: fs, σ, g⟩ s) : St c ⟨fs, σ, g⟩ s := by
  refine ⟨h.keep, fun f' hf => h.fr f' (List.mem_cons_of_mem _ hf), fun f' hf => h.nb f' (List.mem_cons_of_mem _ hf), ?_, fun x k cl e => ?_, h.os, h.gens⟩
  · have := h.nd; rw [List.flatMap_cons] at this; exact (List.nodup_append.mp this).2.1
  · obtain ⟨h1, h2, h3⟩ := h.own x k cl e
    exact ⟨h1, h2, fun q => h3 (by rw [List.flatMap_cons]; exact List.mem_append_right _ q)⟩

inductive Init : List Str → List AV → List Str → List (Option AV) → Prop
  | nil : Init [] [] [] []
  | rest {r rs vs} : Init [] [] rs vs → Init [] [] (r :: rs) (none :: vs)
  | cons {p ps u us rs vs} : Init ps us rs vs → Init (p :: ps) (u :: us) rs (some u :: vs)

theorem Init.none {us : List AV} {rs : List Str} {vs : List (Option AV)} : Init [] us rs vs → ∀ x, gv rs vs x = none := by
  intro h x
  generalize hp : ([] : List Str) = ps at h
  induction h with
  | nil => simp [gv]
  | rest _ ih => simp only [gv]; rw [ih rfl]; simp
  | cons _ _ => cases hp
theorem Init.gv {ps rs : List Str} {us : List AV} {vs : List (Option AV)} (h : Init ps us rs vs) : ∀ args : List Value, args.map er = us → ∀ x, ((ps.zip args).lookup x).map er = gv (ps ++ rs) vs x := by
  induction h with
  | nil => intro args e x; simp [Mine.Internal.gv]
  | @rest r rs vs h ih =>
    intro args e x
    have := (Init.rest h (r := r)).none x
    simp only [List.nil_append] at this ⊢
    rw [this]; simp
  | @cons p ps u us rs vs h ih =>
    intro args e x
    cases args with
    | nil => cases e
    | cons v args =>
      simp only [List.map_cons, List.cons.injEq] at e
      simp only [List.zip_cons_cons, List.cons_append, Mine.Internal.gv, List.lookup_cons]
      by_cases q : p = x
      · subst q; simp [e.1]
      · have : (x == p) = false := beq_eq_false_iff_ne.mpr (Ne.symm q)
        simp only [this, if_neg q]
        exact ih args e.2 x

theorem lookup_reverse {l : List (Str × Value)} (hd : (l.map (·.1)).Nodup) (x : Str) : l.reverse.lookup x = l.lookup x := by
  induction l with
  | nil => rfl
  | cons p l ih =>
    simp only [List.map_cons, List.nodup_cons] at hd
    obtain ⟨y, v⟩ := p
    rw [List.reverse_cons, List.lookup_append, ih hd.2]
    simp only [List.lookup_cons, List.lookup_nil]
    dsimp only at hd
    by_cases e : x == y
    · have : l.lookup x = none := by
        cases q : l.lookup x with
        | none => rfl
        | some v =>
          exfalso
          apply hd.1
          rw [← beq_iff_eq.mp e]
          clear ih hd e
          induction l with
          | nil => cases q
          | cons r l ih =>
            rw [List.lookup_cons] at q
            by_cases w : x == r.1
            · simp [beq_iff_eq.mp w]
            · simp only [w] at q
              exact List.mem_cons_of_mem _ (ih q)
      rw [this]; simp [e]
    · simp only [e]
      cases l.lookup x <;> simp

noncomputable def Pop (fs : List Frm) (P : AS → Prop) (a : AS) : Prop := ∃ f', a.fs = f' :: fs ∧ P ⟨fs, a.σ, a.gens⟩

theorem zip_fst {ps : List Str} {args : List Value} : ∀ p ∈ (ps.zip args).map (·.1), p ∈ ps := by
  intro p hp
  obtain ⟨q, hq, rfl⟩ := List.mem_map.mp hp
  exact (List.of_mem_zip hq).1
theorem zip_nodup {ps : List Str} {args : List Value} (h : ps.Nodup) : ((ps.zip args).map (·.1)).Nodup := by
  induction ps generalizing args with
  | nil => simp
  | cons p ps ih =>
    cases args with
    | nil => simp
    | cons v args =>
      simp only [List.zip_cons_cons, List.map_cons, List.nodup_cons] at h ⊢
      exact ⟨fun q => h.1 (zip_fst _ q), ih h.2⟩

@[reducible] noncomputable def retOf : Flow → Value
  | .ret v => v
  | _ => .none

section
variable {c : Cx} {A : Around} {E : Value → AS → Prop} {fs : List Frm} {σ : Addr → Option (Nat × Cell)} {g : Array GenState} {d : Nat}

/-- a def's call, its arguments bound by place -/
theorem Wk_call_fn {fd : FuncData} {f : Addr} {o : Obj} {body : List Stmt} {args vals : List Value} {us : List AV} {ps rs : List Str} {vs : List (Option AV)} {R : Result → AS → Prop}
    (ho : c.K.lookup f = some o) (hdata : o.data = .func fd) (hcd : codeIn c.K fd.code fd.qualname = true) (hbody : fd.body = .stmts body)
    (hbind : ∀ s : Shared, c.K.In s.heap → BindsTo s fd ⟨args, []⟩ (ps.zip vals)) (hu : vals.map er = us) (hi : Init ps us rs vs) (hnd : (ps ++ rs).Nodup)
    (hcell : ∀ x ∈ fd.scope.names, x.2 ≠ .cell) (hloc : ∀ x ∈ ps, fd.scope.names.lookup x = some .local) (hA : AOk A fs (d + 1))
    (h : ∀ L, σ L = none → AOk (A.deeper (callEnv fd L f)) (⟨L, [], ps ++ rs, vs⟩ :: fs) d →
      W c (A.deeper (callEnv fd L f)) (execs body (callEnv fd L f)) (fun fl a' => Pop fs (R (.ok (.ret (retOf fl)))) a')
        (fun e a' => W c (A.deeper (callEnv fd L f)) (leaving (callEnv fd L f) e) (fun _ a'' => Pop fs (R (.error e)) a'') (fun _ _ => False) a') ⟨⟨L, [], ps ++ rs, vs⟩ :: fs, σ, g⟩)
    (hco : fd.scope.isCoroutine = false := by rfl) (hgen : fd.scope.isGenerator = false := by rfl) (hk : fd.scope.kind = .function := by rfl) :
    Wk c A (.call (.ref f) ⟨args, []⟩) R ⟨fs, σ, g⟩ := by
  intro s hs
  obtain ⟨f1, f2, f3⟩ := hs.fresh
  have X : c.K.In s.heap := c.inK.keeps hs.keep
  refine codeAny_call_def hA.room (X _ _ ho) hdata (c.nolim.keeps hs.keep) (codeRec_of X hcd) hbody (hbind s X) hcell (fun x hx => hloc _ (List.of_mem_zip hx).1) (fun h₀ hns hk₀ => ?_) hco hgen hk
  have S : St c ⟨⟨s.heap.objs.size, [], ps ++ rs, vs⟩ :: fs, σ, g⟩ { s with heap := h₀, toks := s.toks + (ps.zip vals).length } := by
    refine ⟨fun b o e => hk₀ b o (hs.keep b o e), fun f' hf => ?_, fun f' hf => ?_, ?_, fun x k cl e => ?_, hs.os, hs.gens⟩
    · rcases List.mem_cons.mp hf with rfl | hf
      · refine ⟨_, hns, fun x _ => ?_, fun p hp => by cases hp⟩
        dsimp only
        rw [lookup_reverse (zip_nodup (List.nodup_append.mp hnd).1)]
        exact hi.gv vals hu x
      · exact (hs.fr f' hf).keeps fun b _ o e => hk₀ b o e
    · rcases List.mem_cons.mp hf with rfl | hf
      · intro x hx
        simp only [Frm.as, List.map_nil, List.mem_singleton] at hx
        rw [hx]; exact f3
      · exact hs.nb f' hf
    · rw [List.flatMap_cons]
      refine List.nodup_append.mpr ⟨by simp [Frm.as], hs.nd, fun x hx y hy e => ?_⟩
      simp only [Frm.as, List.map_nil, List.mem_singleton] at hx
      exact f2 (by rw [← hx, e]; exact hy)
    · obtain ⟨⟨o', ho', ok⟩, r1, r2⟩ := hs.own x k cl e
      refine ⟨⟨o', hk₀ _ _ ho', ok⟩, r1, fun q => ?_⟩
      rw [List.flatMap_cons] at q
      rcases List.mem_append.mp q with q | q
      · simp only [Frm.as, List.map_nil, List.mem_singleton] at q
        rw [q] at e; dsimp only at e f1; rw [f1] at e; cases e
      · exact r2 q
  refine wpAny_mono (h _ f1 (hA.deeper hk rfl) _ S) (fun fl s' ⟨a', h1, f', e1, q⟩ => ?_) (fun e s' ⟨a', h1, q⟩ => ?_)
  · obtain ⟨fs', σ', g'⟩ := a'
    dsimp only at e1 q; subst e1
    exact ⟨_, h1.pop, by cases fl <;> exact q⟩
  · refine wpAny_mono (q s' h1) (fun _ s'' ⟨a'', h2, f', e1, q⟩ => ?_) fun _ _ ⟨_, _, x⟩ => x.elim
    obtain ⟨fs', σ', g'⟩ := a''
    dsimp only at e1 q; subst e1
    exact ⟨_, h2.pop, q⟩

theorem W_call {f : Value} {args : List Value} {kw : List (Str × Value)} {a : AS} {Q : Value → AS → Prop}
    (h : Wk c A (.call f ⟨args, kw⟩) (fun r a' => match r with | .ok (.ret v) => Q v a' | .ok _ => False | .error e => E e a') a) : W c A (call f args kw) Q E a := fun s hs =>
  wpAny_call (codeAny_mono (h s hs) fun r s' ⟨a', h1, q⟩ => by
    rcases r with e | (_ | _ | _ | v) <;> first | exact ⟨a', h1, q⟩ | exact q.elim)

end
end Mine.Internal

namespace Mine.Internal
open PySem PySem.W PyProof.Rows PySem.Calls

theorem wpAny_keep' {M : Model} {A : Around} {α : Type} {vs : List Value} {m : Sem α} {Q : α → Shared → Prop} {E : Value → Shared → Prop} {s : Shared} (h : wpAny M A m Q E s) : wpAny M A (m.keep vs) Q E s :=
  fun Γ p hΓ => by rw [Sem.wp_keep]; exact h Γ p hΓ
theorem wpAny_operate' {M : Model} {A : Around} {vs : List Value} {m : Sem Value} {Q : Value → Shared → Prop} {E : Value → Shared → Prop} {s : Shared} (h : wpAny M A m Q E s) : wpAny M A (operate vs m) Q E s :=
  fun Γ p hΓ => by rw [Sem.wp_operate]; exact h Γ p hΓ
theorem wpAny_point' {M : Model} {A : Around} {Q : Unit → Shared → Prop} {E : Value → Shared → Prop} {s : Shared} (h : Q () s) : wpAny M A point Q E s :=
  fun Γ p hΓ => h

noncomputable def Kp (c : Cx) (f : Value) (a : AS) : Prop := ∀ s, St c a s → ∃ k, Looks (model c.prog c.w) s.heap (keeperOf f) k

section
variable {c : Cx} {A : Around} {E : Value → AS → Prop} {a : AS} {env : Env}

theorem Kp.builtin {id : String} : Kp c (.builtin id) a := fun s hs => ⟨_, Looks.of_pure rfl⟩
theorem Kp.type {id : String} : Kp c (.type id) a := fun s hs => ⟨_, Looks.of_pure rfl⟩
theorem W_callWith {f : Value} {first : List Value} {pos : Pos} {args : List (Bool × Sem Value)} {kws : List (Option Str × Sem Value)} {Q : Value → AS → Prop}
    (h : W c A (evalArgs f true args kws) (fun x a₁ => Kp c f a₁ ∧ W c A (call f (first ++ x.pos) x.kw) Q E a₁) E a) : W c A (callWith pos f first args kws) Q E a := by
  intro s hs
  unfold callWith
  refine wpAny_bind (wpAny_holding (wpAny_mono (h s hs) (fun x s₁ ⟨a₁, h1, kp, q⟩ => wpAny_bind (wpAny_standAt ?_)) fun _ _ x => x))
  obtain ⟨k, hk⟩ := kp s₁ h1
  have main := q s₁ h1
  refine wpAny_bind (hk.here ?_)
  have fin : ∀ (v : Value) (s₂ : Shared), (∃ a', St c a' s₂ ∧ Q v a') → wpAny (model c.prog c.w) A (do holding [v] point; pure v) (fun v s' => ∃ a', St c a' s' ∧ Q v a') (fun e s' => ∃ a', St c a' s' ∧ E e a') s₂ := fun v s₂ x =>
    wpAny_bind (wpAny_holding (wpAny_point' (wpAny_pure x)))
  have main' := wpAny_mono main fin (fun _ _ x => x)
  cases k <;> cases hst : (args.any (·.1) || kws.any (·.1.isNone)) <;> dsimp only <;> (try split) <;> first
    | exact wpAny_bind main'
    | exact wpAny_bind (wpAny_keep' main')
    | exact wpAny_bind (wpAny_operate' main')

theorem W_evalArgs {f : Value} {x : Sem Value} {rest : List (Bool × Sem Value)} {Q : Args → AS → Prop}
    (h : W c A (spliced ((false, x) :: rest)) (fun vs a₁ => Q ⟨vs, []⟩ a₁) E a) : W c A (evalArgs f true ((false, x) :: rest) []) Q E a := by
  intro s hs
  refine evalArgs_kw rfl (wpAny_mono (h s hs) (fun vs s₁ q => ?_) fun _ _ x => x)
  exact wpAny_evalAll_nil q
theorem W_evalArgs_nil {f : Value} {Q : Args → AS → Prop} (h : Q ⟨[], []⟩ a) : W c A (evalArgs f true [] []) Q E a := by
  intro s hs
  exact evalArgs_kw_nil rfl (wpAny_evalAll_nil ⟨a, hs, h⟩)
theorem W_spliced_nil {Q : List Value → AS → Prop} (h : Q [] a) : W c A (spliced []) Q E a := fun s hs => spliced_nil ⟨a, hs, h⟩
theorem W_spliced_cons {x : Sem Value} {rest : List (Bool × Sem Value)} {Q : List Value → AS → Prop}
    (h : W c A x (fun v a₁ => W c A (spliced rest) (fun vs a₂ => Q (v :: vs) a₂) E a₁) E a) : W c A (spliced ((false, x) :: rest)) Q E a := by
  show W c A (x >>= _) Q E a
  refine W_bind (W_mono h (fun v a₁ q => ?_) fun _ _ x => x)
  refine W_bind (W_pure ?_)
  exact W_bind (W_holding (W_mono q (fun vs a₂ q => W_pure q) fun _ _ x => x))

theorem W_Call_Name {x : Str} {np pos : Pos} {args : List Expr} {Q : Value → AS → Prop}
    (h : W c A (eval (.Name x np) env) (fun f a₁ => W c A (callWith pos f [] (backTo pos (starEach args env)) []) Q E a₁) E a) : W c A (eval (.Call (.Name x np) args [] pos) env) Q E a := fun s hs =>
  wpAny_Call_NameR (wpAny_mono (h s hs) (fun f s₁ ⟨a₁, h1, q⟩ => q s₁ h1) fun _ _ x => x)

theorem W_List {elts : List Expr} {pos : Pos} {Q : Value → AS → Prop}
    (h : W c A (spliced (backTo pos (starEach elts env))) (fun vs a₁ => W c A (newList vs) Q E a₁) E a) : W c A (eval (.List elts pos) env) Q E a := by
  show W c A (do standAt pos; newList (← spliced (backTo pos (starEach elts env)))) Q E a
  exact W_bind (W_standAt (W_bind h))
theorem W_Tuple {elts : List Expr} {k : Nat} {pos : Pos} {Q : Value → AS → Prop}
    (h : W c A (spliced (backTo pos (starEach elts env))) (fun vs a₁ => W c A (newTuple vs) Q E a₁) E a) : W c A (eval (.Tuple elts k pos) env) Q E a := by
  show W c A (do standAt pos; newTuple (← spliced (backTo pos (starEach elts env)))) Q E a
  exact W_bind (W_standAt (W_bind h))

theorem W_Const_int {i : Int} {k : Nat} {pos : Pos} {Q : Value → AS → Prop} (h : ∀ t, Q (.int i t) a) : W c A (eval (.Constant (.int i) k pos) env) Q E a := fun s hs =>
  wpAny_Constant_int ⟨a, hs.of_eq, h _⟩
theorem W_Const_str {x : Str} {k : Nat} {pos : Pos} {Q : Value → AS → Prop} (h : ∀ t, Q (.str x t) a) : W c A (eval (.Constant (.str x) k pos) env) Q E a := fun s hs =>
  wpAny_mkText ⟨a, hs.of_eq, h _⟩
theorem W_Const_none {k : Nat} {pos : Pos} {Q : Value → AS → Prop} (h : Q .none a) : W c A (eval (.Constant .none k pos) env) Q E a := fun s hs => wpAny_pure ⟨a, hs, h⟩
theorem W_Const_bool {b : Bool} {k : Nat} {pos : Pos} {Q : Value → AS → Prop} (h : Q (.bool b) a) : W c A (eval (.Constant (.bool b) k pos) env) Q E a := fun s hs => wpAny_pure ⟨a, hs, h⟩
end
end Mine.Internal

namespace Mine.Internal
open PySem PySem.W PyProof.Rows PySem.Calls

noncomputable def AV.plain : AV → Bool
  | .other _ => false
  | _ => true
theorem handed_plain {u : Value} {v : AV} (e : er u = v) (h : v.plain = true) : handedIn u = true := by
  subst e
  cases u <;> first | rfl | (simp [er, AV.plain] at h)

/-- the state under the library's frame and ledger: everything but one object and the frame's own table -/
theorem news_all {s : Shared} {L dx : Addr} {m : Str → Option Value} {od : Obj} (hn : s.heap.Ns L m) (hd : s.heap.get? dx = some od) (ne : dx ≠ L) :
    ∃ others : List (Addr × Obj), Fr {} L s.heap m ∧ News {} L s.heap (others ++ (dx, od) :: []) ∧ (∀ p ∈ others, p.1 ≠ dx) ∧ ∀ b o, b ≠ dx → b ≠ L → s.heap.get? b = some o → (b, o) ∈ others := by
  have emp : ∀ b, (({} : Heap).get? b) = none := fun b => by simp [Heap.get?]
  refine ⟨(List.range s.heap.objs.size).filterMap fun b => if b = dx ∨ b = L then none else (s.heap.get? b).map (b, ·), ⟨hn, (fun b o e => by rw [emp] at e; cases e), (by simp)⟩, fun p hp => ?_, fun p hp => ?_, fun b o h1 h2 h3 => ?_⟩
  · rcases List.mem_append.mp hp with hp | hp
    · obtain ⟨b, _, e⟩ := List.mem_filterMap.mp hp
      split at e
      · cases e
      · rename_i h
        obtain ⟨o, ho, rfl⟩ := Option.map_eq_some_iff.mp e
        simp only [not_or] at h
        exact ⟨ho, h.2, emp _⟩
    · obtain rfl := List.mem_singleton.mp hp
      exact ⟨hd, ne, emp _⟩
  · obtain ⟨b, _, e⟩ := List.mem_filterMap.mp hp
    split at e
    · cases e
    · rename_i h
      obtain ⟨o, ho, rfl⟩ := Option.map_eq_some_iff.mp e
      simp only [not_or] at h
      exact h.1
  · refine List.mem_filterMap.mpr ⟨b, List.mem_range.mpr (Heap.lt_size h3), ?_⟩
    rw [if_neg (by simp [h1, h2]), h3]; rfl

/-- another heap: all but x and the first frame's table is kept, that table reads as before -/
theorem St.put' {c : Cx} {L : Addr} {cl ns vs fs σ g} {s : Shared} {h' : Heap} {m : Str → Option Value} {x : Addr} {p : Nat × Cell} {k' : Nat} {cl' : Cell} {o' : Obj} (h : St c ⟨⟨L, cl, ns, vs⟩ :: fs, σ, g⟩ s) (hx : σ x = some p)
    (hm : ∀ m', s.heap.Ns L m' → m' = m) (hm' : h'.Ns L m)
    (hs : ∀ b o, b ≠ x → b ≠ L → s.heap.get? b = some o → h'.get? b = some o) (ho : h'.get? x = some o') (hk : cl'.ok c o') :
    St c ⟨⟨L, cl, ns, vs⟩ :: fs, upd σ x (some (k', cl')), g⟩ { s with heap := h' } := by
  have hxo := h.own x p.1 p.2 hx
  have hLb := h.nb _ (List.mem_cons_self ..) L (by simp [Frm.as])
  have nL : ∀ b ∈ cl.map (·.2), b ≠ L := fun b hb e => by
    have := h.nd; rw [List.flatMap_cons] at this
    exact (List.nodup_cons.mp (List.nodup_append.mp this).1).1 (e ▸ hb)
  refine ⟨fun b o e => hs b o (fun q => by rw [q, hxo.2.1] at e; cases e) (fun q => by rw [q, hLb] at e; cases e) (h.keep b o e), fun f hf => ?_, h.nb, h.nd, fun y k cl e => ?_, h.os, h.gens⟩
  · rcases List.mem_cons.mp hf with rfl | hf
    · obtain ⟨m0, hn0, h2, h3⟩ := h.fr _ (List.mem_cons_self ..)
      have e0 := hm m0 hn0
      subst e0
      refine ⟨_, hm', h2, fun p hp => ?_⟩
      obtain ⟨ov, ⟨oc, hoc, hod⟩, eo⟩ := h3 p hp
      refine ⟨ov, ⟨oc, hs _ _ (fun q => ?_) (nL _ (List.mem_map_of_mem hp)) hoc, hod⟩, eo⟩
      exact hxo.2.2 (by rw [List.flatMap_cons]; exact List.mem_append_left _ (List.mem_cons_of_mem _ (q ▸ List.mem_map_of_mem hp)))
    · refine (h.fr f (List.mem_cons_of_mem _ hf)).keeps fun b hb o e => hs b o (fun q => ?_) (mem_as_ne h.nd (by simp [Frm.as]) hf hb) e
      exact hxo.2.2 (List.mem_flatMap.mpr ⟨f, List.mem_cons_of_mem _ hf, q ▸ hb⟩)
  · by_cases q : y = x
    · subst q
      simp only [upd_self, Option.some.injEq, Prod.mk.injEq] at e
      obtain ⟨rfl, rfl⟩ := e
      exact ⟨⟨o', ho, hk⟩, hxo.2⟩
    · simp only [upd_ne q] at e
      obtain ⟨⟨o, ho1, ok⟩, r1, r2⟩ := h.own y k cl e
      refine ⟨⟨o, hs y o q (fun z => r2 ?_) ho1, ok⟩, r1, r2⟩
      rw [List.flatMap_cons]; exact List.mem_append_left _ (by simp [Frm.as, z])

theorem ns_unique {h : Heap} {L : Addr} {m m' : Str → Option Value} (a : h.Ns L m) (b : h.Ns L m') : m' = m := by
  obtain ⟨o, es, ep, ho, hd, _, hf⟩ := a
  obtain ⟨o', es', ep', ho', hd', _, hf'⟩ := b
  rw [ho] at ho'; cases ho'
  rw [hd] at hd'; cases hd'
  funext x; rw [← hf, ← hf']

inductive PutAt : List (Str × AV) → Str → AV → List (Str × AV) → Prop
  | here {x w v l} : PutAt ((x, w) :: l) x v ((x, v) :: l)
  | there {y w x v l l'} : PutAt l x v l' → PutAt ((y, w) :: l) x v ((y, w) :: l')
  | new {x v} : PutAt [] x v [(x, v)]

theorem getL_of {es : List DictEntry} {kvs : List (Str × AV)} (h : F2 (fun (e : DictEntry) (p : Str × AV) => (∃ t, e.key = .str p.1 t) ∧ er e.val = p.2) es kvs) (hd : (kvs.map (·.1)).Nodup) {name : Str} {v : AV} (hv : (name, v) ∈ kvs) :
    ∃ u, getL name es = some (some u) ∧ er u = v := by
  induction h with
  | nil => cases hv
  | @cons e p es kvs hr _ ih =>
    obtain ⟨⟨t, ek⟩, ev⟩ := hr
    simp only [List.map_cons, List.nodup_cons] at hd
    rcases List.mem_cons.mp hv with q | q
    · subst q
      refine ⟨e.val, ?_, ev⟩
      unfold getL
      rw [List.find?_cons, ek]
      simp [Value.isStr]
    · obtain ⟨u, hu, eu⟩ := ih hd.2 q
      refine ⟨u, ?_, eu⟩
      have hne : p.1 ≠ name := fun z => hd.1 (z ▸ List.mem_map_of_mem q)
      unfold getL at hu ⊢
      rw [List.find?_cons, ek]
      have : (Value.str p.1 t).isStr name = false := by simp [Value.isStr, hne]
      rw [this]
      revert hu
      cases q' : es.find? (fun x => x.key.isStr name) with
      | some e' => exact id
      | none => intro hu; by_cases z : es.any (·.refKey) = true <;> simp [z] at hu
theorem noRef {es : List DictEntry} {kvs : List (Str × AV)} (h : F2 (fun (e : DictEntry) (p : Str × AV) => (∃ t, e.key = .str p.1 t) ∧ er e.val = p.2) es kvs) : es.any (·.refKey) = false := by
  induction h with
  | nil => rfl
  | @cons e p es kvs hr _ ih =>
    obtain ⟨⟨t, ek⟩, ev⟩ := hr
    rw [List.any_cons, ih]
    obtain ⟨eh, ekk, evv⟩ := e
    dsimp only at ek; subst ek; rfl
theorem getL_none {es : List DictEntry} {kvs : List (Str × AV)} (h : F2 (fun (e : DictEntry) (p : Str × AV) => (∃ t, e.key = .str p.1 t) ∧ er e.val = p.2) es kvs) {name : Str} (hv : name ∉ kvs.map (·.1)) :
    getL name es = some none := by
  have h1 : es.find? (fun x => x.key.isStr name) = none ∧ es.any (·.refKey) = false := by
    induction h with
    | nil => exact ⟨rfl, rfl⟩
    | @cons e p es kvs hr _ ih =>
      obtain ⟨⟨t, ek⟩, ev⟩ := hr
      simp only [List.map_cons, List.mem_cons, not_or] at hv
      have : (Value.str p.1 t).isStr name = false := by simp [Value.isStr, Ne.symm hv.1]
      obtain ⟨i1, i2⟩ := ih hv.2
      refine ⟨by rw [List.find?_cons, ek, this]; exact i1, ?_⟩
      rw [List.any_cons, i2]
      obtain ⟨eh, ekk, evv⟩ := e
      dsimp only at ek; subst ek; rfl
  unfold getL; rw [h1.1, h1.2]; rfl
theorem putL_of {w : World} {es : List DictEntry} {kvs kvs' : List (Str × AV)} (h : F2 (fun (e : DictEntry) (p : Str × AV) => (∃ t, e.key = .str p.1 t) ∧ er e.val = p.2) es kvs) {name : Str} {u : Value} {hsh : Int} {t : Tok}
    (hp : PutAt kvs name (er u) kvs') (hd : (kvs'.map (·.1)).Nodup) : F2 (fun (e : DictEntry) (p : Str × AV) => (∃ t, e.key = .str p.1 t) ∧ er e.val = p.2) (putL name hsh (.str name t) u es) kvs' := by
  generalize hv : er u = v at hp
  induction hp generalizing es with
  | @here x w v l =>
    cases h with
    | @cons e p es kvs hr hl =>
      obtain ⟨⟨t', ek⟩, ev⟩ := hr
      unfold putL
      rw [ek]; simp only [Value.isStr, beq_self_eq_true, if_true]
      exact .cons ⟨⟨t', rfl⟩, hv⟩ hl
  | @there y w x v l l' hq ih =>
    cases h with
    | @cons e p es kvs hr hl =>
      obtain ⟨⟨t', ek⟩, ev⟩ := hr
      simp only [List.map_cons, List.nodup_cons] at hd
      have hx : x ∈ l'.map (·.1) := by
        clear ih hd hl hv ev
        induction hq with
        | here => simp
        | there _ ih => exact List.mem_cons_of_mem _ ih
        | new => simp
      have hne : y ≠ x := fun z => hd.1 (z ▸ hx)
      unfold putL
      rw [ek]; simp only [Value.isStr, beq_iff_eq, if_neg hne]
      exact .cons ⟨⟨t', ek⟩, ev⟩ (ih hl hd.2 hv)
  | new =>
    cases h
    exact .cons ⟨⟨t, rfl⟩, hv⟩ .nil
theorem F2.length {α β : Type} {R : α → β → Prop} {l : List α} {m : List β} (h : F2 R l m) : l.length = m.length := by
  induction h with
  | nil => rfl
  | cons _ _ ih => simp [ih]

structure AttrOk (K : Frag) (C : Addr) (name : Str) : Prop where
  get : plainGet K C name = true
  dict : hasDictIn K C = true
  find : ∃ attr, findIn K (.ref C) name = some attr ∧ noGet K attr = true
  set : findIn K (.ref C) "__setattr__" = some (some (.builtin "object.__setattr__"))
  over : plainOver K C = true
  taker : takerIn K C name = some none

section
variable {c : Cx} {A : Around} {E : Value → AS → Prop} {a : AS} {L : Addr} {cl : List (Str × Addr)} {ns : List Str} {vs : List (Option AV)} {fs : List Frm} {σ : Addr → Option (Nat × Cell)} {g : Array GenState}

theorem inst_at {s : Shared} {x C dx : Addr} {sl : List (Option AV)} {k k' : Nat} {kvs : List (Str × AV)} (hs : St c a s) (hx : a.σ x = some (k, .inst C dx sl)) (hd : a.σ dx = some (k', .attrs kvs)) :
    ∃ ox es n, InstAt s.heap x ox C (some (dictOf es n)) ∧ ox.dict = some dx ∧ ox.data = .plain ∧ ox.slots.toList.map (·.map er) = sl ∧
      F2 (fun (e : DictEntry) (p : Str × AV) => (∃ t, e.key = .str p.1 t) ∧ er e.val = p.2) es kvs ∧ s.heap.get? dx = some (dictOf es n) := by
  obtain ⟨⟨ox, ho, hc, hdd, hpl, hsl⟩, _⟩ := hs.own x k _ hx
  obtain ⟨⟨od, hod, es, n, rfl, hf⟩, _⟩ := hs.own dx k' _ hd
  refine ⟨ox, es, n, ⟨ho, hc, ?_, by rw [hdd]; exact hod⟩, hdd, hpl, hsl, hf, hod⟩
  unfold notCls; rw [hpl]

theorem W_getAttr {x C dx : Addr} {sl : List (Option AV)} {k k' : Nat} {kvs : List (Str × AV)} {name : Str} {v : AV} {expr : Bool} {Q : Value → AS → Prop} (hx : a.σ x = some (k, .inst C dx sl)) (hd : a.σ dx = some (k', .attrs kvs))
    (hc : AttrOk c.K C name) (hnd : (kvs.map (·.1)).Nodup) (hv : (name, v) ∈ kvs) (h : All v (fun u => Q u a)) (hp : v.plain = true := by rfl) : W c A (getAttr (.ref x) name expr) Q E a := by
  intro s hs
  obtain ⟨ox, es, n, I, _, _, _, hf, _⟩ := inst_at hs hx hd
  obtain ⟨u, hu, eu⟩ := getL_of hf hnd hv
  obtain ⟨attr, f1, f2⟩ := hc.find
  exact get_value (c.inK.keeps hs.keep) I (plainGet_of hc.get).1 (findObj_own hc.dict f1 f2 (by rw [lookIn_dict]; exact hu)) (handed_plain eu hp) ⟨a, hs.of_eq, h.at eu⟩

theorem W_getMethod {x C dx f : Addr} {sl : List (Option AV)} {k k' : Nat} {kvs : List (Str × AV)} {name : Str} {pl : Sem Bool} {Q : Value × List Value → AS → Prop} (hx : a.σ x = some (k, .inst C dx sl)) (hd : a.σ dx = some (k', .attrs kvs))
    (hg : plainGet c.K C name = true) (hf : findIn c.K (.ref C) name = some (some (.ref f))) (ht : isFn c.K (.ref f) = true) (hv : name ∉ kvs.map (·.1)) (h : Q (.ref f, [.ref x]) a) : W c A (getMethod (.ref x) name pl) Q E a := by
  intro s hs
  obtain ⟨ox, es, n, I, _, _, _, hf', _⟩ := inst_at hs hx hd
  exact method_fn (c.inK.keeps hs.keep) I (plainGet_of hg).1 (plainGet_of hg).2 hf (beq_iff_eq.mp ht) (by show (lookIn name (dictOf es n)).map _ = _; rw [lookIn_dict, getL_none hf' hv]; rfl) ⟨a, hs, h⟩

theorem W_setAttr {x C dx : Addr} {sl : List (Option AV)} {k k' : Nat} {kvs kvs' : List (Str × AV)} {name : Str} {u : Value} {Q : Unit → AS → Prop} (hx : σ x = some (k, .inst C dx sl)) (hd : σ dx = some (k', .attrs kvs))
    (hc : AttrOk c.K C name) (hpt : PutAt kvs name (er u) kvs') (hnd : (kvs'.map (·.1)).Nodup) (hz : kvs'.length ≤ 1000)
    (h : Q () ⟨⟨L, cl, ns, vs⟩ :: fs, upd σ dx (some (k', .attrs kvs')), g⟩) : W c A (setAttr (.ref x) name u) Q E ⟨⟨L, cl, ns, vs⟩ :: fs, σ, g⟩ := by
  intro s hs
  obtain ⟨ox, es, n, I, hdd, _, _, hf, hod⟩ := inst_at hs hx hd
  obtain ⟨m, hn, _, _⟩ := hs.fr _ (List.mem_cons_self ..)
  have ne : dx ≠ L := fun e => (hs.own dx k' _ hd).2.2 (by rw [List.flatMap_cons]; exact List.mem_append_left _ (by simp [Frm.as, e]))
  obtain ⟨others, F, N, h1, h2⟩ := news_all hn hod ne
  have hnew := putL_of (w := c.w) hf (hsh := PyData.keyHash c.w.params name) (t := s.toks + 1) hpt hnd
  have hl : (lookIn name (dictOf es n)).isSome = true := by
    rw [lookIn_dict]
    have := noRef hf
    unfold getL; split <;> simp_all
  refine set_plain (c.inK.keeps hs.keep) I hc.set (osa_dict (s := { s with toks := s.toks + 1 }) (post := []) F N (c.inK.keeps hs.keep) I hdd hc.over hc.taker hc.dict hl h1 (by simp)
    (by rw [putName_dict]) rfl (by rw [F2.length hnew]; exact hz) fun h' F' N' => ?_)
  refine ⟨_, St.of_eq (hs.put' (h' := h') (m := m) (cl' := .attrs kvs') hd (fun m' e => ns_unique hn e) F'.ns (fun b o q1 q2 q3 => (N' (b, o) (List.mem_append_left _ (h2 b o q1 q2 q3))).1) (N' _ (List.mem_append_right _ (List.mem_singleton.mpr rfl))).1 ⟨_, _, rfl, hnew⟩), h⟩
end
end Mine.Internal

namespace Mine.Internal
open PySem PySem.W PyProof.Rows PySem.Calls

noncomputable def padSet : List (Option AV) → Nat → AV → List (Option AV)
  | [], 0, v => [some v]
  | [], i + 1, v => none :: padSet [] i v
  | _ :: l, 0, v => some v :: l
  | x :: l, i + 1, v => x :: padSet l i v

theorem padSet_eq : ∀ (us : List (Option Value)) (i : Nat) (u : Value),
    ((us ++ List.replicate (i + 1 - us.length) (none : Option Value)).set i (some u)).map (fun o : Option Value => o.map er) = padSet (us.map (fun o : Option Value => o.map er)) i (er u)
  | [], 0, u => by simp [padSet]
  | [], i + 1, u => by
    have := padSet_eq [] i u
    simp only [List.nil_append, List.length_nil, Nat.sub_zero, List.map_nil] at this ⊢
    rw [List.replicate_succ, List.set_cons_succ, List.map_cons, this]
    simp [padSet]
  | x :: us, 0, u => by simp [padSet]
  | x :: us, i + 1, u => by
    have := padSet_eq us i u
    simp only [List.cons_append, List.length_cons, List.set_cons_succ, List.map_cons, padSet]
    rw [show i + 1 + 1 - (us.length + 1) = i + 1 - us.length by omega, this]

structure SlotOk (K : Frag) (C : Addr) (name : Str) (i : Nat) : Prop where
  get : plainGet K C name = true
  cls : isClsIn K C = true
  set : findIn K (.ref C) "__setattr__" = some (some (.builtin "object.__setattr__"))
  over : plainOver K C = true
  ex : ∃ p, findIn K (.ref C) name = some (some (.ref p)) ∧ specialIn K (.ref p) "__get__" = some (some (.builtin "member_descriptor.__get__")) ∧ takesIn K (.ref p) = some true ∧ slotIn K p C = some i ∧
    takerIn K C name = some (some (.ref p)) ∧ typeIn K (.ref p) = some (.type "member_descriptor")

section
variable {c : Cx} {A : Around} {E : Value → AS → Prop} {a : AS} {L : Addr} {cl : List (Str × Addr)} {ns : List Str} {vs : List (Option AV)} {fs : List Frm} {σ : Addr → Option (Nat × Cell)} {g : Array GenState}

theorem W_getSlot {x C dx : Addr} {sl : List (Option AV)} {k k' : Nat} {kvs : List (Str × AV)} {name : Str} {v : AV} {i : Nat} {expr : Bool} {Q : Value → AS → Prop} (hx : a.σ x = some (k, .inst C dx sl)) (hd : a.σ dx = some (k', .attrs kvs))
    (hc : SlotOk c.K C name i) (hv : sl[i]? = some (some v)) (h : All v (fun u => Q u a)) (hp : v.plain = true := by rfl) : W c A (getAttr (.ref x) name expr) Q E a := by
  intro s hs
  obtain ⟨ox, es, n, I, _, _, hsl, hf, _⟩ := inst_at hs hx hd
  have X := c.inK.keeps hs.keep
  obtain ⟨p, f1, f2, f3, f4, _, _⟩ := hc.ex
  have : ∃ u, (ox.slots[i]?).join = some u ∧ er u = v := by
    rw [← hsl, List.getElem?_map, Array.getElem?_toList] at hv
    cases q : ox.slots[i]? with
    | none => rw [q] at hv; cases hv
    | some o =>
      rw [q] at hv
      cases o with
      | none => cases hv
      | some u => exact ⟨u, rfl, Option.some.inj (Option.some.inj hv)⟩
  obtain ⟨u, hu, eu⟩ := this
  exact get_bind X I (plainGet_of hc.get).1 (findObj_data hc.cls f1 f2 f3) (plainGet_of hc.get).2 (wpAny_call (slot_get (s := { s with toks := s.toks + 1 }) X I f4 hu (handed_on (handed_plain eu hp) ⟨a, hs.of_eq, h.at eu⟩)))

theorem W_setSlot {x C dx : Addr} {sl : List (Option AV)} {k k' : Nat} {kvs : List (Str × AV)} {name : Str} {u : Value} {i : Nat} {Q : Unit → AS → Prop} (hx : σ x = some (k, .inst C dx sl)) (hd : σ dx = some (k', .attrs kvs))
    (hc : SlotOk c.K C name i) (hz : i < 1000)
    (h : Q () ⟨⟨L, cl, ns, vs⟩ :: fs, upd σ x (some (k, .inst C dx (padSet sl i (er u)))), g⟩) : W c A (setAttr (.ref x) name u) Q E ⟨⟨L, cl, ns, vs⟩ :: fs, σ, g⟩ := by
  intro s hs
  obtain ⟨ox, es, n, I, hdd, hpl, hsl, hf, hod⟩ := inst_at hs hx hd
  have X := c.inK.keeps hs.keep
  obtain ⟨p, _, _, _, f4, f5, f6⟩ := hc.ex
  obtain ⟨m, hn, _, _⟩ := hs.fr _ (List.mem_cons_self ..)
  have ne : x ≠ L := fun e => (hs.own x k _ hx).2.2 (by rw [List.flatMap_cons]; exact List.mem_append_left _ (by simp [Frm.as, e]))
  obtain ⟨others, F, N, h1, h2⟩ := news_all hn I.at_ ne
  refine set_plain X I hc.set (osa_descr (s := { s with toks := s.toks + 1 }) KF.slot_mset X I hc.over f5 f6 (slot_set (s := { s with toks := s.toks + 1 }) (post := []) F N X I f4 hz h1 (by simp) rfl ?_ fun h' F' N' => ?_))
  · obtain ⟨oc, od, oda, osl⟩ := ox
    dsimp only at hpl; subst hpl; rfl
  · refine ⟨_, St.of_eq (hs.put' (h' := h') (m := m) (cl' := .inst C dx (padSet sl i (er u))) hx (fun m' e => ns_unique hn e) F'.ns (fun b o q1 q2 q3 => (N' (b, o) (List.mem_append_left _ (h2 b o q1 q2 q3))).1) (N' _ (List.mem_append_right _ (List.mem_singleton.mpr rfl))).1 ⟨I.cls, hdd, hpl, ?_⟩), h⟩
    rw [← hsl, ← padSet_eq]
    simp

theorem W_Attribute {value : Expr} {attr : Str} {pos : Pos} {env : Env} {Q : Value → AS → Prop} (h : W c A (eval value env) (fun o a₁ => W c A (getAttr o attr true) Q E a₁) E a)
    (hb : attributeBase value attr env (eval value env) = eval value env := by with_unfolding_all rfl) : W c A (eval (.Attribute value attr pos) env) Q E a := by
  show W c A (attributeBase value attr env (eval value env) >>= _) Q E a
  rw [hb]
  refine W_bind (W_mono h (fun o a₁ q => W_bind (W_standAt (W_bind (W_holding (W_mono q (fun r a₂ q => ?_) fun _ _ x => x))))) fun _ _ x => x)
  exact W_bind (fun s hs => wpAny_letTemporaryGo ⟨_, hs, W_pure q⟩)

theorem W_Assign_Attr {o : Expr} {attr : Str} {p : Pos} {value : Expr} {pos : Pos} {env : Env} {Q : Flow → AS → Prop}
    (h : W c A (eval value env) (fun v a₁ => W c A (eval o env) (fun ov a₂ => W c A (setAttr ov attr v) (fun _ => Q .next) E a₂) E a₁) E a)
    (hs : exec (.Assign [.Attribute o attr p] value pos) env = (do standAt pos; let v ← eval value env; assign (.Attribute o attr p) env v; pure .next) := by with_unfolding_all rfl) : W c A (exec (.Assign [.Attribute o attr p] value pos) env) Q E a := by
  rw [hs]
  refine W_bind (W_standAt (W_bind (W_mono h (fun v a₁ q => W_bind ?_) fun _ _ x => x)))
  show W c A (do let ov ← holding [v] (eval o env); standAt p.atName; holding [v, ov] (setAttr ov attr v); release [v, ov] []) _ E a₁
  refine W_bind (W_holding (W_mono q (fun ov a₂ q => W_bind (W_standAt (W_bind (W_holding (W_mono q (fun _ a₃ q => ?_) fun _ _ x => x))))) fun _ _ x => x))
  intro s hs Γ p' hΓ
  rw [Sem.wp_release]
  exact ⟨a₃, hs, W_pure q⟩
end
end Mine.Internal

namespace Mine.Internal
open PySem PySem.W PyProof.Rows PySem.Calls PySem.F PySem.AutoSeq1 PySem.MeetsSeq PySem.MeetsSeq3

theorem sizeLine_big {n : Nat} (h : n ≤ 1000000) : n ≤ sizeLine := by rw [sizeLine_eq]; omega
theorem fits_big {n : Nat} (h : n ≤ 1000000) : (n : Int) < 2 ^ 63 := by omega

section
variable {c : Cx} {A : Around} {E : Value → AS → Prop} {a : AS} {fs : List Frm} {σ : Addr → Option (Nat × Cell)} {g : Array GenState} {k : Nat} {D : Addr} {vs : List AV}

theorem own_list {s : Shared} (hs : St c a s) (h : a.σ D = some (k, .list vs)) : ∃ us n, s.heap.get? D = some (listOf us n) ∧ us.toList.map er = vs := by
  obtain ⟨⟨o, ho, us, n, rfl, e⟩, _⟩ := hs.own D k _ h
  exact ⟨us, n, ho, e⟩
theorem own_tuple {s : Shared} (hs : St c a s) (h : a.σ D = some (k, .tuple vs)) : ∃ us n, s.heap.get? D = some { cls := .type "tuple", data := .seq us n } ∧ us.toList.map er = vs := by
  obtain ⟨⟨o, ho, us, n, rfl, e⟩, _⟩ := hs.own D k _ h
  exact ⟨us, n, ho, e⟩
theorem isList_of {h : Heap} {us : Array Value} {n : Nat} (ho : h.get? D = some (listOf us n)) : h.IsList D us := ⟨_, ho, rfl, n, rfl⟩
theorem size_of {us : Array Value} (e : us.toList.map er = vs) : us.size = vs.length := by rw [← e]; simp
theorem get_of {us : Array Value} (e : us.toList.map er = vs) {i : Nat} {v : AV} (h : vs[i]? = some v) : ∃ u, us[i]? = some u ∧ er u = v := by
  rw [← e, List.getElem?_map, Array.getElem?_toList] at h
  exact map_some_of h

/-! new objects -/
theorem W_newList {us : List Value} {Q : Value → AS → Prop} (k : Nat) (hz : us.length ≤ 1000000)
    (h : ∀ l, σ l = none → ∀ σ', σ' = upd σ l (some (k, .list (us.map er))) → Q (.ref l) ⟨fs, σ', g⟩) : W c A (newList us) Q E ⟨fs, σ, g⟩ := fun s hs =>
  wpAny_newObj_type ⟨_, hs.alloc (k := k) (cl := .list (us.map er)) ⟨_, _, rfl, by simp⟩ rfl, h _ hs.fresh.1 _ rfl⟩ (by show us.toArray.size ≤ sizeLine; rw [List.size_toArray]; exact sizeLine_big hz)
theorem W_newTuple {us : List Value} {Q : Value → AS → Prop} (k : Nat) (hz : us.length ≤ 1000000)
    (h : ∀ l, σ l = none → ∀ σ', σ' = upd σ l (some (k, .tuple (us.map er))) → Q (.ref l) ⟨fs, σ', g⟩) : W c A (newTuple us) Q E ⟨fs, σ, g⟩ := fun s hs =>
  wpAny_newObj_type ⟨_, hs.alloc (k := k) (cl := .tuple (us.map er)) ⟨_, _, rfl, by simp⟩ rfl, h _ hs.fresh.1 _ rfl⟩ (by show us.toArray.size ≤ sizeLine; rw [List.size_toArray]; exact sizeLine_big hz)

theorem upd_keeps {s : Shared} {f : Obj → Obj} : ∀ b o, b ≠ D → s.heap.get? b = some o → (s.heap.update D f).get? b = some o := fun b o q e => ((Heap.SameBut.update s.heap D f).2 b q).trans e

/-! methods of a list -/
theorem W_meth_list {name : Str} {id : String} {pl : Sem Bool} {Q : Value × List Value → AS → Prop} (slot : Slot "list" name id) (hty : typeOf (.builtin id) = pure (.type "method_descriptor"))
    (hl : a.σ D = some (k, .list vs)) (h : Q (.builtin id, [.ref D]) a) : W c A (getMethod (.ref D) name pl) Q E a := fun s hs => by
  obtain ⟨us, n, ho, e⟩ := own_list hs hl
  exact getMethod_list_of slot hty (isList_of ho) ⟨_, ho, rfl⟩ ⟨a, hs, h⟩

theorem W_append {u : Value} {Q : Value → AS → Prop} (hl : σ D = some (k, .list vs)) (hz : vs.length ≤ 1000000)
    (h : ∀ σ', σ' = upd σ D (some (k, .list (vs ++ [er u]))) → Q .none ⟨fs, σ', g⟩) : W c A (call (.builtin "list.append") [.ref D, u]) Q E ⟨fs, σ, g⟩ := fun s hs => by
  obtain ⟨us, n, ho, e⟩ := own_list hs hl
  refine append_at ho (fun h' hsb ho' => ⟨_, hs.put hl (fun b o q z => (hsb.2 b q).trans z) ho' (cl' := .list (vs ++ [er u])) ⟨_, _, rfl, ?_⟩, h _ rfl⟩) (by rw [size_of e]; exact sizeLine_big hz)
  rw [← e]; simp

theorem W_clear {Q : Value → AS → Prop} (hl : σ D = some (k, .list vs)) (hz : vs.length ≤ 1000000)
    (h : ∀ σ', σ' = upd σ D (some (k, .list [])) → Q .none ⟨fs, σ', g⟩) : W c A (call (.builtin "list.clear") [.ref D]) Q E ⟨fs, σ, g⟩ := fun s hs => by
  obtain ⟨us, n, ho, e⟩ := own_list hs hl
  refine call_meets slot_list_clear ⟨_, ho, rfl⟩ entry_list_clear (args_list_clear_1 _) (list_clear_list_0 D us n (by rw [size_of e]; exact sizeLine_big hz)) ⟨ho, ?_⟩
  exact ⟨_, St.of_eq (hs.put hl upd_keeps (Heap.get?_update_self _ ho rfl) (cl' := .list []) ⟨_, _, rfl, rfl⟩), h _ rfl⟩

theorem W_pop {ws : List AV} {v : AV} {Q : Value → AS → Prop} (hl : σ D = some (k, .list (ws ++ [v]))) (hz : ws.length + 1 ≤ 1000000)
    (h : ∀ σ', σ' = upd σ D (some (k, .list ws)) → All v (fun u => Q u ⟨fs, σ', g⟩)) : W c A (call (.builtin "list.pop") [.ref D]) Q E ⟨fs, σ, g⟩ := fun s hs => by
  obtain ⟨us, n, ho, e⟩ := own_list hs hl
  have hsz := size_of e
  simp only [List.length_append, List.length_singleton] at hsz
  obtain ⟨u, hu, eu⟩ := get_of e (i := ws.length) (v := v) (by simp)
  refine call_meets slot_list_pop ⟨_, ho, rfl⟩ entry_list_pop (args_list_pop_1 _) (list_pop_last D us n u (by rw [hsz]; exact hu) (by rw [hsz]; exact sizeLine_big hz)) ⟨ho, ?_⟩
  refine ⟨_, St.of_eq (hs.put hl upd_keeps (Heap.get?_update_self _ ho rfl) (cl' := .list ws) ⟨_, _, rfl, ?_⟩), (h _ rfl).at eu⟩
  rw [hsz]
  have : ws.length < us.size := by omega
  simp only [Nat.add_sub_cancel, Array.eraseIdxIfInBounds, this, dite_true, Array.toList_eraseIdx]
  obtain ⟨l1, l2, q1, q2, q3⟩ := List.map_eq_append_iff.mp e
  have hl1 : ws.length = l1.length := by rw [← q2]; simp
  obtain ⟨u', r, rfl, q4, q5⟩ := List.map_eq_cons_iff.mp q3
  rw [List.map_eq_nil_iff] at q5; subst q5
  rw [q1, hl1, List.eraseIdx_append_of_length_le (Nat.le_refl _)]
  simp [q2]

/-! reads -/
theorem W_len_list {Q : Value → AS → Prop} (hl : a.σ D = some (k, .list vs)) (hz : vs.length ≤ 1000000) (h : ∀ t, Q (.int vs.length t) a) : W c A (call (.builtin "len") [.ref D]) Q E a := fun s hs => by
  obtain ⟨us, n, ho, e⟩ := own_list hs hl
  have hsz := size_of e
  refine call_len_list (isList_of ho) (by rw [hsz]; exact fits_big hz) ⟨a, hs.of_eq, ?_⟩
  rw [hsz]; exact h _

theorem W_item_list {i : Int} {t : Tok} {v : AV} {Q : Value → AS → Prop} (hl : a.σ D = some (k, .list vs)) (h0 : 0 ≤ i) (hv : vs[i.toNat]? = some v) (hz : vs.length ≤ 1000000) (h : All v (fun u => Q u a)) : W c A (getItem (.ref D) (.int i t)) Q E a := fun s hs => by
  obtain ⟨us, n, ho, e⟩ := own_list hs hl
  obtain ⟨u, hu, eu⟩ := get_of e hv
  have : i.toNat < vs.length := (List.getElem?_eq_some_iff.mp hv).1
  exact wpAny_getItem_list (isList_of ho) h0 (by omega) hu ⟨a, hs, h.at eu⟩
theorem W_last_list {ws : List AV} {t : Tok} {v : AV} {Q : Value → AS → Prop} (hl : a.σ D = some (k, .list (ws ++ [v]))) (hz : ws.length + 1 ≤ 1000000) (h : All v (fun u => Q u a)) : W c A (getItem (.ref D) (.int (-1) t)) Q E a := fun s hs => by
  obtain ⟨us, n, ho, e⟩ := own_list hs hl
  have hsz := size_of e
  simp only [List.length_append, List.length_singleton] at hsz
  obtain ⟨u, hu, eu⟩ := get_of e (i := ws.length) (v := v) (by simp)
  refine wpAny_getItem_list_neg (isList_of ho) (by omega) (by omega) (by omega) ?_ ⟨a, hs, h.at eu⟩
  rw [hsz, show ((-1 : Int) + ((ws.length + 1 : Nat) : Int)).toNat = ws.length by omega]; exact hu

theorem W_truthy_list {Q : Bool → AS → Prop} (hl : a.σ D = some (k, .list vs)) (hz : vs.length ≤ 1000000) (h : Q (!vs.isEmpty) a) : W c A (truthy (.ref D)) Q E a := fun s hs => by
  obtain ⟨us, n, ho, e⟩ := own_list hs hl
  have hsz := size_of e
  refine wpAny_truthy_list (isList_of ho) (by rw [hsz]; exact fits_big hz) ⟨a, hs.of_eq, ?_⟩
  have : us.isEmpty = vs.isEmpty := by
    rw [← e]; cases us with | mk l => cases l <;> simp
  rw [this]; exact h

theorem W_list_add {ws : List AV} {B : Addr} {k' : Nat} {Q : Value → AS → Prop} (r : Nat) (hl : σ D = some (k, .list vs)) (hb : σ B = some (k', .list ws)) (hz : vs.length + ws.length ≤ 1000000)
    (h : ∀ l, σ l = none → ∀ σ', σ' = upd σ l (some (r, .list (vs ++ ws))) → Q (.ref l) ⟨fs, σ', g⟩) : W c A (binaryOp .Add (.ref D) (.ref B)) Q E ⟨fs, σ, g⟩ := fun s hs => by
  obtain ⟨us, n, ho, e⟩ := own_list hs hl
  obtain ⟨us2, n2, ho2, e2⟩ := own_list hs hb
  have h1 := size_of e
  have h2 := size_of e2
  refine concat_meets ⟨_, ho, rfl⟩ ⟨_, ho2, rfl⟩ noFill_list_add seq_list_add slot_list_add entry_list_add (args_list_add_2 _ _) (list___add___list_list_0 D us n B us2 n2 (by rw [h1, h2]; exact sizeLine_big hz)) ⟨ho, ho2, ?_⟩
  refine ⟨_, St.of_eq (hs.alloc (k := r) (cl := .list (vs ++ ws)) ⟨us ++ us2, 0, rfl, ?_⟩ rfl), h _ hs.fresh.1 _ rfl⟩
  rw [← e, ← e2]; simp

/-! membership of a scalar -/
theorem eqGives_key {u v : Value} (hu : (er u).isKey = true) (hv : (er v).isKey = true) : EqGives u v (decide (er u = er v)) := fun prog w A E s Q h =>
  (avKind prog w).eqBool (avKind_is.mpr ⟨rfl, hu⟩) (avKind_is.mpr ⟨rfl, hv⟩) h

theorem any_er {us : Array Value} (e : us.toList.map er = vs) (v : AV) : us.any (fun y => decide (er y = v)) = decide (v ∈ vs) := by
  rw [← e, Bool.eq_iff_iff, ← Array.any_toList]
  simp only [List.any_eq_true, decide_eq_true_eq, List.mem_map]

theorem W_in_list {u : Value} {Q : Value → AS → Prop} (hl : a.σ D = some (k, .list vs)) (hu : (er u).isKey = true) (hk : ∀ v ∈ vs, v.isKey = true) (h : Q (.bool (decide (er u ∈ vs))) a) : W c A (compareOp .In u (.ref D)) Q E a := fun s hs => by
  obtain ⟨us, n, ho, e⟩ := own_list hs hl
  have he : ∀ y, y ∈ us → EqGives y u (decide (er y = er u)) := fun y hy => eqGives_key (hk _ (by rw [← e]; exact List.mem_map_of_mem (Array.mem_toList_iff.mpr hy))) hu
  refine SeqAt.in_listAt _ (isList_of ho) (fun y hy => (he y hy).at _ _) ⟨a, hs, ?_⟩
  rw [any_er e]; exact h
theorem W_notin_list {u : Value} {Q : Value → AS → Prop} (hl : a.σ D = some (k, .list vs)) (hu : (er u).isKey = true) (hk : ∀ v ∈ vs, v.isKey = true) (h : Q (.bool (!decide (er u ∈ vs))) a) : W c A (compareOp .NotIn u (.ref D)) Q E a := fun s hs => by
  obtain ⟨us, n, ho, e⟩ := own_list hs hl
  have he : ∀ y, y ∈ us → EqGives y u (decide (er y = er u)) := fun y hy => eqGives_key (hk _ (by rw [← e]; exact List.mem_map_of_mem (Array.mem_toList_iff.mpr hy))) hu
  refine SeqAt.notIn_listAt _ (isList_of ho) (fun y hy => (he y hy).at _ _) ⟨a, hs, ?_⟩
  rw [any_er e]; exact h
end
end Mine.Internal

namespace Mine.Internal
open PySem PySem.W PyProof.Rows PySem.Calls PySem.F PySem.AutoSeq1 PySem.MeetsSeq PySem.MeetsSeq3 PySem.SeqAt

mutual
inductive RdV (σ : Addr → Option (Nat × Cell)) : AV → PyData → Prop
  | none : RdV σ .none .none
  | bool {b} : RdV σ (.bool b) (.bool b)
  | int {i} : RdV σ (.int i) (.int i)
  | str {x} : RdV σ (.str x) (.str x)
  | list {l k vs ds} : σ l = some (k, .list vs) → RdL σ vs ds → RdV σ (.ref l) (.list ds)
  | tuple {l k vs ds} : σ l = some (k, .tuple vs) → RdL σ vs ds → RdV σ (.ref l) (.tuple ds)
  | dict {l k kvs ep ds} : σ l = some (k, .dict kvs ep) → RdL σ (kvs.map (·.1)) (ds.map (·.1)) → RdL σ (kvs.map (·.2)) (ds.map (·.2)) → RdV σ (.ref l) (.dict ds)
inductive RdL (σ : Addr → Option (Nat × Cell)) : List AV → List PyData → Prop
  | nil : RdL σ [] []
  | cons {v vs d ds} : RdV σ v d → RdL σ vs ds → RdL σ (v :: vs) (d :: ds)
end


theorem pairs_er {prog : Program} {w : World} {es : List DictEntry} {kvs : List (AV × Value)} (h : Pairs (avKind prog w) es kvs) : (es.map (·.key)).map er = kvs.map (·.1) ∧ (es.map (·.val)).map er = kvs.map fun p => er p.2 := by
  induction h with
  | nil => exact ⟨rfl, rfl⟩
  | cons h1 h2 _ ih =>
    simp only [List.map_cons]
    exact ⟨by rw [ih.1, (avKind_is.mp h1).1], by rw [ih.2, h2]⟩

theorem RdV.reads {c : Cx} {a : AS} {s : Shared} (hs : St c a s) {v : AV} {d : PyData} (r : RdV a.σ v d) : ∀ u, er u = v → ∃ as, Reads s.heap u d as := by
  refine RdV.rec (motive_1 := fun v d _ => ∀ u, er u = v → ∃ as, Reads s.heap u d as) (motive_2 := fun vs ds _ => ∀ us : List Value, us.map er = vs → ∃ as, ReadsAll s.heap us ds as) ?_ ?_ ?_ ?_ ?_ ?_ ?_ ?_ ?_ r
  · intro u e; rw [er_none e]; exact ⟨_, .none⟩
  · intro b u e; rw [er_bool e]; exact ⟨_, .bool _⟩
  · intro i u e; obtain ⟨t, rfl⟩ := er_int e; exact ⟨_, .int _ _⟩
  · intro x u e; obtain ⟨t, rfl⟩ := er_str e; exact ⟨_, .str _ _⟩
  · intro l k vs ds h _ ih u e
    rw [er_ref e]
    obtain ⟨us, n, ho, q⟩ := own_list hs h
    obtain ⟨as, ra⟩ := ih us.toList q
    exact ⟨_, .list ho rfl rfl ra⟩
  · intro l k vs ds h _ ih u e
    rw [er_ref e]
    obtain ⟨us, n, ho, q⟩ := own_tuple hs h
    obtain ⟨as, ra⟩ := ih us.toList q
    exact ⟨_, .tuple ho rfl rfl ra⟩
  · intro l k kvs ep ds h _ _ ih1 ih2 u e
    rw [er_ref e]
    obtain ⟨⟨o, ho, hx, es, kvs', hd, _, hp, hk, _⟩, _⟩ := hs.own _ _ _ h
    obtain ⟨p1, p2⟩ := pairs_er hp
    obtain ⟨as, ra⟩ := ih1 (es.toList.map (·.key)) (by rw [p1, hk]; simp)
    obtain ⟨bs, rb⟩ := ih2 (es.toList.map (·.val)) (by rw [p2, hk]; simp)
    exact ⟨_, .dict ho hx.1 hd ra rb⟩
  · intro us e
    rw [List.map_eq_nil_iff] at e; subst e; exact ⟨_, .nil⟩
  · intro v vs d ds _ _ ih1 ih2 us e
    obtain ⟨u, us', rfl, e1, e2⟩ := List.map_eq_cons_iff.mp e
    obtain ⟨as, ra⟩ := ih1 u e1
    obtain ⟨bs, rb⟩ := ih2 us' e2
    exact ⟨_, .cons ra rb⟩

theorem AOk.u64 {A : Around} {fs : List Frm} {d : Nat} (h : AOk A fs d) : A.units + 64 < cLine := by have := h.units; unfold cLine; omega
section
variable {c : Cx} {A : Around} {E : Value → AS → Prop} {a : AS} {fs : List Frm} {σ : Addr → Option (Nat × Cell)} {g : Array GenState} {k : Nat} {D : Addr} {vs : List AV} {d : Nat} {fs₀ : List Frm}

theorem W_eqD {u v : Value} {p q : PyData} {Q : Value → AS → Prop} (hA : AOk A fs₀ d) (ru : RdV a.σ (er u) p) (rv : RdV a.σ (er v) q) (hp : shaped p = true) (hq : shaped q = true) (h : Q (.bool (PyData.eqv p q)) a) : W c A (compareOp .Eq u v) Q E a := fun s hs => by
  obtain ⟨as, ra⟩ := ru.reads hs u rfl
  obtain ⟨bs, rb⟩ := rv.reads hs v rfl
  exact eq_dataH ra rb hp hq hA.u64 ⟨a, hs, h⟩
theorem W_neD {u v : Value} {p q : PyData} {Q : Value → AS → Prop} (hA : AOk A fs₀ d) (ru : RdV a.σ (er u) p) (rv : RdV a.σ (er v) q) (hp : shaped p = true) (hq : shaped q = true) (h : Q (.bool (!PyData.eqv p q)) a) : W c A (compareOp .NotEq u v) Q E a := fun s hs => by
  obtain ⟨as, ra⟩ := ru.reads hs u rfl
  obtain ⟨bs, rb⟩ := rv.reads hs v rfl
  exact ne_dataH ra rb hp hq hA.u64 ⟨a, hs, h⟩

/-! ints -/
theorem W_add {i j : Int} {t u : Tok} {Q : Value → AS → Prop} (h : ∀ t, Q (.int (i + j) t) a) : W c A (binaryOp .Add (.int i t) (.int j u)) Q E a := fun s hs => AutoIntOps.add_0 ⟨a, hs.of_eq, h _⟩
theorem W_sub {i j : Int} {t u : Tok} {Q : Value → AS → Prop} (h : ∀ t, Q (.int (i - j) t) a) : W c A (binaryOp .Sub (.int i t) (.int j u)) Q E a := fun s hs => AutoIntOps.sub_0 ⟨a, hs.of_eq, h _⟩
theorem W_mod {i j : Int} {t u : Tok} {Q : Value → AS → Prop} (hj : j ≠ 0) (h : ∀ t, Q (.int (i.fmod j) t) a) : W c A (binaryOp .Mod (.int i t) (.int j u)) Q E a := fun s hs =>
  AutoIntOps.mod_1 (by simpa using hj) ⟨a, hs.of_eq, h _⟩
theorem W_eq_int {i j : Int} {t u : Tok} {Q : Value → AS → Prop} (h : Q (.bool (i == j)) a) : W c A (compareOp .Eq (.int i t) (.int j u)) Q E a := fun s hs => P.eq_int ⟨a, hs, h⟩
theorem W_ne_int {i j : Int} {t u : Tok} {Q : Value → AS → Prop} (h : Q (.bool (i != j)) a) : W c A (compareOp .NotEq (.int i t) (.int j u)) Q E a := fun s hs => P.ne_int ⟨a, hs, h⟩
theorem W_lt_int {i j : Int} {t u : Tok} {Q : Value → AS → Prop} (h : Q (.bool (decide (i < j))) a) : W c A (compareOp .Lt (.int i t) (.int j u)) Q E a := fun s hs => P.lt_int ⟨a, hs, h⟩
theorem W_ge_int {i j : Int} {t u : Tok} {Q : Value → AS → Prop} (h : Q (.bool (decide (i ≥ j))) a) : W c A (compareOp .GtE (.int i t) (.int j u)) Q E a := fun s hs => P.ge_int ⟨a, hs, h⟩
theorem W_is_none {v : Value} {Q : Value → AS → Prop} (h : Q (.bool (v == .none)) a) : W c A (compareOp .Is v .none) Q E a := fun s hs => is_none_gen ⟨a, hs, h⟩
theorem W_isnot_none {v : Value} {Q : Value → AS → Prop} (h : Q (.bool (!(v == .none))) a) : W c A (compareOp .IsNot v .none) Q E a := fun s hs => isnot_none_gen ⟨a, hs, h⟩
end
end Mine.Internal

namespace Mine.Internal
open PySem PySem.W PyProof.Rows PySem.Calls PySem.F PySem.AutoSeq1 PySem.MeetsSeq PySem.MeetsSeq3 PySem.SeqAt

noncomputable def dget (kvs : List (AV × AV)) (k : AV) : Option AV := (kvs.find? fun p => p.1 = k).map (·.2)
noncomputable def dset (kvs : List (AV × AV)) (k v : AV) : List (AV × AV) := if kvs.any (fun p => p.1 = k) then kvs.map (fun p => if p.1 = k then (p.1, v) else p) else kvs ++ [(k, v)]
noncomputable def ddel (kvs : List (AV × AV)) (k : AV) : List (AV × AV) := kvs.filter fun p => decide (p.1 ≠ k)

noncomputable def erP (p : AV × Value) : AV × AV := (p.1, er p.2)
theorem valueAt_er (kvs : List (AV × Value)) (k : AV) : (valueAt kvs k).map er = dget (kvs.map erP) k := by
  induction kvs with
  | nil => rfl
  | cons p kvs ih =>
    simp only [valueAt, dget, List.map_cons, List.find?_cons] at ih ⊢
    by_cases e : p.1 = k
    · simp [e, erP]
    · simp only [erP, e, decide_false]; exact ih
theorem stored_er (kvs : List (AV × Value)) (k : AV) (u : Value) : (stored kvs k u).map erP = dset (kvs.map erP) k (er u) := by
  unfold stored dset
  have h1 : (kvs.map erP).any (fun p => p.1 = k) = kvs.any (fun p => p.1 = k) := by
    rw [List.any_map]; rfl
  rw [h1]
  split
  · simp only [List.map_map]
    apply List.map_congr_left
    intro p _
    by_cases q : p.1 = k <;> simp [Function.comp_apply, erP, q]
  · simp [erP]
theorem without_er (kvs : List (AV × Value)) (k : AV) : (without kvs k).map erP = ddel (kvs.map erP) k := by
  unfold without ddel
  rw [List.filter_map]; rfl

section
variable {c : Cx} {A : Around} {E : Value → AS → Prop} {a : AS} {fs : List Frm} {σ : Addr → Option (Nat × Cell)} {g : Array GenState} {k : Nat} {D : Addr} {kvs : List (AV × AV)} {ep : Nat} {u v : Value}

theorem own_dict {ep : Nat} {s : Shared} (hs : St c a s) (h : a.σ D = some (k, .dict kvs ep)) : ∃ kvs', s.heap.DictAt (avKind c.prog c.w) D kvs' ep ∧ kvs = kvs'.map erP := by
  obtain ⟨⟨o, ho, ex, es, kvs', hd, hk, hp, e, hn⟩, _⟩ := hs.own D k _ h
  refine ⟨kvs', ⟨o, es, ho, ex, hd, hk, hp, ?_⟩, e⟩
  rw [e, List.map_map] at hn; exact hn
theorem notSys {s : Shared} {p : Nat × Cell} (hs : St c a s) (h : a.σ D = some p) : (D == sysModules) = false := by
  obtain ⟨_, hb, _⟩ := hs.own D p.1 p.2 h
  rw [beq_eq_false_iff_ne]
  intro e
  have := c.sysm
  rw [← e, hb] at this; cases this
theorem ok_dict {s : Shared} {h' : Heap} {kvs' : List (AV × Value)} (hd : h'.DictOf (avKind c.prog c.w) D kvs') : ∃ o ep, h'.get? D = some o ∧ Cell.ok c (.dict (kvs'.map erP) ep) o := by
  obtain ⟨o, es, ep, ho, ex, hd, hk, hp, hn⟩ := hd
  exact ⟨o, ep, ho, ex, es, kvs', hd, hk, hp, rfl, by rw [List.map_map]; exact hn⟩

theorem W_newDict {Q : Value → AS → Prop} (k : Nat) (h : ∀ l, σ l = none → ∀ σ', σ' = upd σ l (some (k, .dict [] 0)) → Q (.ref l) ⟨fs, σ', g⟩) : W c A (newDict #[]) Q E ⟨fs, σ, g⟩ := fun s hs =>
  wpAny_newObj_type ⟨_, hs.alloc (k := k) (cl := .dict [] 0) ⟨⟨rfl, rfl, rfl⟩, #[], [], rfl, fun _ he => by simp at he, .nil, rfl, .nil⟩ rfl, h _ hs.fresh.1 _ rfl⟩
theorem W_Dict_nil {pos : Pos} {env : Env} {Q : Value → AS → Prop} (h : W c A (newDict #[]) Q E a) : W c A (eval (.Dict [] [] pos) env) Q E a := by
  show W c A (do standAt pos; newDict #[]) Q E a
  exact W_bind (W_standAt h)

theorem W_meth_dict {name : Str} {id : String} {pl : Sem Bool} {Q : Value × List Value → AS → Prop} (slot : Slot "dict" name id) (hty : typeOf (.builtin id) = pure (.type "method_descriptor"))
    (hl : a.σ D = some (k, .dict kvs ep)) (h : Q (.builtin id, [.ref D]) a) : W c A (getMethod (.ref D) name pl) Q E a := fun s hs => by
  obtain ⟨⟨o, ho, ex, _⟩, _⟩ := hs.own D k _ hl
  exact getMethod_builtin ⟨o, ho, ex.1⟩ plainAttrs_dict slot hty (fun b e => by injection e with e; subst e; exact ⟨o, ho, ex.2.1⟩) ⟨a, hs, h⟩

theorem W_dict_get {Q : Value → AS → Prop} (hl : a.σ D = some (k, .dict kvs ep)) (hk : (er u).isKey = true) (h : All ((dget kvs (er u)).getD .none) (fun v => Q v a)) : W c A (call (.builtin "dict.get") [.ref D, u]) Q E a := fun s hs => by
  obtain ⟨kvs', hd, e⟩ := own_dict hs hl
  have hm := hd.dictOf.mapOf
  refine call_meetsIn slot_dict_get hm.typeIs entry_dict_get (args_dict_get_2 _ _) (meets_dict_get (avKind c.prog c.w) D (avKind_is.mpr ⟨rfl, hk⟩) (notSys hs hl)) ⟨_, hm, ?_⟩
  refine ⟨a, hs.of_eq, h.at ?_⟩
  rw [e, ← valueAt_er]
  cases valueAt kvs' (er u) <;> rfl
theorem W_dict_get2 {Q : Value → AS → Prop} (hl : a.σ D = some (k, .dict kvs ep)) (hk : (er u).isKey = true) (h : All ((dget kvs (er u)).getD (er v)) (fun v => Q v a)) : W c A (call (.builtin "dict.get") [.ref D, u, v]) Q E a := fun s hs => by
  obtain ⟨kvs', hd, e⟩ := own_dict hs hl
  have hm := hd.dictOf.mapOf
  refine call_meetsIn slot_dict_get hm.typeIs entry_dict_get (args_dict_get_3 _ _ _) (meets_dict_get_default (avKind c.prog c.w) D (avKind_is.mpr ⟨rfl, hk⟩) (notSys hs hl) v) ⟨_, hm, ?_⟩
  refine ⟨a, hs.of_eq, h.at ?_⟩
  rw [e, ← valueAt_er]
  cases valueAt kvs' (er u) <;> rfl
theorem W_dict_item {x : AV} {Q : Value → AS → Prop} (hl : a.σ D = some (k, .dict kvs ep)) (hk : (er u).isKey = true) (hx : dget kvs (er u) = some x) (h : All x (fun v => Q v a)) : W c A (getItem (.ref D) u) Q E a := fun s hs => by
  obtain ⟨kvs', hd, e⟩ := own_dict hs hl
  have hm := hd.dictOf.mapOf
  rw [e, ← valueAt_er] at hx
  obtain ⟨v, hv, ev⟩ := map_some_of hx
  exact wpAny_getItem_of (avKind_is.mpr ⟨rfl, hk⟩) hm hv ⟨a, hs.of_eq, h.at ev⟩
theorem W_in_dict {Q : Value → AS → Prop} (hl : a.σ D = some (k, .dict kvs ep)) (hk : (er u).isKey = true) (h : Q (.bool (dget kvs (er u)).isSome) a) : W c A (compareOp .In u (.ref D)) Q E a := fun s hs => by
  obtain ⟨kvs', hd, e⟩ := own_dict hs hl
  refine wpAny_in_of (avKind_is.mpr ⟨rfl, hk⟩) (notSys hs hl) hd.dictOf.mapOf ⟨a, hs.of_eq, ?_⟩
  rw [e, ← valueAt_er] at h
  simpa using h
theorem W_notin_dict {Q : Value → AS → Prop} (hl : a.σ D = some (k, .dict kvs ep)) (hk : (er u).isKey = true) (h : Q (.bool (!(dget kvs (er u)).isSome)) a) : W c A (compareOp .NotIn u (.ref D)) Q E a := fun s hs => by
  obtain ⟨kvs', hd, e⟩ := own_dict hs hl
  refine wpAny_notIn_of (avKind_is.mpr ⟨rfl, hk⟩) (notSys hs hl) hd.dictOf.mapOf ⟨a, hs.of_eq, ?_⟩
  rw [e, ← valueAt_er] at h
  simpa using h
theorem W_dict_set {Q : Unit → AS → Prop} (hl : σ D = some (k, .dict kvs ep)) (hk : (er u).isKey = true) (hz : kvs.length ≤ 1000000) (h : ∀ ep' σ', σ' = upd σ D (some (k, .dict (dset kvs (er u) (er v)) ep')) → Q () ⟨fs, σ', g⟩) : W c A (setItem (.ref D) u v) Q E ⟨fs, σ, g⟩ := fun s hs => by
  obtain ⟨kvs', hd, e⟩ := own_dict hs hl
  refine wpAny_setItem_pairs (avKind_is.mpr ⟨rfl, hk⟩) hd.dictOf (fun h' hd' hsb => ?_) (sizeLine_big (by rw [e, List.length_map] at hz; exact hz))
  obtain ⟨o, ep', ho, ok⟩ := ok_dict (c := c) (s := s) hd'
  rw [stored_er, ← e] at ok
  exact ⟨_, St.of_eq (hs.put hl (fun b o q z => (hsb.2 b q).trans z) ho ok), h _ _ rfl⟩
theorem W_dict_del {Q : Unit → AS → Prop} (hl : σ D = some (k, .dict kvs ep)) (hk : (er u).isKey = true) (hx : (dget kvs (er u)).isSome = true) (hz : kvs.length ≤ 1000000) (h : ∀ ep' σ', σ' = upd σ D (some (k, .dict (ddel kvs (er u)) ep')) → Q () ⟨fs, σ', g⟩) : W c A (delItem (.ref D) u) Q E ⟨fs, σ, g⟩ := fun s hs => by
  obtain ⟨kvs', hd, e⟩ := own_dict hs hl
  refine wpAny_delItem_slot hd.dictOf.mapOf.typeIs (by decide +kernel) slot_dict_delitem (call_meetsIn slot_dict_delitem hd.dictOf.mapOf.typeIs entry_dict_delitem (args_dict_delitem_2 _ _) (meets_dict_delitem_pairs (avKind c.prog c.w) D (avKind_is.mpr ⟨rfl, hk⟩)) ⟨_, hd.dictOf, sizeLine_big (by rw [e, List.length_map] at hz; exact hz), ?_, fun h' hd' hsb => ?_⟩)
  · rw [e, ← valueAt_er] at hx; simpa using hx
  · obtain ⟨o, ep', ho, ok⟩ := ok_dict (c := c) (s := s) hd'
    rw [without_er, ← e] at ok
    exact ⟨_, St.of_eq (hs.put hl (fun b o q z => (hsb.2 b q).trans z) ho ok), h _ _ rfl⟩
theorem W_len_dict {Q : Value → AS → Prop} (hl : a.σ D = some (k, .dict kvs ep)) (hz : kvs.length ≤ 1000000) (h : ∀ t, Q (.int kvs.length t) a) : W c A (call (.builtin "len") [.ref D]) Q E a := fun s hs => by
  obtain ⟨kvs', hd, e⟩ := own_dict hs hl
  have : kvs'.length = kvs.length := by rw [e]; simp
  refine call_len_dict (notSys hs hl) hd.dictOf (by rw [this]; exact fits_big hz) ⟨a, hs.of_eq, ?_⟩
  rw [this]; exact h _

/-! sets -/
variable {S : AV → Bool} {n : Nat}
theorem own_set {s : Shared} (hs : St c a s) (h : a.σ D = some (k, .set S n)) (hn : n < 4096) : s.heap.SetOf (avKind c.prog c.w) D S n := by
  obtain ⟨⟨o, ho, ok⟩, _⟩ := hs.own D k _ h
  exact Obj.SetObjOf.setOf ok ho hn
theorem W_in_set {Q : Value → AS → Prop} (hl : a.σ D = some (k, .set S n)) (hn : n < 4096) (hk : (er u).isKey = true) (h : Q (.bool (S (er u))) a) : W c A (compareOp .In u (.ref D)) Q E a := fun s hs =>
  wpAny_inSet_of (avKind_is.mpr ⟨rfl, hk⟩) (scannable_of_key rfl hk) (own_set hs hl hn) ⟨a, hs.of_eq, h⟩
theorem W_meth_set_add {pl : Sem Bool} {Q : Value × List Value → AS → Prop} (hl : a.σ D = some (k, .set S n)) (hn : n < 4096) (h : Q (.builtin "set.add", [.ref D]) a) : W c A (getMethod (.ref D) "add" pl) Q E a := fun s hs =>
  getMethod_set_add (own_set hs hl hn) ⟨a, hs, h⟩
theorem W_set_add {Q : Value → AS → Prop} (hl : σ D = some (k, .set S n)) (hn : n + 1 < 4096) (hk : (er u).isKey = true)
    (h : ∀ σ', σ' = upd σ D (some (k, .set (fun x => S x || decide (x = er u)) (if S (er u) then n else n + 1))) → Q .none ⟨fs, σ', g⟩) : W c A (call (.builtin "set.add") [.ref D, u]) Q E ⟨fs, σ, g⟩ := fun s hs => by
  refine call_set_add (avKind_is.mpr ⟨rfl, hk⟩) (scannable_of_key rfl hk) (own_set hs hl (by omega)) hn (fun h' hsb hS => ?_)
  obtain ⟨o, es, ep, t, ho, ex, hd, r1, r2, r3, r4, r5⟩ := hS
  exact ⟨_, St.of_eq (hs.put hl (fun b o q z => (hsb.2 b q).trans z) ho (cl' := .set _ _) ⟨ex, es, ep, t, hd, r1, r2, r5, r4⟩), h _ rfl⟩
end
end Mine.Internal

namespace Mine.Internal
open PySem PySem.W PyProof.Rows PySem.Calls PySem.F PySem.AutoSeq1 PySem.MeetsSeq PySem.MeetsSeq3 PySem.SeqAt

noncomputable def Noted (c : Cx) (A : Around) (env : Env) (E : Value → AS → Prop) : Value → AS → Prop := fun e a => W c A (noteFrame e env) (fun _ a' => E e a') E a
noncomputable def Came (c : Cx) (A : Around) (env : Env) (E : Value → AS → Prop) : Value → AS → Prop := fun e a =>
  W c A (do if (← field e 1) == .none then unsupported "frame.own-activation:exception-without-traceback"
            setFlight e env.frame) (fun _ a' => E e a') E a

noncomputable def iterCell (ty : String) (l : Addr) (i : Nat) : Cell := .raw fun o => o.cls = .type ty ∧ o.data = .fields #[.ref l, .int i 0]

theorem All.key {v : AV} {P : Value → Prop} (hv : v.isKey = true) (h : ∀ u, er u = v → P u) : All v P := All.of h (by intro u e; subst e; cases hv)

section
variable {c : Cx} {A : Around} {E : Value → AS → Prop} {a : AS} {env : Env} {fs : List Frm} {σ : Addr → Option (Nat × Cell)} {g : Array GenState} {k : Nat}

theorem noted_of {e : Value} {s : Shared} {R : Value → AS → Prop} (h : ∃ a', St c a' s ∧ Noted c A env R e a') : notedBy (model c.prog c.w) A env (fun e s' => ∃ a', St c a' s' ∧ R e a') e s := by
  obtain ⟨a', h1, q⟩ := h
  exact q s h1
theorem came_of {e : Value} {s : Shared} {R : Value → AS → Prop} (h : ∃ a', St c a' s ∧ Came c A env R e a') : cameBackBy (model c.prog c.w) A env (fun e s' => ∃ a', St c a' s' ∧ R e a') e s := by
  obtain ⟨a', h1, q⟩ := h
  exact q s h1

theorem W_For {target iter : Expr} {body orelse : List Stmt} {pos : Pos} {Q : Flow → AS → Prop}
    (h : W c A (eval iter env) (fun x a₁ => W c A (pyIter x) (fun it a₂ => Wk c A (.forLoop target it body orelse env) (fun r a' => match r with | .ok f => Q f a' | .error e => Came c A env E e a') a₂) E a₁) E a)
    (hs : ∀ x, foldedSetIterable iter env x = pure x := by intro _; with_unfolding_all rfl) : W c A (exec (.For target iter body orelse pos) env) Q E a := fun s hs' =>
  wpAny_For (wpAny_mono (h s hs') (fun x s₁ ⟨a₁, h1, q⟩ => wpAny_mono (q s₁ h1) (fun it s₂ ⟨a₂, h2, q⟩ => codeAny_mono (q s₂ h2) fun r s' ⟨a', h3, q⟩ => by
    cases r with
    | ok f => exact ⟨a', h3, q⟩
    | error e => exact came_of ⟨a', h3, q⟩) fun _ _ x => x) fun _ _ x => x) hs

theorem Wk_for {target : Expr} {it : Value} {body orelse : List Stmt} {R : Result → AS → Prop} (I : Nat → AS → Prop)
    (turn : ∀ n a, I n a → W c A (pyNext it) (fun r a₁ => match r with
      | none => W c A (execs orelse env) (fun f a₃ => R (.ok f) a₃) (Noted c A env fun e a' => R (.error e) a') a₁
      | some v => W c A (letOwnedTupleGo target it v) (fun _ a₁' => W c A (assign target env v) (fun _ a₂ => W c A (execs body env) (fun f a₃ => match f with
            | .next | .cont => ∃ m, m < n ∧ I m a₃
            | .brk => R (.ok .next) a₃
            | .ret v => R (.ok (.ret v)) a₃) (Noted c A env fun e a' => R (.error e) a') a₂) (Noted c A env fun e a' => R (.error e) a') a₁') (Noted c A env fun e a' => R (.error e) a') a₁) (Noted c A env fun e a' => R (.error e) a') a)
    (n : Nat) (h : I n a) : Wk c A (.forLoop target it body orelse env) R a := by
  intro s hs
  refine codeAny_forLoop_any (fun n s => ∃ a, St c a s ∧ I n a) (fun n s ⟨a, hs, hI⟩ => ?_) n ⟨a, hs, h⟩
  refine wpAny_mono (turn n a hI s hs) (fun r s₁ ⟨a₁, h1, q⟩ => ?_) fun e s' x => noted_of x
  cases r with
  | none => exact wpAny_mono (q s₁ h1) (fun _ _ x => x) fun e s' x => noted_of x
  | some v =>
    refine wpAny_mono (q s₁ h1) (fun _ s₁' ⟨a₁', h1', q⟩ => ?_) fun e s' x => noted_of x
    refine wpAny_mono (q s₁' h1') (fun _ s₂ ⟨a₂, h2, q⟩ => ?_) fun e s' x => noted_of x
    refine wpAny_mono (q s₂ h2) (fun f s₃ ⟨a₃, h3, q⟩ => ?_) fun e s' x => noted_of x
    cases f with
    | next => obtain ⟨m, hm, hi⟩ := q; exact ⟨m, hm, a₃, h3, hi⟩
    | cont => obtain ⟨m, hm, hi⟩ := q; exact ⟨m, hm, a₃, h3, hi⟩
    | brk => exact ⟨a₃, h3, q⟩
    | ret v => exact ⟨a₃, h3, q⟩

/-- an iterator over something that stays: its cell by the number of items taken -/
structure IterOf (c : Cx) (A : Around) (vs : List AV) (k : Nat) (src : (Addr → Option (Nat × Cell)) → Prop) (cell : Nat → Cell) : Prop where
  item : ∀ {it i v fs σ g Q} {E : Value → AS → Prop}, σ it = some (9, cell i) → src σ → vs[i]? = some v → (∀ σ' u, σ' = upd σ it (some (9, cell (i + 1))) → er u = v → Q (some u) ⟨fs, σ', g⟩) → W c A (pyNext (.ref it)) Q E ⟨fs, σ, g⟩
  fin : ∀ {it i fs σ g Q} {E : Value → AS → Prop}, σ it = some (9, cell i) → src σ → i = vs.length → (∀ σ', σ' = upd σ it none → Q none ⟨fs, σ', g⟩) → W c A (pyNext (.ref it)) Q E ⟨fs, σ, g⟩
  keep : ∀ {σ it i x}, src σ → σ it = some (9, cell i) → src (upd σ it x)
  ext : ∀ {C σ σ'}, k ∉ C → Ext C σ σ' → src σ → src σ'
  own : ∀ {target it u i fs σ g} {Q : Unit → AS → Prop} {E : Value → AS → Prop}, σ it = some (9, cell i) → Q () ⟨fs, σ, g⟩ → W c A (letOwnedTupleGo target (.ref it) u) Q E ⟨fs, σ, g⟩

theorem own_plain {target : Expr} {it l : Addr} {u : Value} {i k' : Nat} {ty : String} {Q : Unit → AS → Prop} (hty : ["enumerate", "zip", "dict_itemiterator", "dict_reverseitemiterator", "odict_iterator", "itertools.zip_longest", "itertools.pairwise"].contains ty = false)
    (h : σ it = some (k', iterCell ty l i)) (q : Q () ⟨fs, σ, g⟩) : W c A (letOwnedTupleGo target (.ref it) u) Q E ⟨fs, σ, g⟩ := by
  intro s hs
  obtain ⟨⟨o, ho, hc, hd⟩, _⟩ := hs.own it k' _ h
  have fin : wpAny (model c.prog c.w) A (do
      let (.ref r, .ref a) := (Value.ref it, u) | return
      let o ← load r
      match o.cls, o.data with
      | .type n, .fields vs =>
        if ["enumerate", "zip", "dict_itemiterator", "dict_reverseitemiterator", "odict_iterator", "itertools.zip_longest", "itertools.pairwise"].contains n && vs[0]? == some (rawInt a) then
          rule "for.unpacks-the-owned-tuple"
          updateField r 0 .none
      | _, _ => pure ()) (fun v s' => ∃ a', St c a' s' ∧ Q v a') (fun e s' => ∃ a', St c a' s' ∧ E e a') s := by
    cases u with
    | ref b =>
      refine wpAny_bind (wpAny_load ho ?_)
      rw [hc, hd]
      dsimp only
      rw [hty]
      exact wpAny_pure ⟨_, hs, q⟩
    | _ => exact wpAny_pure ⟨_, hs, q⟩
  unfold letOwnedTupleGo
  cases target <;> first | exact fin | exact wpAny_pure ⟨_, hs, q⟩

theorem listIter_of {it l : Addr} {i : Nat} {k' : Nat} {s : Shared} (hs : St c a s) (h : a.σ it = some (k', iterCell "list_iterator" l i)) : s.heap.IsListIter it l i := by
  obtain ⟨⟨o, ho, hc, hd⟩, _⟩ := hs.own it k' _ h
  exact ⟨o, ho, hc, hd⟩
theorem tupleIter_of {it l : Addr} {i : Nat} {k' : Nat} {s : Shared} (hs : St c a s) (h : a.σ it = some (k', iterCell "tuple_iterator" l i)) : s.heap.IsTupleIter it l i := by
  obtain ⟨⟨o, ho, hc, hd⟩, _⟩ := hs.own it k' _ h
  exact ⟨o, ho, hc, hd⟩
theorem isTuple_of {D : Addr} {h : Heap} {us : Array Value} {n : Nat} (ho : h.get? D = some { cls := .type "tuple", data := .seq us n }) : h.IsTuple D us := ⟨_, ho, rfl, n, rfl⟩

theorem W_iter_list {l : Addr} {vs : List AV} {Q : Value → AS → Prop} (hl : σ l = some (k, .list vs)) (h : ∀ it, σ it = none → ∀ σ', σ' = upd σ it (some (9, iterCell "list_iterator" l 0)) → Q (.ref it) ⟨fs, σ', g⟩) : W c A (pyIter (.ref l)) Q E ⟨fs, σ, g⟩ := fun s hs => by
  obtain ⟨us, n, ho, e⟩ := own_list hs hl
  exact wpAny_pyIter_list (isList_of ho) ⟨_, hs.alloc (k := 9) (cl := iterCell "list_iterator" l 0) ⟨rfl, rfl⟩ rfl, h _ hs.fresh.1 _ rfl⟩
theorem W_iter_tuple {l : Addr} {vs : List AV} {Q : Value → AS → Prop} (hl : σ l = some (k, .tuple vs)) (h : ∀ it, σ it = none → ∀ σ', σ' = upd σ it (some (9, iterCell "tuple_iterator" l 0)) → Q (.ref it) ⟨fs, σ', g⟩) : W c A (pyIter (.ref l)) Q E ⟨fs, σ, g⟩ := fun s hs => by
  obtain ⟨us, n, ho, e⟩ := own_tuple hs hl
  exact wpAny_pyIter_tuple (isTuple_of ho) ⟨_, hs.alloc (k := 9) (cl := iterCell "tuple_iterator" l 0) ⟨rfl, rfl⟩ rfl, h _ hs.fresh.1 _ rfl⟩

theorem IterOf.list {l : Addr} {vs : List AV} (hh : A.handled = none) : IterOf c A vs k (fun σ => σ l = some (k, .list vs)) (iterCell "list_iterator" l) where
  item := fun {it i v fs σ g Q E} hit hl hv h s hs => by
    obtain ⟨us, n, ho, e⟩ := own_list hs hl
    obtain ⟨u, hu, eu⟩ := get_of e hv
    refine wpAny_pyNext_list_item (listIter_of hs hit) (isList_of ho) hu (fun h' hi hsb => ?_)
    obtain ⟨o', ho', hc', hd'⟩ := hi
    exact ⟨_, hs.put hit (fun b o q z => (hsb.2 b q).trans z) ho' (cl' := iterCell "list_iterator" l (i + 1)) ⟨hc', hd'⟩, h _ _ rfl eu⟩
  fin := fun {it i fs σ g Q E} hit hl hi h s hs => by
    obtain ⟨us, n, ho, e⟩ := own_list hs hl
    refine wpAny_pyNext_list_end hh (listIter_of hs hit) (isList_of ho) (by rw [Array.getElem?_eq_none]; rw [size_of e]; omega) (fun h' hx => ⟨_, hs.drop hit (fun b o q z => hx b o q z), h _ rfl⟩)
  keep := fun {σ it i x} h hi => by rw [upd_ne (fun q => by rw [q, hi] at h; cases h)]; exact h
  ext := fun {C σ σ'} hk hx h => hx _ _ _ h hk
  own := fun h q => own_plain (by decide) h q
theorem IterOf.tuple {l : Addr} {vs : List AV} (hh : A.handled = none) : IterOf c A vs k (fun σ => σ l = some (k, .tuple vs)) (iterCell "tuple_iterator" l) where
  item := fun {it i v fs σ g Q E} hit hl hv h s hs => by
    obtain ⟨us, n, ho, e⟩ := own_tuple hs hl
    obtain ⟨u, hu, eu⟩ := get_of e hv
    refine wpAny_pyNext_tuple_item (tupleIter_of hs hit) (isTuple_of ho) hu (fun h' hi hsb => ?_)
    obtain ⟨o', ho', hc', hd'⟩ := hi
    exact ⟨_, hs.put hit (fun b o q z => (hsb.2 b q).trans z) ho' (cl' := iterCell "tuple_iterator" l (i + 1)) ⟨hc', hd'⟩, h _ _ rfl eu⟩
  fin := fun {it i fs σ g Q E} hit hl hi h s hs => by
    obtain ⟨us, n, ho, e⟩ := own_tuple hs hl
    refine wpAny_pyNext_tuple_end hh (tupleIter_of hs hit) (isTuple_of ho) (by rw [Array.getElem?_eq_none]; rw [size_of e]; omega) (fun h' hx => ⟨_, hs.drop hit (fun b o q z => hx b o q z), h _ rfl⟩)
  keep := fun {σ it i x} h hi => by rw [upd_ne (fun q => by rw [q, hi] at h; cases h)]; exact h
  ext := fun {C σ σ'} hk hx h => hx _ _ _ h hk
  own := fun h q => own_plain (by decide) h q

/-- a for over an iterator that has just been made -/
theorem Wk_loop {L : Addr} {cl : List (Str × Addr)} {ns : List Str} {target : Expr} {it : Addr} {body : List Stmt} {vs : List AV} {src : (Addr → Option (Nat × Cell)) → Prop} {cell : Nat → Cell} {vv₀ : List (Option AV)} {σ₀ σ₁ : Addr → Option (Nat × Cell)} {R : Result → AS → Prop}
    (IO : IterOf c A vs k src cell) (C : List Nat) (h9 : 9 ∉ C) (hk : k ∉ C) (J : Nat → List (Option AV) → (Addr → Option (Nat × Cell)) → Prop)
    (stab : ∀ i vv σ σ', J i vv σ → Ext [9] σ σ' → J i vv σ') (hit : σ₀ it = none) (e₁ : σ₁ = upd σ₀ it (some (9, cell 0))) (hsrc : src σ₁) (hJ : J 0 vv₀ σ₀)
    (turn : ∀ i v vv σ u, J i vv σ → vs[i]? = some v → er u = v → src σ → Ext C σ₀ σ → W c A (assign target env u) (fun _ a₂ => W c A (execs body env) (fun fl a' => match fl with
      | .next | .cont => ∃ vv' σ', a' = ⟨⟨L, cl, ns, vv'⟩ :: fs, σ', g⟩ ∧ Ext C σ σ' ∧ J (i + 1) vv' σ'
      | .brk => R (.ok .next) a'
      | .ret v => R (.ok (.ret v)) a') (Noted c A env fun e a' => R (.error e) a') a₂) (Noted c A env fun e a' => R (.error e) a') ⟨⟨L, cl, ns, vv⟩ :: fs, σ, g⟩)
    (fin : ∀ vv σ, J vs.length vv σ → Ext C σ₀ σ → R (.ok .next) ⟨⟨L, cl, ns, vv⟩ :: fs, σ, g⟩) :
    Wk c A (.forLoop target (.ref it) body [] env) R ⟨⟨L, cl, ns, vv₀⟩ :: fs, σ₁, g⟩ := by
  refine Wk_for (I := fun n a => ∃ i vv σ, a = ⟨⟨L, cl, ns, vv⟩ :: fs, σ, g⟩ ∧ n + i = vs.length ∧ σ it = some (9, cell i) ∧ src σ ∧ J i vv σ ∧ Ext C σ₀ σ) (fun n a hI => ?_) vs.length
    ⟨0, vv₀, σ₁, rfl, rfl, by rw [e₁]; simp, hsrc, stab _ _ _ _ hJ (by rw [e₁]; exact Ext.upd_new hit), by rw [e₁]; exact Ext.upd_new hit⟩
  obtain ⟨i, vv, σ, rfl, hn, hc, hs, hj, hx⟩ := hI
  have off : ∀ x, Ext C σ₀ (upd σ it x) := fun x y k' cl' q1 q2 => by
    rw [upd_ne (fun z => by rw [z, hit] at q1; cases q1)]; exact hx y k' cl' q1 q2
  have off9 : ∀ x, Ext [9] σ (upd σ it x) := fun x => Ext.upd_own hc (by simp)
  cases n with
  | zero =>
    refine IO.fin hc hs (by omega) (fun σ' e' => ?_)
    subst e'
    refine W_nil ?_
    have : i = vs.length := by omega
    subst this
    exact fin vv _ (stab _ _ _ _ hj (off9 _)) (off _)
  | succ n =>
    have hi : i < vs.length := by omega
    refine IO.item hc hs (v := vs[i]) (by simp [hi]) (fun σ' u e' eu => ?_)
    · subst e'
      refine IO.own (i := i + 1) (by simp) ?_
      refine W_mono (turn i vs[i] vv _ u (stab _ _ _ _ hj (off9 _)) (by simp [hi]) eu (IO.keep hs hc) (off _)) (fun _ a₂ q => ?_) fun _ _ x => x
      refine W_mono q (fun fl a' q => ?_) fun _ _ x => x
      have go : (∃ vv' σ', a' = ⟨⟨L, cl, ns, vv'⟩ :: fs, σ', g⟩ ∧ Ext C (upd σ it (some (9, cell (i + 1)))) σ' ∧ J (i + 1) vv' σ') → ∃ m, m < n + 1 ∧ ∃ i vv σ, a' = ⟨⟨L, cl, ns, vv⟩ :: fs, σ, g⟩ ∧ m + i = vs.length ∧ σ it = some (9, cell i) ∧ src σ ∧ J i vv σ ∧ Ext C σ₀ σ := by
        rintro ⟨vv', σ', rfl, q1, q2⟩
        exact ⟨n, by omega, i + 1, vv', σ', rfl, by omega, q1 it 9 _ (by simp) h9, IO.ext hk q1 (IO.keep hs hc), q2, (off _).trans q1⟩
      cases fl with
      | next => exact go q
      | cont => exact go q
      | brk => exact q
      | ret v => exact q
end
end Mine.Internal

namespace Mine.Internal
open PySem PySem.W PyProof.Rows PySem.Calls PySem.F PySem.AutoSeq1 PySem.MeetsSeq PySem.MeetsSeq3 PySem.SeqAt

section
variable {c : Cx} {A : Around} {E : Value → AS → Prop} {a : AS} {env : Env} {fs : List Frm} {σ : Addr → Option (Nat × Cell)} {g : Array GenState} {k : Nat}

theorem W_Call_method {o : Expr} {name : Str} {apos pos : Pos} {args : List Expr} {Q : Value → AS → Prop}
    (h : W c A (eval o env) (fun ov a₁ => ∀ pl, W c A (getMethod ov name pl) (fun fx a₂ => W c A (callWith pos fx.1 fx.2 (backTo pos (starEach args env)) []) Q E a₂) E a₁) E a)
    (hb : attributeBase o name env (eval o env) = eval o env := by with_unfolding_all rfl) (hfew : methodCallForm (args.length + 0) (backTo pos (starEach args env)) [] = true := by with_unfolding_all rfl) (hline : (apos.endLine == pos.line) = true := by with_unfolding_all rfl) :
    W c A (eval (.Call (.Attribute o name apos) args [] pos) env) Q E a := by
  show W c A (attributeBase o name env (eval o env) >>= _) Q E a
  rw [hb]
  refine W_bind (W_mono h (fun ov a₁ q => W_bind (W_standAt ?_)) fun _ _ x => x)
  show W c A (methodCall o name apos pos env ov (args.length + 0) (backTo pos (starEach args env)) []) Q E a₁
  unfold methodCall
  rw [hfew]
  refine W_bind (W_holding ?_)
  show W c A (getMethod ov name _) _ E a₁
  refine W_mono (q _) (fun fx a₂ q => ?_) fun _ _ x => x
  have : methodCallPos true o env apos pos = pure pos := by
    unfold methodCallPos; rw [hline]; rfl
  obtain ⟨f, first⟩ := fx
  show W c A (methodCallPos true o env apos pos >>= _) Q E a₂
  rw [this]
  exact W_bind (W_pure q)

/-- the road with a star: the attribute first -/
theorem W_Call_methodS {o : Expr} {name : Str} {apos pos : Pos} {args : List Expr} {Q : Value → AS → Prop}
    (h : W c A (eval o env) (fun ov a₁ => W c A (getAttr ov name true) (fun f a₂ => W c A (callWith pos f [] (backTo pos (starEach args env)) []) Q E a₂) E a₁) E a)
    (hb : attributeBase o name env (eval o env) = eval o env := by with_unfolding_all rfl) (hfew : methodCallForm (args.length + 0) (backTo pos (starEach args env)) [] = false := by with_unfolding_all rfl) :
    W c A (eval (.Call (.Attribute o name apos) args [] pos) env) Q E a := by
  show W c A (attributeBase o name env (eval o env) >>= _) Q E a
  rw [hb]
  refine W_bind (W_mono h (fun ov a₁ q => W_bind (W_standAt ?_)) fun _ _ x => x)
  show W c A (methodCall o name apos pos env ov (args.length + 0) (backTo pos (starEach args env)) []) Q E a₁
  unfold methodCall
  rw [hfew]
  refine W_bind (W_holding (W_bind ?_))
  refine W_mono q (fun f a₂ q => W_pure ?_) fun _ _ x => x
  exact W_bind (W_pure q)

theorem W_Subscript {value slice : Expr} {pos : Pos} {Q : Value → AS → Prop}
    (h : W c A (eval value env) (fun o a₁ => W c A (eval slice env) (fun i a₂ => (∀ s, St c a₂ s → Looks (model c.prog c.w) s.heap (getitemInPython o) false) ∧ W c A (getItem o i) Q E a₂) E a₁) E a)
    : W c A (eval (.Subscript value slice pos) env) Q E a := by
  show W c A (eval value env >>= _) Q E a
  refine W_bind (W_mono h (fun o a₁ q => W_bind (W_holding (W_mono q (fun i a₂ q => W_bind (W_standAt ?_)) fun _ _ x => x))) fun _ _ x => x)
  intro s hs
  refine wpAny_bind ((q.1 s hs).here ?_)
  have key : wpAny (model c.prog c.w) A (getItem o i) (fun r s' => wpAny (model c.prog c.w) A (do letTemporaryGo value o r; pure r) (fun v s' => ∃ a', St c a' s' ∧ Q v a') (fun e s' => ∃ a', St c a' s' ∧ E e a') s') (fun e s' => ∃ a', St c a' s' ∧ E e a') s :=
    wpAny_mono (q.2 s hs) (fun r s' x => wpAny_bind (wpAny_letTemporaryGo (wpAny_pure x))) fun _ _ x => x
  have : ∀ vs, wpAny (model c.prog c.w) A (operate vs (getItem o i)) (fun r s' => wpAny (model c.prog c.w) A (do letTemporaryGo value o r; pure r) (fun v s' => ∃ a', St c a' s' ∧ Q v a') (fun e s' => ∃ a', St c a' s' ∧ E e a') s') (fun e s' => ∃ a', St c a' s' ∧ E e a') s := fun vs => wpAny_operate' key
  refine wpAny_bind ?_
  unfold subscripted
  split <;> first | exact this _ | (rename_i h1; exact absurd h1 (by simp))

theorem noGet_list {l : Addr} {vs : List AV} (hl : a.σ l = some (k, .list vs)) : ∀ s, St c a s → Looks (model c.prog c.w) s.heap (getitemInPython (.ref l)) false := fun s hs => by
  obtain ⟨us, n, ho, e⟩ := own_list hs hl
  intro A Q E s' kk q
  unfold getitemInPython specialOf
  refine wpAny_bind (wpAny_bind (wpAny_typeOf ⟨_, kk _ _ ho, rfl⟩ ?_))
  rw [PySem.F.slot_list_getitem.lookup]
  exact wpAny_pure (wpAny_pure q)
theorem noGet_dict {l : Addr} {kvs : List (AV × AV)} {ep : Nat} (hl : a.σ l = some (k, .dict kvs ep)) : ∀ s, St c a s → Looks (model c.prog c.w) s.heap (getitemInPython (.ref l)) false := fun s hs => by
  obtain ⟨⟨o, ho, ex, _⟩, _⟩ := hs.own l k _ hl
  intro A Q E s' kk q
  unfold getitemInPython specialOf
  refine wpAny_bind (wpAny_bind (wpAny_typeOf ⟨_, kk _ _ ho, ex.1⟩ ?_))
  rw [PySem.F.slot_dict_getitem.lookup]
  exact wpAny_pure (wpAny_pure q)

theorem W_AugAttr {o : Expr} {attr : Str} {tpos : Pos} {op : Operator} {value : Expr} {pos : Pos} {Q : Flow → AS → Prop}
    (h : W c A (eval o env) (fun ov a₁ => W c A (getAttr ov attr true) (fun old a₂ => W c A (eval value env) (fun v a₃ => W c A (inplaceOp op old v) (fun new a₄ => W c A (setAttr ov attr new) (fun _ => Q .next) E a₄) E a₃) E a₂) E a₁) E a) :
    W c A (exec (.AugAssign (.Attribute o attr tpos) op value pos) env) Q E a := by
  show W c A (standAt pos >>= _) Q E a
  refine W_bind (W_standAt (W_bind (W_mono h (fun ov a₁ q => W_bind (W_holding (W_bind (W_standAt (W_bind (W_mono q (fun old a₂ q => W_bind (W_holding (W_mono q (fun v a₃ q => W_bind (W_standAt ?_)) fun _ _ x => x))) fun _ _ x => x)))))) fun _ _ x => x)))
  intro s hs
  refine wpAny_operate' (wpAny_mono (q s hs) (fun new s₄ ⟨a₄, h4, q⟩ => ⟨a₄, h4, ?_⟩) fun _ _ x => x)
  refine W_bind (W_standAt (W_bind (W_holding (W_mono q (fun _ a₅ q => ?_) fun _ _ x => x))))
  refine W_bind ?_
  intro s hs Γ p' hΓ
  rw [Sem.wp_release]
  exact ⟨a₅, hs, W_pure q⟩

/-! environments -/
noncomputable def codeOf (x : Str) : Nat := x.cps.foldl (fun n c => n * 2097152 + c + 1) 0

theorem nodup_of_codes : ∀ {l : List Str}, (l.map codeOf).Nodup → l.Nodup
  | [], _ => .nil
  | x :: l, h => by
    simp only [List.map_cons, List.nodup_cons] at h ⊢
    exact ⟨fun q => h.1 (List.mem_map_of_mem q), nodup_of_codes h.2⟩

theorem lookup_nodup {α : Type} : ∀ {l : List (Str × α)}, (l.map (·.1)).Nodup → ∀ {p : Str × α}, p ∈ l → l.lookup p.1 = some p.2
  | [], _, _, h => by cases h
  | q :: l, hd, p, h => by
    simp only [List.map_cons, List.nodup_cons] at hd
    rw [List.lookup_cons]
    rcases List.mem_cons.mp h with e | h
    · subst e; simp
    · have : (p.1 == q.1) = false := beq_eq_false_iff_ne.mpr fun e => hd.1 (e ▸ List.mem_map_of_mem h)
      simp only [this]; exact lookup_nodup hd.2 h

theorem mkEnv {fd : FuncData} {L f : Addr} {ns : List Str} {gs : List (Str × Value)} (hn : fd.scope.names = ns.map (·, NameKind.local) ++ gs.map (fun p => (p.1, NameKind.globalImplicit))) (hk : fd.scope.kind = .function)
    (hg : fd.globals = mainGlobals) (hb : fd.builtins = builtinsNs) (hnd : ((("__debug__" : Str) :: (ns ++ gs.map (·.1))).map codeOf).Nodup) (hglob : ∀ p ∈ gs, Glob c p.1 p.2) : EnvOk c (callEnv fd L f) L [] ns gs := by
  have h0 := nodup_of_codes hnd
  have h1 := (List.nodup_cons.mp h0).2
  have hkeys : (fd.scope.names.map (·.1)).Nodup := by
    rw [hn, List.map_append, List.map_map, List.map_map]
    simpa [Function.comp_def] using h1
  have look : ∀ {p}, p ∈ fd.scope.names → (callEnv fd L f).kindOf p.1 = some p.2 := fun hp => lookup_nodup hkeys hp
  have nodbg : ∀ x ∈ ns ++ gs.map (·.1), (x == ("__debug__" : Str)) = false := fun x hx => beq_eq_false_iff_ne.mpr fun e => (List.nodup_cons.mp h0).1 (e ▸ hx)
  refine ⟨hk, rfl, (List.nodup_append.mp h1).1, .nil, fun x hx => ⟨nodbg x (List.mem_append_left _ hx), .inl ⟨rfl, ?_⟩⟩, fun p hp => ⟨nodbg _ (List.mem_append_right _ (List.mem_map_of_mem hp)), ?_, hglob p hp⟩, hg, hb⟩
  · exact look (p := (x, .local)) (by rw [hn]; exact List.mem_append_left _ (List.mem_map_of_mem hx))
  · exact look (p := (p.1, .globalImplicit)) (by rw [hn]; exact List.mem_append_right _ (List.mem_map.mpr ⟨p, hp, rfl⟩))

theorem W_ExprE {e : Expr} {pos : Pos} {L : Addr} {cl ns gs} {Q : Flow → AS → Prop} (he : EnvOk c env L cl ns gs) (h : W c A (eval e env) (fun _ a' => Q .next a') E a)
    (hs : swapsWith e none pos.line env = pure false := by with_unfolding_all rfl) : W c A (exec (.Expr e pos) env) Q E a :=
  W_Expr h (by unfold interactive; rw [he.kind]; rfl) hs

noncomputable def fdOf (K : Frag) (a : Addr) : FuncData := match K.lookup a with
  | some ⟨_, _, .func fd, _⟩ => fd
  | _ => default
noncomputable def isFd (K : Frag) (a : Addr) : Bool := match K.lookup a with
  | some ⟨_, _, .func _, _⟩ => true
  | _ => false
theorem fdOf_ex {K : Frag} {a : Addr} (h : isFd K a = true) : ∃ o, K.lookup a = some o ∧ o.data = .func (fdOf K a) := by
  unfold isFd at h
  unfold fdOf
  split at h
  · rename_i q; exact ⟨_, q, rfl⟩
  · cases h
end
end Mine.Internal

namespace Mine.Internal
open PySem PySem.W PyProof.Rows PySem.Calls PySem.F PySem.AutoSeq1 PySem.MeetsSeq PySem.MeetsSeq3 PySem.SeqAt

theorem ite_t {p : Prop} [Decidable p] {a b : Prop} (hp : p) (h : a) : if p then a else b := by rw [if_pos hp]; exact h
theorem ite_f {p : Prop} [Decidable p] {a b : Prop} (hp : ¬ p) (h : b) : if p then a else b := by rw [if_neg hp]; exact h
theorem Pop.mk {fs : List Frm} {P : AS → Prop} {f : Frm} {σ g} (h : P ⟨fs, σ, g⟩) : Pop fs P ⟨f :: fs, σ, g⟩ := ⟨f, rfl, h⟩

section
variable {c : Cx} {A : Around} {E : Value → AS → Prop} {a : AS} {env : Env} {fs : List Frm} {σ : Addr → Option (Nat × Cell)} {g : Array GenState} {k : Nat}

theorem meets_bool_new_list (l : Addr) (items : Array Value) : Meets (Builtin.«bool.__new__» ⟨[.type "bool", .ref l], []⟩) (fun _ R s => s.heap.IsList l items ∧ (items.size : Int) < 2 ^ 63 ∧ ∀ tk, R (.ok (.ret (.bool (!items.isEmpty)))) { s with toks := tk }) := by
  refine Meets.of_wp fun prog w A R s h => ?_
  obtain ⟨hp, g, d, tk, os⟩ := s
  obtain ⟨h1, h2, h3⟩ := h
  have f1 := F.conv_sub_bool
  repeat (any_goals (first | assumption | (with_reducible refine wpAny_truthy_list h1 h2 ?_) | wp_step))
  all_goals first | exact ⟨_, rfl, h3 _⟩ | skip

theorem W_bool_list {l : Addr} {vs : List AV} {Q : Value → AS → Prop} (hl : a.σ l = some (k, .list vs)) (hz : vs.length ≤ 1000000) (h : Q (.bool (!vs.isEmpty)) a) : W c A (call (.type "bool") [.ref l]) Q E a := fun s hs => by
  obtain ⟨us, n, ho, e⟩ := own_list hs hl
  have hsz := size_of e
  have : us.isEmpty = vs.isEmpty := by
    rw [← e]; cases us with | mk l => cases l <;> simp
  refine call_bool_1 (meets_bool_new_list l us) ⟨isList_of ho, by rw [hsz]; exact fits_big hz, fun tk => ⟨rfl, a, hs.of_eq, ?_⟩⟩
  rw [this]; exact h

theorem backTo_plain {pos : Pos} {x : Sem Value} {l : List (Bool × Sem Value)} : backTo pos ((false, x) :: l) = (false, x) :: backTo pos l := rfl
theorem W_args {f : Value} {e : Expr} {rest : List Expr} {pos : Pos} {Q : Args → AS → Prop} (h : W c A (spliced (backTo pos (starEach (e :: rest) env))) (fun vs a₁ => Q ⟨vs, []⟩ a₁) E a)
    (hst : starEach (e :: rest) env = (false, eval e env) :: starEach rest env := by with_unfolding_all rfl) : W c A (evalArgs f true (backTo pos (starEach (e :: rest) env)) []) Q E a := by
  rw [hst, backTo_plain] at h ⊢
  exact W_evalArgs h
theorem W_args_nil {f : Value} {pos : Pos} {Q : Args → AS → Prop} (h : Q ⟨[], []⟩ a) : W c A (evalArgs f true (backTo pos (starEach [] env)) []) Q E a := W_evalArgs_nil h
theorem W_spl {e : Expr} {rest : List Expr} {pos : Pos} {Q : List Value → AS → Prop} (h : W c A (eval e env) (fun v a₁ => W c A (spliced (backTo pos (starEach rest env))) (fun vs a₂ => Q (v :: vs) a₂) E a₁) E a)
    (hst : starEach (e :: rest) env = (false, eval e env) :: starEach rest env := by with_unfolding_all rfl) : W c A (spliced (backTo pos (starEach (e :: rest) env))) Q E a := by
  rw [hst, backTo_plain]
  exact W_spliced_cons h
theorem W_spl_nil {pos : Pos} {Q : List Value → AS → Prop} (h : Q [] a) : W c A (spliced (backTo pos (starEach [] env))) Q E a := W_spliced_nil h

/-- a starred list or tuple -/
noncomputable def Starry (c : Cx) (a : AS) (l : Addr) (vs : List AV) : Prop := ∃ k, a.σ l = some (k, .list vs) ∨ a.σ l = some (k, .tuple vs)
theorem starry_obj {l : Addr} {vs : List AV} {s : Shared} (hs : St c a s) (h : Starry c a l vs) : ∃ T us n o, (T = "list" ∨ T = "tuple") ∧ s.heap.get? l = some o ∧ o.cls = .type T ∧ o.data = .seq us n ∧ us.toList.map er = vs := by
  obtain ⟨k, h | h⟩ := h
  · obtain ⟨us, n, ho, e⟩ := own_list hs h
    exact ⟨_, us, n, _, .inl rfl, ho, rfl, rfl, e⟩
  · obtain ⟨us, n, ho, e⟩ := own_tuple hs h
    exact ⟨_, us, n, _, .inr rfl, ho, rfl, rfl, e⟩
theorem W_starOf {l : Addr} {vs : List AV} {Q : List Value → Shared → Prop} {s : Shared} (hs : St c a s) (h : Starry c a l vs) (hz : vs.length ≤ 1000000) (q : ∀ us s', us.map er = vs → St c a s' → Q us s') :
    StarOf (model c.prog c.w) A (fun e s' => ∃ a', St c a' s' ∧ E e a') (.ref l) Q s := by
  obtain ⟨T, us, n, o, hT, ho, hc, hd, e⟩ := starry_obj hs h
  have hit : Looks (model c.prog c.w) s.heap (notIterableAtAll (.ref l)) false := by
    intro A Q E s' kk q
    unfold notIterableAtAll specialOf
    refine wpAny_bind (wpAny_bind (wpAny_typeOf ⟨_, kk _ _ ho, hc⟩ ?_))
    rcases hT with rfl | rfl
    · rw [PySem.F.slot_list_iter.lookup]; exact wpAny_pure (wpAny_pure q)
    · rw [PySem.F.slot_tuple_iter.lookup]; exact wpAny_pure (wpAny_pure q)
  refine hit.here ⟨rfl, ?_⟩
  exact wpAny_collect_seq l hT ho hc hd (fun h' k' => q _ _ e (hs.grow k')) (by rw [size_of e]; exact sizeLine_big hz)
theorem W_spl_star {e : Expr} {p : Pos} {rest : List Expr} {pos : Pos} {Q : List Value → AS → Prop} (h : W c A (eval e env) (fun v a₁ => ∃ l vs, v = .ref l ∧ Starry c a₁ l vs ∧ vs.length ≤ 1000000 ∧ ∀ us, us.map er = vs → W c A (spliced (backTo pos (starEach rest env))) (fun ws a₂ => Q (us ++ ws) a₂) E a₁) E a) :
    W c A (spliced (backTo pos (starEach (.Starred e p :: rest) env))) Q E a := by
  intro s hs
  refine ks_spliced (wpAny_mono (h s hs) (fun v s₁ ⟨a₁, h1, l, vs, e1, e2, e3, e4⟩ => ?_) fun _ _ x => x)
  subst e1
  exact W_starOf h1 e2 e3 fun us s' e h' => e4 us e s' h'
theorem W_args_star {f : Value} {e : Expr} {p : Pos} {pos : Pos} {Q : Args → AS → Prop} (h : W c A (eval e env) (fun v a₁ => ∃ l vs, v = .ref l ∧ Starry c a₁ l vs ∧ vs.length ≤ 1000000 ∧ ∀ us, us.map er = vs → Q ⟨us, []⟩ a₁) E a) :
    W c A (evalArgs f true (backTo pos (starEach [.Starred e p] env)) []) Q E a := by
  intro s hs
  refine ks_lone (wpAny_mono (h s hs) (fun v s₁ ⟨a₁, h1, l, vs, e1, e2, e3, e4⟩ => ?_) fun _ _ x => x)
  subst e1
  exact W_starOf h1 e2 e3 fun us s' e h' => ⟨_, h', e4 us e⟩

noncomputable def bodyOf (fd : FuncData) : List Stmt := match fd.body with
  | .stmts b => b
  | _ => []

structure FnOk (K : Frag) (f : Addr) (ps rs : List Str) (gs : List Str) : Prop where
  fn : isFd K f = true
  code : codeIn K (fdOf K f).code (fdOf K f).qualname = true
  names : (fdOf K f).scope.names = (ps ++ rs).map (·, NameKind.local) ++ gs.map (·, NameKind.globalImplicit)
  kind : (fdOf K f).scope.kind = .function
  co : (fdOf K f).scope.isCoroutine = false
  gen : (fdOf K f).scope.isGenerator = false
  body : (fdOf K f).body = .stmts (bodyOf (fdOf K f))
  gl : (fdOf K f).globals = mainGlobals
  bl : (fdOf K f).builtins = builtinsNs
  nd : ((("__debug__" : Str) :: ((ps ++ rs) ++ gs)).map codeOf).Nodup

theorem Wk_call_KD {K : Frag} {f : Addr} {ps rs ns : List Str} {gs : List (Str × Value)} {args vals : List Value} {us : List AV} {vs : List (Option AV)} {d : Nat} {R : Result → AS → Prop}
    (hK : c.K = K) (hf : FnOk K f ps rs (gs.map (·.1))) (hns : ns = ps ++ rs) (hbind : ∀ s : Shared, K.In s.heap → BindsTo s (fdOf K f) ⟨args, []⟩ (ps.zip vals)) (hu : vals.map er = us) (hi : Init ps us rs vs) (hglob : ∀ p ∈ gs, Glob c p.1 p.2) (hA : AOk A fs (d + 1))
    (h : ∀ L env, env = callEnv (fdOf K f) L f → σ L = none → AOk (A.deeper env) (⟨L, [], ns, vs⟩ :: fs) d → EnvOk c env L [] ns gs →
      W c (A.deeper env) (execs (bodyOf (fdOf K f)) env) (fun fl a' => Pop fs (R (.ok (.ret (retOf fl)))) a')
        (fun e a' => W c (A.deeper env) (leaving env e) (fun _ a'' => Pop fs (R (.error e)) a'') (fun _ _ => False) a') ⟨⟨L, [], ns, vs⟩ :: fs, σ, g⟩) :
    Wk c A (.call (.ref f) ⟨args, []⟩) R ⟨fs, σ, g⟩ := by
  subst hK hns
  obtain ⟨o, ho, hd⟩ := fdOf_ex hf.fn
  have hnm := hf.names
  rw [List.map_map] at hnm
  have hnd := nodup_of_codes hf.nd
  have hnd2 := (List.nodup_cons.mp hnd).2
  refine Wk_call_fn ho hd hf.code hf.body hbind hu hi (List.nodup_append.mp hnd2).1 (fun x hx => ?_) (fun x hx => ?_) hA (fun L hL hA' => h L _ rfl hL hA' (mkEnv hnm hf.kind hf.gl hf.bl hf.nd hglob)) hf.co hf.gen hf.kind
  · rw [hnm] at hx
    rcases List.mem_append.mp hx with hx | hx
    · obtain ⟨y, _, rfl⟩ := List.mem_map.mp hx; intro q; cases q
    · obtain ⟨y, _, rfl⟩ := List.mem_map.mp hx; intro q; cases q
  · have hkeys : ((fdOf c.K f).scope.names.map (·.1)).Nodup := by
      rw [hnm, List.map_append, List.map_map, List.map_map]
      simpa [Function.comp_def] using hnd2
    exact lookup_nodup hkeys (p := (x, .local)) (by rw [hnm]; exact List.mem_append_left _ (List.mem_map.mpr ⟨x, List.mem_append_left _ hx, rfl⟩))

end
end Mine.Internal

namespace Mine.Internal
open PySem PySem.W PyProof.Rows PySem.Calls PySem.F

noncomputable def tbv : Option Addr → Value
  | none => .none
  | some T => .ref T
noncomputable def excCell (cls : Value) (t : Addr) (tb : Option Addr) : Cell := .raw fun o => o.cls = cls ∧ o.dict = none ∧ ∃ vs : Array Value, o.data = .fields vs ∧ vs[0]? = some (.ref t) ∧ vs[1]? = some (tbv tb) ∧ vs.size = 6
noncomputable def tbCell : Cell := .raw fun o => ∃ ts : Array Value, o.data = .fields ts ∧ 3 < ts.size

structure Exc (σ : Addr → Option (Nat × Cell)) (e t : Addr) (cls : Value) (args : List AV) (tb : Option Addr) : Prop where
  he : σ e = some (8, excCell cls t tb)
  ht : σ t = some (0, .tuple args)
  htb : ∀ T, tb = some T → σ T = some (8, tbCell) ∧ T ≠ e

section
variable {c : Cx} {A : Around} {E : Value → AS → Prop} {a : AS} {env : Env} {fs : List Frm} {σ : Addr → Option (Nat × Cell)} {g : Array GenState} {k : Nat} {outer : List Env}

theorem AOk.head {d : Nat} (h : AOk A fs d) (env : Env) : ∃ outer, (A.deeper env).frames = some (env :: outer) := by
  obtain ⟨envs, e, _⟩ := h.link
  exact ⟨envs, by simp [Around.deeper, e]⟩

theorem link_frames (hl : Link A fs) (hF : A.frames = some (env :: outer)) {s : Shared} (hs : St c ⟨fs, σ, g⟩ s) : s.heap.FunFrames c.base (env :: outer) ∧ ∀ b ∈ (env :: outer).filterMap (·.frame), ∃ f ∈ fs, b = f.L := by
  obtain ⟨envs, e, r⟩ := hl
  rw [hF] at e; cases e
  constructor
  · have : ∀ l : List Env, (∀ e ∈ l, e.scope.kind = .function ∧ ∃ f ∈ fs, e.frame = some f.L) → s.heap.FunFrames c.base l := by
      intro l
      induction l with
      | nil => intro _; trivial
      | cons en l ih =>
        intro h
        obtain ⟨hk, f, hf, q⟩ := h en (List.mem_cons_self ..)
        obtain ⟨m, ⟨o, es, ep, ho, hd, _⟩, _⟩ := hs.fr f hf
        refine ⟨by rw [hk]; decide, ⟨f.L, o, q, hs.nb f hf f.L (by simp [Frm.as]), ho, fun vs z => by rw [hd] at z; cases z⟩, ih fun e he => h e (List.mem_cons_of_mem _ he)⟩
    exact this _ r
  · intro b hb
    obtain ⟨en, hen, q⟩ := List.mem_filterMap.mp hb
    obtain ⟨_, f, hf, q'⟩ := r en hen
    rw [q'] at q; cases q
    exact ⟨f, hf, rfl⟩

theorem St.slots {s : Shared} {S : List Addr} {h' : Heap} (hs : St c ⟨fs, σ, g⟩ s) (hS : ∀ b ∈ S, ∃ f ∈ fs, b = f.L) (x : Heap.SlotsOnly S s.heap h') : St c ⟨fs, σ, g⟩ { s with heap := h' } := by
  have inF : ∀ b ∈ S, b ∈ fs.flatMap Frm.as := fun b hb => by
    obtain ⟨f, hf, rfl⟩ := hS b hb
    exact List.mem_flatMap.mpr ⟨f, hf, by simp [Frm.as]⟩
  have nb : ∀ b ∈ S, c.base.get? b = none := fun b hb => by
    obtain ⟨f, hf, rfl⟩ := hS b hb
    exact hs.nb f hf _ (by simp [Frm.as])
  refine ⟨fun b o e => (x.2.1 b fun q => by rw [nb b q] at e; cases e).trans (hs.keep b o e), fun f hf => ?_, hs.nb, hs.nd, fun y k cl e => ?_, hs.os, hs.gens⟩
  · obtain ⟨m, ⟨o, es, ep, ho, hd, r⟩, h2, h3⟩ := hs.fr f hf
    obtain ⟨sl, hsl⟩ := x.2.2 _ _ ho
    refine ⟨m, ⟨_, es, ep, hsl, hd, r⟩, h2, fun p hp => ?_⟩
    obtain ⟨ov, ⟨oc, hoc, hod⟩, eo⟩ := h3 p hp
    obtain ⟨sl', hsl'⟩ := x.2.2 _ _ hoc
    exact ⟨ov, ⟨_, hsl', hod⟩, eo⟩
  · obtain ⟨⟨o, ho, ok⟩, r1, r2⟩ := hs.own y k cl e
    exact ⟨⟨o, (x.2.1 y fun q => r2 (inF y q)).trans ho, ok⟩, r1, r2⟩

theorem exc_get {s : Shared} {e t : Addr} {cls : Value} {args : List AV} {tb : Option Addr} (hs : St c a s) (hX : Exc a.σ e t cls args tb) :
    ∃ o vs, s.heap.get? e = some o ∧ o.cls = cls ∧ o.dict = none ∧ o.data = .fields vs ∧ vs[0]? = some (.ref t) ∧ vs[1]? = some (tbv tb) ∧ vs.size = 6 := by
  obtain ⟨⟨o, ho, h1, h2, vs, h3⟩, _⟩ := hs.own e 8 _ hX.he
  exact ⟨o, vs, ho, h1, h2, h3⟩
theorem tb_get {s : Shared} {T : Addr} (hs : St c a s) (hX : a.σ T = some (8, tbCell)) : ∃ o ts, s.heap.get? T = some o ∧ o.data = .fields ts ∧ 3 < ts.size := by
  obtain ⟨⟨o, ho, ts, h1, h2⟩, _⟩ := hs.own T 8 _ hX
  exact ⟨o, ts, ho, h1, h2⟩

/-- setting a field of a traceback entry -/
theorem St.tbset {s : Shared} {T : Addr} {i : Nat} {v : Value} (hs : St c ⟨fs, σ, g⟩ s) (hT : σ T = some (8, tbCell)) : St c ⟨fs, σ, g⟩ { s with heap := s.heap.update T (Obj.mapFields (·.setIfInBounds i v)) } := by
  obtain ⟨o, ts, ho, hd, hsz⟩ := tb_get hs hT
  have hd' := Obj.data_mapFields hd (·.setIfInBounds i v)
  have := hs.put (k' := 8) (cl' := tbCell) hT (h' := s.heap.update T (Obj.mapFields (·.setIfInBounds i v))) upd_keeps (Heap.get?_update_self _ ho (Obj.isFreed_of_fields hd')) ⟨_, hd', by simpa using hsz⟩
  have e : upd σ T (some (8, tbCell)) = σ := by
    funext y
    by_cases q : y = T
    · subst q; rw [upd_self, hT]
    · rw [upd_ne q]
  rw [e] at this
  exact this

theorem W_setFlight {e t : Addr} {cls : Value} {args : List AV} {tb : Option Addr} {fr : Option Addr} {Q : Unit → AS → Prop} (hX : Exc σ e t cls args tb) (h : Q () ⟨fs, σ, g⟩) : W c A (setFlight (.ref e) fr) Q E ⟨fs, σ, g⟩ := by
  intro s hs
  obtain ⟨o, vs, ho, _, _, hd, _, h1, hsz⟩ := exc_get hs hX
  unfold setFlight
  refine wpAny_bind (wpAny_field ho hd h1 ?_)
  cases tb with
  | none =>
    rw [if_neg (by simp [tbv])]
    exact wpAny_pure ⟨_, hs, h⟩
  | some T =>
    rw [if_pos (by simp [tbv])]
    obtain ⟨oT, ts, hoT, hdT, hszT⟩ := tb_get hs (hX.htb T rfl).1
    exact wpAny_setField hoT hdT hszT ⟨_, hs.tbset (hX.htb T rfl).1, h⟩

theorem W_noteFrame {e t : Addr} {cls : Value} {args : List AV} {tb : Option Addr} {L : Addr} {Q : Unit → AS → Prop} (hl : Link A fs) (hF : A.frames = some (env :: outer)) (hf : env.frame = some L) (hX : Exc σ e t cls args tb)
    (h : ∀ σ' T, Ext [8] σ σ' → Exc σ' e t cls args (some T) → Q () ⟨fs, σ', g⟩) : W c A (noteFrame (.ref e) env) Q E ⟨fs, σ, g⟩ := by
  intro s hs
  obtain ⟨o, vs, ho, hc, hdi, hd, h0, h1, hsz⟩ := exc_get hs hX
  -- the second half: a new entry
  have half : ∀ s₁ : Shared, St c ⟨fs, σ, g⟩ s₁ → ∀ hadNext, wpAny (model c.prog c.w) A (do
      let fr ← frameOf env
      let pl ← entryPlaceOf L hadNext
      let b ← EntryCells.newEntry (tbv tb) fr .none (rawInt L) .none pl
      setField (.ref e) 1 b) (fun v s' => ∃ a', St c a' s' ∧ Q v a') (fun e s' => ∃ a', St c a' s' ∧ E e a') s₁ := by
    intro s₁ hs₁ hadNext
    obtain ⟨FF, inF⟩ := link_frames hl hF hs₁
    refine wpAny_bind (wpAny_frameOf_fun hF FF hf fun h₂ hsl => ?_)
    have hs₂ := hs₁.slots inF hsl
    refine wpAny_bind (wpAny_entryPlaceOf fun pl hpl => ?_)
    unfold EntryCells.newEntry newFields
    refine wpAny_bind (wpAny_newObj_type ?_ (hpl.sizeOk5 _ _ _ _ _))
    have hs₃ := hs₂.alloc (k := 8) (cl := tbCell) (o := { cls := .type "traceback", dict := none, data := .fields ([tbv tb, .ref L, .none, rawInt L, .none] ++ (if pl.isEmpty then List.replicate 6 Value.none else pl)).toArray }) ⟨_, rfl, by simp only [List.size_toArray, List.length_append, List.length_cons, List.length_nil] <;> omega⟩ rfl
    have fr := hs₂.fresh
    dsimp only at hs₃ fr
    have hX' : upd σ h₂.objs.size (some (8, tbCell)) e = some (8, excCell cls t tb) := by
      rw [upd_ne (fun q => by have := hX.he; rw [q, fr.1] at this; cases this)]; exact hX.he
    obtain ⟨⟨o₃, ho₃, hc₃, hdi₃, vs₃, hd₃, h03, h13, hsz₃⟩, _⟩ := hs₃.own e 8 _ hX'
    refine wpAny_setField ho₃ hd₃ (by omega) ?_
    have hd₄ := Obj.data_mapFields hd₃ (·.setIfInBounds 1 (Value.ref h₂.objs.size))
    have hs₄ := hs₃.put (k' := 8) (cl' := excCell cls t (some h₂.objs.size)) hX' (h' := (h₂.push { cls := .type "traceback", dict := none, data := .fields ([tbv tb, .ref L, .none, rawInt L, .none] ++ (if pl.isEmpty then List.replicate 6 Value.none else pl)).toArray }).update e (Obj.mapFields (·.setIfInBounds 1 (Value.ref h₂.objs.size)))) upd_keeps
      (Heap.get?_update_self _ ho₃ (Obj.isFreed_of_fields hd₄)) ⟨(Obj.cls_mapFields ..).trans hc₃, by obtain ⟨_, _, dd, _⟩ := o₃; cases dd <;> exact hdi₃, _, hd₄, by simpa using h03, by simp [tbv, hsz₃], by simpa using hsz₃⟩
    refine ⟨_, hs₄, h _ h₂.objs.size (fun y k' cl' q1 q2 => ?_) ⟨by simp, ?_, fun T q => ?_⟩⟩
    · have n1 : y ≠ e := fun z => by rw [z, hX.he] at q1; cases q1; exact q2 (by simp)
      have n2 : y ≠ h₂.objs.size := fun z => by rw [z, fr.1] at q1; cases q1
      simp only [upd_ne n1, upd_ne n2]; exact q1
    · have n1 : t ≠ e := fun z => by have := hX.ht; rw [z, hX.he] at this; cases this
      have n2 : t ≠ h₂.objs.size := fun z => by have := hX.ht; rw [z, fr.1] at this; cases this
      simp only [upd_ne n1, upd_ne n2]; exact hX.ht
    · cases q
      have n1 : h₂.objs.size ≠ e := fun z => by have := hX.he; rw [← z, fr.1] at this; cases this
      exact ⟨by simp only [upd_ne n1, upd_self], n1⟩
  unfold noteFrame
  rw [hf]
  refine wpAny_bind (wpAny_field ho hd h1 ?_)
  cases tb with
  | none =>
    rw [if_neg (by simp [tbv])]
    exact half s hs _
  | some T =>
    rw [if_pos (by simp [tbv])]
    obtain ⟨oT, ts, hoT, hdT, hszT⟩ := tb_get hs (hX.htb T rfl).1
    refine wpAny_bind (wpAny_field hoT hdT (x := ts[3]) (by simp [hszT]) ?_)
    split
    · exact wpAny_pure ⟨_, hs, h σ T .refl hX⟩
    · refine wpAny_bind (wpAny_setField hoT hdT hszT ?_)
      exact half _ (hs.tbset (hX.htb T rfl).1) _

theorem W_leaving {e t : Addr} {cls : Value} {args : List AV} {tb : Option Addr} {L : Addr} {Q : Unit → AS → Prop} (hl : Link A fs) (hF : A.frames = some (env :: outer)) (hf : env.frame = some L) (hX : Exc σ e t cls args tb)
    (h : ∀ σ' T, Ext [8] σ σ' → Exc σ' e t cls args (some T) → Q () ⟨fs, σ', g⟩) : W c A (leaving env (.ref e)) Q E ⟨fs, σ, g⟩ :=
  W_bind (W_noteFrame hl hF hf hX fun σ' T x1 x2 => W_setFlight x2 (h σ' T x1 x2))

end
end Mine.Internal

namespace Mine.Internal
open PySem PySem.W PyProof.Rows PySem.Calls PySem.F

section
variable {c : Cx} {A : Around} {E : Value → AS → Prop} {a : AS} {env : Env} {fs : List Frm} {σ : Addr → Option (Nat × Cell)} {g : Array GenState} {k : Nat} {outer : List Env}

/-- an object that some step has made is taken over -/
theorem St.adopt {s : Shared} {h' : Heap} {x : Addr} {cl : Cell} {o : Obj} (k : Nat) (hs : St c a s) (hk : ∀ b o, s.heap.get? b = some o → h'.get? b = some o) (hn : s.heap.get? x = none) (ho : h'.get? x = some o) (ok : cl.ok c o) :
    a.σ x = none ∧ St c { a with σ := upd a.σ x (some (k, cl)) } { s with heap := h' } := by
  have h0 : a.σ x = none := by
    cases e : a.σ x with
    | none => rfl
    | some p => obtain ⟨⟨o, ho, _⟩, _⟩ := hs.own x p.1 p.2 e; rw [hn] at ho; cases ho
  have hb : c.base.get? x = none := by
    cases e : c.base.get? x with
    | none => rfl
    | some p => have := hs.keep _ _ e; rw [hn] at this; cases this
  have hf : x ∉ a.fs.flatMap Frm.as := fun hm => by
    obtain ⟨f, hf, hx⟩ := List.mem_flatMap.mp hm
    obtain ⟨m, ⟨o, _, _, ho, _⟩, _, h3⟩ := hs.fr f hf
    simp only [Frm.as, List.mem_cons, List.mem_map] at hx
    rcases hx with e | ⟨p, hp, e⟩
    · rw [← e, hn] at ho; cases ho
    · obtain ⟨ov, ⟨oc, hc, _⟩, _⟩ := h3 p hp
      rw [e, hn] at hc; cases hc
  refine ⟨h0, ⟨fun b o e => hk b o (hs.keep b o e), fun f hf => (hs.fr f hf).keeps fun b _ o e => hk b o e, hs.nb, hs.nd, fun y k' cl' e => ?_, hs.os, hs.gens⟩⟩
  by_cases q : y = x
  · subst q
    simp only [upd_self, Option.some.injEq, Prod.mk.injEq] at e
    obtain ⟨rfl, rfl⟩ := e
    exact ⟨⟨o, ho, ok⟩, hb, hf⟩
  · simp only [upd_ne q] at e
    obtain ⟨⟨o', ho', ok'⟩, r⟩ := hs.own y k' cl' e
    exact ⟨⟨o', hk _ _ ho', ok'⟩, r⟩

theorem made_exc {s : Shared} {h' : Heap} {e : Addr} {cls : Value} {us : List Value} (hs : St c ⟨fs, σ, g⟩ s) (hk : ∀ b o, s.heap.get? b = some o → h'.get? b = some o) (hn : s.heap.get? e = none)
    (ht : ∃ t, h'.get? e = some { cls := cls, data := .fields #[.ref t, .none, .none, .none, .bool false, .none] } ∧ s.heap.get? t = none ∧ h'.get? t = some { cls := .type "tuple", data := .seq us.toArray }) :
    ∃ t σ', σ e = none ∧ Ext [] σ σ' ∧ Exc σ' e t cls (us.map er) none ∧ St c ⟨fs, σ', g⟩ { s with heap := h' } := by
  obtain ⟨t, h1, h2, h3⟩ := ht
  obtain ⟨e1, S1⟩ := hs.adopt (cl := excCell cls t none) 8 hk hn h1 ⟨rfl, rfl, _, rfl, rfl, rfl, rfl⟩
  have hte : t ≠ e := fun q => by rw [q, h1] at h3; cases h3
  have t1 : σ t = none := (hs.adopt (cl := .tuple (us.map er)) 0 hk h2 h3 ⟨_, _, rfl, by simp⟩).1
  have S2 : St c ⟨fs, upd (upd σ e (some (8, excCell cls t none))) t (some (0, .tuple (us.map er))), g⟩ { s with heap := h' } := by
    have S0 := (hs.adopt (cl := .tuple (us.map er)) 0 hk h2 h3 ⟨_, _, rfl, by simp⟩).2
    refine ⟨S1.keep, S1.fr, S1.nb, S1.nd, fun y k' cl' q => ?_, S1.os, S1.gens⟩
    by_cases z : y = t
    · subst z
      exact S0.own y k' cl' (by simpa using q)
    · exact S1.own y k' cl' (by simp only [upd_ne z] at q; exact q)
  refine ⟨t, _, e1, fun y k' cl' q1 _ => ?_, ⟨?_, by simp, fun T q => by cases q⟩, S2⟩
  · have n1 : y ≠ t := fun z => by rw [z, t1] at q1; cases q1
    have n2 : y ≠ e := fun z => by rw [z] at q1; dsimp only at e1; rw [e1] at q1; cases q1
    rw [upd_ne n1, upd_ne n2]; exact q1
  · rw [upd_ne (Ne.symm hte)]; simp

theorem W_RaiseOwn {C N : Addr} {B newId initId : String} {bm bs sub : List Value} {nm q : Str} {hdct ab : Bool} {sn : List Str} {col : Option Bool} {dd : Option Addr} {k0 k1 k2 k3 k5 : Option Value} (F : ExcBaseFacts B newId initId bm) {mN : Str → Option Value} {x : Str} {np cpos pos : Pos} {args : List Expr} {Q : Flow → AS → Prop} (hh : A.handled = none)
    (hC : c.base.get? C = some (excClassObj nm q C N bs bm hdct sn sub ab col dd k0 k1 k2 k3 k5 newId)) (hN : c.base.Ns N mN) (hni : mN "__init__" = none)
    (h : W c A (eval (.Name x np) env) (fun f a₁ => f = .ref C ∧ W c A (evalArgs (.ref C) true (backTo cpos (starEach args env)) []) (fun y a₂ => y.kw = [] ∧ y.pos.length ≤ 1000000 ∧
      ∀ e t σ', Ext [] a₂.σ σ' → a₂.σ e = none → Exc σ' e t (.ref C) (y.pos.map er) none → E (.ref e) ⟨a₂.fs, σ', a₂.gens⟩) E a₁) E a)
    (hplain : (backTo cpos (starEach args env)).any (·.1) = false := by with_unfolding_all rfl) : W c A (exec (.Raise (some (.Call (.Name x np) args [] cpos)) none pos) env) Q E a := by
  intro s hs
  refine wpAny_Raise_call_sub (C := C) (nm := nm) (q := q) (N := N) (bs := bs) (bm := bm) (hdct := hdct) (sn := sn) (sub := sub) (ab := ab) (col := col) (dd := dd) (k0 := k0) (k1 := k1) (k2 := k2) (k3 := k3) (k5 := k5) (newId := newId) F hh hplain hni (wpAny_mono (h s hs) (fun f s₁ ⟨a₁, h1, q1, q2⟩ => ⟨q1, wpAny_mono (q2 s₁ h1) (fun y s₂ ⟨a₂, h2, r1, r2, r3⟩ => ⟨r1, sizeLine_big r2, h2.keep _ _ hC, hN.keeps h2.keep, fun h' e hm => ?_⟩) fun _ _ x => x⟩) fun _ _ x => x)
  obtain ⟨fs₂, σ₂, g₂⟩ := a₂
  obtain ⟨t, σ', e0, x1, x2, S⟩ := made_exc h2 hm.keeps hm.new hm.there
  exact ⟨_, S, r3 e t σ' x1 e0 x2⟩

/-! try -/
theorem W_Try {body orelse : List Stmt} {h₀ : ExceptHandler} {hs : List ExceptHandler} {pos : Pos} {Q : Flow → AS → Prop}
    (h : W c A (execs body env) (fun f a₁ => match f with | .next => W c A (execs orelse env) Q E a₁ | f => Q f a₁)
      (fun e a₁ => W c A (noteFrame e env) (fun _ a₂ => W c A (setFlight e none) (fun _ a₃ => W c A (handleBy e env (h₀ :: hs)) Q E a₃) E a₂) E a₁) a) : W c A (exec (.Try body (h₀ :: hs) orelse [] pos) env) Q E a := fun s hs' =>
  wpAny_Try_except (wpAny_mono (h s hs') (fun f s₁ ⟨a₁, h1, q⟩ => by cases f <;> first | exact q s₁ h1 | exact ⟨a₁, h1, q⟩)
    fun e s₁ ⟨a₁, h1, q⟩ => wpAny_mono (q s₁ h1) (fun _ s₂ ⟨a₂, h2, q⟩ => wpAny_mono (q s₂ h2) (fun _ s₃ ⟨a₃, h3, q⟩ => q s₃ h3) fun _ _ x => x) fun _ _ x => x)

noncomputable def ExcM (c : Cx) (a : AS) (e cv : Value) (b : Bool) : Prop := ∀ s, St c a s → Looks (model c.prog c.w) s.heap (excMatches e cv) b

theorem W_handle_hit {e : Addr} {t : Expr} {b₀ : Stmt} {suite : List Stmt} {pos : Pos} {rest : List ExceptHandler} {Q : Flow → AS → Prop}
    (h : W c (A.mark (some (.ref e))) (eval t env) (fun cv a₁ => ExcM c a₁ (.ref e) cv true ∧ W c (A.mark (some (.ref e))) (setFlight (.ref e) none) (fun _ a₂ => W c (A.mark (some (.ref e))) (execs (b₀ :: suite) env) Q (fun _ _ => False) a₂) (fun _ _ => False) a₁) (fun _ _ => False) a) :
    W c A (handleBy (.ref e) env (.ExceptHandler (some t) none (b₀ :: suite) pos :: rest)) Q E a := by
  intro s hs
  refine wpAny_handleBy_cons (codeAny_handlers_test (wpAny_mono (h s hs) (fun cv s₁ ⟨a₁, h1, q1, q2⟩ => (q1 s₁ h1).here ?_) fun _ _ ⟨_, _, x⟩ => x.elim)) (by intro q; cases q)
  exact codeAny_handlers_suite (wpAny_mono (q2 s₁ h1) (fun _ s₂ ⟨a₂, h2, q⟩ => wpAny_mono (q s₂ h2) (fun f s₃ x => x) fun _ _ ⟨_, _, x⟩ => x.elim) fun _ _ ⟨_, _, x⟩ => x.elim)
end
end Mine.Internal

namespace Mine.Internal
open PySem PySem.W PyProof.Rows PySem.Calls PySem.F

section
variable {c : Cx} {A : Around} {E : Value → AS → Prop} {a : AS} {env : Env} {fs : List Frm} {σ : Addr → Option (Nat × Cell)} {g : Array GenState} {k : Nat} {outer : List Env}

/-! a class of the text called -/
theorem W_make {C fI : Addr} {args : List Value} {Q : Value → AS → Prop} (k : Nat) (hm : makesIn c.K C = true) (hi : findIn c.K (.ref C) "__init__" = some (some (.ref fI))) (hf : typeIn c.K (.ref fI) = some (.type "function"))
    (h : ∀ x dx, σ x = none → σ dx = none → x ≠ dx → ∀ σ', σ' = upd (upd σ dx (some (k, .attrs []))) x (some (k, .inst C dx [])) →
      Wk c (A.under (.builtin "type.__call__" ⟨.ref C :: args, []⟩)) (.call (.ref fI) ⟨.ref x :: args, []⟩) (fun r a' => match r with | .ok (.ret v) => v = .none ∧ Q (.ref x) a' | .ok _ => False | .error e => E e a') ⟨fs, σ', g⟩) :
    W c A (call (.ref C) args) Q E ⟨fs, σ, g⟩ := by
  refine W_call (fun s hs => ?_)
  have X : c.K.In s.heap := c.inK.keeps hs.keep
  obtain ⟨hh, gg, d, t, os⟩ := s
  have S1 := hs.alloc (k := k) (cl := .attrs []) (o := emptyDict) ⟨[], 0, rfl, .nil⟩ rfl
  have S2 := S1.alloc (k := k) (cl := .inst C hh.objs.size []) (o := instObj C hh.objs.size) ⟨rfl, rfl, rfl, rfl⟩ rfl
  have f1 := hs.fresh.1
  have f2 := S1.fresh.1
  dsimp only at S1 S2 f1 f2
  rw [Heap.size_push] at S2 f2
  have ne : hh.objs.size + 1 ≠ hh.objs.size := by omega
  rw [upd_ne ne] at f2
  refine make_core (makes_of X hm) (looks_findIn X hi) (fun self => bind_fn X self hf) (.inl rfl) (codeAny_mono (h _ _ f2 f1 ne _ rfl _ S2) fun r s' ⟨a', h1, q⟩ => ?_)
  rcases r with e | (_ | _ | _ | v)
  · exact ⟨a', h1, q⟩
  · exact q.elim
  · exact q.elim
  · exact q.elim
  · exact ⟨q.1, a', h1, q.2⟩

/-! a tuple's, a list's things -/
theorem W_len_tuple {l : Addr} {vs : List AV} {Q : Value → AS → Prop} (hl : a.σ l = some (k, .tuple vs)) (hz : vs.length ≤ 1000000) (h : ∀ t, Q (.int vs.length t) a) : W c A (call (.builtin "len") [.ref l]) Q E a := fun s hs => by
  obtain ⟨us, n, ho, e⟩ := own_tuple hs hl
  have hsz := size_of e
  refine PySem.P.len_tuple (n := n) ho (by rw [hsz]; omega) ⟨a, hs.of_eq, ?_⟩
  rw [hsz]; exact h _
theorem W_tuple_list {l : Addr} {vs : List AV} {Q : Value → AS → Prop} (k' : Nat) (hl : σ l = some (k, .list vs)) (hz : vs.length ≤ 1000000)
    (h : ∀ t, σ t = none → ∀ σ', σ' = upd σ t (some (k', .tuple vs)) → Q (.ref t) ⟨fs, σ', g⟩) : W c A (call (.type "tuple") [.ref l]) Q E ⟨fs, σ, g⟩ := fun s hs => by
  obtain ⟨us, n, ho, e⟩ := own_list hs hl
  refine call_tuple_list (isList_of ho) (fun h' kk => ?_) (by rw [size_of e]; exact sizeLine_big hz)
  have S1 := hs.grow kk
  exact ⟨_, S1.alloc (k := k') (cl := .tuple vs) ⟨us, 0, rfl, e⟩ rfl, h _ S1.fresh.1 _ rfl⟩
theorem W_list_seq {l : Addr} {vs : List AV} {Q : Value → AS → Prop} (k' : Nat) (hl : Starry c ⟨fs, σ, g⟩ l vs) (hz : vs.length ≤ 1000000)
    (h : ∀ t, σ t = none → ∀ σ', σ' = upd σ t (some (k', .list vs)) → Q (.ref t) ⟨fs, σ', g⟩) : W c A (call (.type "list") [.ref l]) Q E ⟨fs, σ, g⟩ := fun s hs => by
  obtain ⟨T, us, n, o, hT, ho, hc, hd, e⟩ := starry_obj hs hl
  refine call_list_seq l hT ho hc hd (fun h' c' kk hn => ?_) (by rw [size_of e]; exact sizeLine_big hz)
  have hnone : s.heap.get? s.heap.objs.size = none := by
    cases q : s.heap.get? s.heap.objs.size with
    | none => rfl
    | some o => exact absurd (Heap.lt_size q) (Nat.lt_irrefl _)
  obtain ⟨e0, S⟩ := hs.adopt (cl := .list vs) k' kk hnone hn ⟨us, c', rfl, e⟩
  exact ⟨_, S, h _ e0 _ rfl⟩

/-! targets -/
theorem W_assign_Name {x : Str} {p : Pos} {u : Value} {Q : Unit → AS → Prop} (h : W c A (storeName env x u) Q E a) : W c A (assign (.Name x p) env u) Q E a := by
  show W c A (standAt p >>= _) Q E a
  exact W_bind (W_standAt fun s hs => wpAny_bindName (h s hs))
theorem W_assign_Sub {o i : Expr} {p : Pos} {u : Value} {Q : Unit → AS → Prop} (h : W c A (eval o env) (fun ov a₁ => W c A (eval i env) (fun iv a₂ => W c A (setItem ov iv u) Q E a₂) E a₁) E a) : W c A (assign (.Subscript o i p) env u) Q E a := by
  show W c A (holding [u] (eval o env) >>= _) Q E a
  refine W_bind (W_holding (W_mono h (fun ov a₁ q => W_bind (W_holding (W_mono q (fun iv a₂ q => W_bind (W_standAt (W_bind (W_holding (W_mono q (fun _ a₃ q => ?_) fun _ _ x => x))))) fun _ _ x => x))) fun _ _ x => x))
  intro s hs Γ p' hΓ
  rw [Sem.wp_release]
  exact ⟨a₃, hs, q⟩
theorem W_Assign_Sub {o i : Expr} {p : Pos} {value : Expr} {pos : Pos} {Q : Flow → AS → Prop}
    (h : W c A (eval value env) (fun v a₀ => W c A (eval o env) (fun ov a₁ => W c A (eval i env) (fun iv a₂ => W c A (setItem ov iv v) (fun _ => Q .next) E a₂) E a₁) E a₀) E a)
    (hs : exec (.Assign [.Subscript o i p] value pos) env = (do standAt pos; let v ← eval value env; assign (.Subscript o i p) env v; pure .next) := by with_unfolding_all rfl) : W c A (exec (.Assign [.Subscript o i p] value pos) env) Q E a := by
  rw [hs]
  exact W_bind (W_standAt (W_bind (W_mono h (fun v a₁ q => W_bind (W_mono (W_assign_Sub q) (fun _ _ x => W_pure x) fun _ _ x => x)) fun _ _ x => x)))
theorem W_Assign_two {t₁ t₂ value : Expr} {pos : Pos} {Q : Flow → AS → Prop}
    (h : W c A (eval value env) (fun v a₁ => W c A (assign t₁ env v) (fun _ a₂ => W c A (assign t₂ env v) (fun _ => Q .next) E a₂) E a₁) E a)
    (he : (assignEach [t₁, t₂] env).map (·.2) = [assign t₁ env, assign t₂ env] := by with_unfolding_all rfl) (hw : swappedStores [t₁, t₂] value env = pure none := by with_unfolding_all rfl) : W c A (exec (.Assign [t₁, t₂] value pos) env) Q E a := fun s hs =>
  wpAny_Assign_two (wpAny_mono (h s hs) (fun v s₁ ⟨a₁, h1, q⟩ => wpAny_mono (q s₁ h1) (fun _ s₂ ⟨a₂, h2, q⟩ => q s₂ h2) fun _ _ x => x) fun _ _ x => x) he hw
end
end Mine.Internal

namespace Mine.Internal
open PySem PySem.W PyProof.Rows PySem.Calls PySem.F

section
variable {c : Cx} {A : Around} {E : Value → AS → Prop} {fs : List Frm} {σ : Addr → Option (Nat × Cell)} {g : Array GenState} {d : Nat}

theorem push_frame {s : Shared} {h₀ : Heap} {ps rs : List Str} {args : List Value} {us : List AV} {vs : List (Option AV)} {tk : Nat} (hs : St c ⟨fs, σ, g⟩ s) (hns : h₀.Ns s.heap.objs.size (fun x => (ps.zip args).reverse.lookup x)) (hk₀ : ∀ b o, s.heap.get? b = some o → h₀.get? b = some o)
    (hu : args.map er = us) (hi : Init ps us rs vs) (hnd : (ps ++ rs).Nodup) : St c ⟨⟨s.heap.objs.size, [], ps ++ rs, vs⟩ :: fs, σ, g⟩ { s with heap := h₀, toks := tk } := by
  obtain ⟨f1, f2, f3⟩ := hs.fresh
  refine ⟨fun b o e => hk₀ b o (hs.keep b o e), fun f' hf => ?_, fun f' hf => ?_, ?_, fun x k cl e => ?_, hs.os, hs.gens⟩
  · rcases List.mem_cons.mp hf with rfl | hf
    · refine ⟨_, hns, fun x _ => ?_, fun p hp => by cases hp⟩
      dsimp only
      rw [lookup_reverse (zip_nodup (List.nodup_append.mp hnd).1)]
      exact hi.gv args hu x
    · exact (hs.fr f' hf).keeps fun b _ o e => hk₀ b o e
  · rcases List.mem_cons.mp hf with rfl | hf
    · intro x hx
      simp only [Frm.as, List.map_nil, List.mem_singleton] at hx
      rw [hx]; exact f3
    · exact hs.nb f' hf
  · rw [List.flatMap_cons]
    refine List.nodup_append.mpr ⟨by simp [Frm.as], hs.nd, fun x hx y hy e => ?_⟩
    simp only [Frm.as, List.map_nil, List.mem_singleton] at hx
    exact f2 (by rw [← hx, e]; exact hy)
  · obtain ⟨⟨o', ho', ok⟩, r1, r2⟩ := hs.own x k cl e
    refine ⟨⟨o', hk₀ _ _ ho', ok⟩, r1, fun q => ?_⟩
    rw [List.flatMap_cons] at q
    rcases List.mem_append.mp q with q | q
    · simp only [Frm.as, List.map_nil, List.mem_singleton] at q
      rw [q] at e; dsimp only at e f1; rw [f1] at e; cases e
    · exact r2 q

/-- a def with a star parameter: the rest of the arguments is a new tuple -/
theorem Wk_call_KS {K : Frag} {f : Addr} {ps rs ns : List Str} {gs : List (Str × Value)} {pre rest : List Value} {us : List AV} {vs : Addr → List (Option AV)} {R : Result → AS → Prop}
    (hK : c.K = K) (hf : FnOk K f ps rs (gs.map (·.1))) (hns : ns = ps ++ rs) (hbind : bindArgs (fdOf K f) ⟨pre ++ rest, []⟩ = (do let t ← newTuple rest; pure (ps.zip (pre ++ [t])))) (hu : pre.map er = us)
    (hi : ∀ t, Init ps (us ++ [.ref t]) rs (vs t)) (hglob : ∀ p ∈ gs, Glob c p.1 p.2) (hA : AOk A fs (d + 1)) (hz : rest.length ≤ 1000000)
    (h : ∀ L env t σ', env = callEnv (fdOf K f) L f → σ t = none → σ' = upd σ t (some (0, .tuple (rest.map er))) → σ' L = none → AOk (A.deeper env) (⟨L, [], ns, vs t⟩ :: fs) d → EnvOk c env L [] ns gs →
      W c (A.deeper env) (execs (bodyOf (fdOf K f)) env) (fun fl a' => Pop fs (R (.ok (.ret (retOf fl)))) a')
        (fun e a' => W c (A.deeper env) (leaving env e) (fun _ a'' => Pop fs (R (.error e)) a'') (fun _ _ => False) a') ⟨⟨L, [], ns, vs t⟩ :: fs, σ', g⟩) :
    Wk c A (.call (.ref f) ⟨pre ++ rest, []⟩) R ⟨fs, σ, g⟩ := by
  subst hK hns
  obtain ⟨o, ho, hd⟩ := fdOf_ex hf.fn
  have hnm := hf.names
  rw [List.map_map] at hnm
  have hnd := nodup_of_codes hf.nd
  have hnd2 := (List.nodup_cons.mp hnd).2
  intro s hs
  have X : c.K.In s.heap := c.inK.keeps hs.keep
  refine codeAny_call_function hA.room (X _ _ ho) hd hf.co hf.gen hf.body (codeRec_of X hf.code) ?_
  rw [hbind]
  refine wpAny_bind (wpAny_newObj_type ?_ (by show rest.toArray.size ≤ sizeLine; rw [List.size_toArray]; exact sizeLine_big hz))
  have S1 := hs.alloc (k := 0) (cl := .tuple (rest.map er)) (o := { cls := .type "tuple", data := .seq rest.toArray }) ⟨_, _, rfl, by simp⟩ rfl
  have f1 := hs.fresh.1
  have hkeys : ((fdOf c.K f).scope.names.map (·.1)).Nodup := by
    rw [hnm, List.map_append, List.map_map, List.map_map]
    simpa [Function.comp_def] using hnd2
  have hloc : ∀ x ∈ ps, (fdOf c.K f).scope.names.lookup x = some .local := fun x hx => lookup_nodup hkeys (p := (x, .local)) (by rw [hnm]; exact List.mem_append_left _ (List.mem_map.mpr ⟨x, List.mem_append_left _ hx, rfl⟩))
  have hcell : ∀ x ∈ (fdOf c.K f).scope.names, x.2 ≠ .cell := fun x hx => by
    rw [hnm] at hx
    rcases List.mem_append.mp hx with hx | hx
    · obtain ⟨y, _, rfl⟩ := List.mem_map.mp hx; intro q; cases q
    · obtain ⟨y, _, rfl⟩ := List.mem_map.mp hx; intro q; cases q
  refine wpAny_pure (wpAny_newFunctionEnv hcell (fun x hx => hloc _ (List.of_mem_zip hx).1) (fun h₀ hns₀ hsb₀ => ⟨(c.nolim.keeps S1.keep).fresh _ hsb₀, ?_⟩) hf.kind)
  have hk₀ : ∀ b o, (s.heap.push { cls := .type "tuple", data := .seq rest.toArray }).get? b = some o → h₀.get? b = some o := fun b o e => hsb₀.extBut b o (Nat.ne_of_lt (Heap.lt_size e)) (Heap.get?_push_of_some _ e)
  refine codeAny_func ?_
  have S2 := push_frame (tk := s.toks + (ps.zip (pre ++ [Value.ref s.heap.objs.size])).length) S1 hns₀ hk₀ (us := us ++ [.ref s.heap.objs.size]) (by rw [List.map_append, hu]; rfl) (hi _) (List.nodup_append.mp hnd2).1
  refine wpAny_mono (h _ _ _ _ rfl f1 rfl S1.fresh.1 (hA.deeper hf.kind rfl) (mkEnv hnm hf.kind hf.gl hf.bl hf.nd hglob) _ S2) (fun fl s' ⟨a', h1, f', e1, q⟩ => ?_) (fun e s' ⟨a', h1, q⟩ => ?_)
  · obtain ⟨fs', σ', g'⟩ := a'
    dsimp only at e1 q; subst e1
    exact ⟨_, h1.pop, by cases fl <;> exact q⟩
  · refine wpAny_mono (q s' h1) (fun _ s'' ⟨a'', h2, f', e1, q⟩ => ?_) fun _ _ ⟨_, _, x⟩ => x.elim
    obtain ⟨fs', σ', g'⟩ := a''
    dsimp only at e1 q; subst e1
    exact ⟨_, h2.pop, q⟩
end
end Mine.Internal

set_option maxRecDepth 100000
namespace Mine.Internal
open PySem PySem.W PyProof.Rows PySem.Calls PySem.F

theorem slot_li_ga : Slot "list_iterator" "__getattribute__" "object.__getattribute__" := .of (owner := "object") (n := "__getattribute__") (by rw [typeLookup_type, builtinLookup_eq_fast]; kernel_rfl) (by decide +kernel) (by decide +kernel) (by decide +kernel)
    (by first | exact .inl (by decide +kernel) | exact .inr (by decide +kernel)) (by rw [isSubtype_type]; kernel_rfl)

theorem typeOf_lin : typeOf (.builtin "list_iterator.__next__") = pure (.type "wrapper_descriptor") := by kernel_rfl
theorem wd_get : Slot "wrapper_descriptor" "__get__" "wrapper_descriptor.__get__" := .of (owner := "wrapper_descriptor") (n := "__get__") (by rw [typeLookup_type, builtinLookup_eq_fast]; kernel_rfl) (by decide +kernel) (by decide +kernel) (by decide +kernel)
    (by first | exact .inl (by decide +kernel) | exact .inr (by decide +kernel)) (by rw [isSubtype_type]; kernel_rfl)
theorem wd_set : typeLookup (.type "wrapper_descriptor") "__set__" = pure none := by rw [typeLookup_type, builtinLookup_eq_fast]; kernel_rfl
theorem wd_del : typeLookup (.type "wrapper_descriptor") "__delete__" = pure none := by rw [typeLookup_type, builtinLookup_eq_fast]; kernel_rfl

theorem entry_wd_get : entryFor table "wrapper_descriptor.__get__" = some Builtin.«wrapper_descriptor.__get__» := entryFor_of_tree (by kernel_rfl)
theorem args_wd_get (a b c : Value) : argsOk "wrapper_descriptor.__get__" ⟨[a, b, c], []⟩ := by unfold argsOk; kernel_rfl
theorem entry_obj_ga : entryFor table "object.__getattribute__" = some Builtin.«object.__getattribute__» := entryFor_of_tree (by kernel_rfl)
theorem args_obj_ga (a b : Value) : argsOk "object.__getattribute__" ⟨[a, b], []⟩ := by unfold argsOk; kernel_rfl
theorem owner_lin : (".".intercalate ("list_iterator.__next__".cutAt '.').dropLast) = "list_iterator" := by
  have e0 : "list_iterator.__next__".cutAt '.' = ["list_iterator", "__next__"] := by first | rfl | decide +kernel
  rw [e0]; decide +kernel
theorem sub_li : isSubtype (.type "list_iterator") (.type "list_iterator") = pure true := by rw [isSubtype_type]; kernel_rfl

noncomputable abbrev wrapObj (it : Addr) : Obj := { cls := .type "method-wrapper", data := .fields #[.builtin "list_iterator.__next__", .ref it] }

section
variable {prog : Program} {w : World} {A : Around} {E : Value → Shared → Prop} {h : Heap} {g : Array GenState} {d : Drawn} {t : Nat} {os : OsState} {a : Addr} {o : Obj}
theorem li_get {R : Result → Shared → Prop} {vs : Array Value} {sl : Array (Option Value)} (hx : h.get? a = some ⟨.type "list_iterator", none, .fields vs, sl⟩) (hq : R (.ok (.ret (.ref h.objs.size))) ⟨h.push (wrapObj a), g, d, t, os⟩) :
    codeAny (model prog w) A (.call (.builtin "wrapper_descriptor.__get__") ⟨[.builtin "list_iterator.__next__", .ref a, .type "list_iterator"], []⟩) R ⟨h, g, d, t, os⟩ := by
  have hT : (⟨h, g, d, t, os⟩ : Shared).TypeIs (.ref a) "list_iterator" := ⟨_, hx, rfl⟩
  have hT5 : (⟨h, g, d, t, os⟩ : Shared).TypeIs (.builtin "list_iterator.__next__") "wrapper_descriptor" := typeOf_lin
  have f8 : isSubtype (.type "list_iterator") (.type (".".intercalate ("list_iterator.__next__".cutAt '.').dropLast)) = pure true := by rw [owner_lin]; exact sub_li
  refine codeAny_call_builtin wd_get.plain entry_wd_get (wd_get.check _ _ _ _ _ _ _ _ hT5 (args_wd_get _ _ _) ?_)
  repeat (any_goals (first | assumption | wp_step))
theorem li_entry {tk : Tok} {Q : PySem.Fin → Shared → Prop} {vs : Array Value} {sl : Array (Option Value)} (hx : h.get? a = some ⟨.type "list_iterator", none, .fields vs, sl⟩) (hq : Q (.done (.ret (.ref h.objs.size))) ⟨h.push (wrapObj a), g, d, t, os⟩) :
    wpAny (model prog w) A (Builtin.«object.__getattribute__» ⟨[.ref a, .str "__next__" tk], []⟩) Q E ⟨h, g, d, t, os⟩ := by
  have hT : (⟨h, g, d, t, os⟩ : Shared).TypeIs (.ref a) "list_iterator" := ⟨_, hx, rfl⟩
  have f4 := slot_listiter_next.lookup
  have f5 := typeOf_lin
  have f6 := wd_get.lookup
  have f7 := wd_set
  have f8 := wd_del
  repeat (any_goals (first | assumption | wp_step))
  refine li_get hx ?_
  repeat (any_goals (first | assumption | wp_step))
theorem li_attr {expr : Bool} {Q : Value → Shared → Prop} {vs : Array Value} {sl : Array (Option Value)} (hx : h.get? a = some ⟨.type "list_iterator", none, .fields vs, sl⟩) (hq : Q (.ref h.objs.size) ⟨h.push (wrapObj a), g, d, t + 1, os⟩) :
    wpAny (model prog w) A (getAttr (.ref a) "__next__" expr) Q E ⟨h, g, d, t, os⟩ := by
  have hT : (⟨h, g, d, t + 1, os⟩ : Shared).TypeIs (.ref a) "list_iterator" := ⟨_, hx, rfl⟩
  have f2 := slot_li_ga.lookup
  have f3 := slot_li_ga.bind (.ref a)
  have hx0 : (expr && onTheHeap (Value.builtin "object.__getattribute__")) = false := by cases expr <;> rfl
  unfold getAttr getAttrBy
  repeat (any_goals (first | assumption | wp_step))
  refine codeAny_call_builtin slot_li_ga.plain entry_obj_ga (slot_li_ga.check _ _ _ _ _ _ _ _ hT (args_obj_ga _ _) (li_entry hx ?_))
  repeat (any_goals (first | assumption | wp_step))

theorem lin_bound (it : Addr) : checkBoundCall "list_iterator.__next__" ⟨[.ref it], []⟩ = pure () := by kernel_rfl

theorem wrap_call {R : Result → Shared → Prop} {m it : Addr} (hm : h.get? m = some (wrapObj it)) (hq : codeAny (model prog w) A (.builtin "list_iterator.__next__" ⟨[.ref it], []⟩) R ⟨h, g, d, t, os⟩) :
    codeAny (model prog w) A (.call (.ref m) ⟨[], []⟩) R ⟨h, g, d, t, os⟩ := by
  refine codeAny_of_tree ?_
  show wpAny _ _ (callAny (.ref m) _) _ _ _
  unfold callAny
  refine wpAny_bind (wpAny_load hm ?_)
  dsimp only
  rw [if_pos (by decide)]
  show wpAny _ _ (checkBoundCall "list_iterator.__next__" ⟨[.ref it], []⟩ >>= _) _ _ _
  rw [lin_bound]
  exact wpAny_bind (wpAny_pure (wpAny_bind (wpAny_pure (wpAny_pure ⟨Code.quiet_builtin _ (by decide +kernel), hq⟩))))

theorem lin_item {R : Result → Shared → Prop} {s : Shared} {it l : Addr} {i : Nat} {items : Array Value} {x : Value} (hit : s.heap.IsListIter it l i) (hl : s.heap.IsList l items) (hx : items[i]? = some x)
    (hQ : ∀ h', h'.IsListIter it l (i + 1) → Heap.SameBut it s.heap h' → R (.ok (.ret x)) { s with heap := h' }) : codeAny (model prog w) A (.builtin "list_iterator.__next__" ⟨[.ref it], []⟩) R s := by
  obtain ⟨o, ho, hc, hd⟩ := id hit
  obtain ⟨ol, hol, _, nl, hdl⟩ := hl
  refine codeAny_builtin entry_listiter_next ?_
  show wpAny _ _ (field (.ref it) 0 >>= _) _ _ s
  refine wpAny_bind (wpAny_field ho hd (x := .ref l) rfl ?_)
  show wpAny _ _ (if (Value.ref l == Value.none) = true then _ else _) _ _ s
  rw [if_neg (show ¬ ((Value.ref l == Value.none) = true) from Bool.false_ne_true)]
  show wpAny _ _ (field (.ref it) 1 >>= _) _ _ s
  refine wpAny_bind (wpAny_field ho hd (x := .int i 0) rfl ?_)
  show wpAny _ _ (seqItems? (.ref l) >>= _) _ _ s
  refine wpAny_bind (wpAny_seqItems hol hdl ?_)
  simp only [Int.toNat_natCast, hx]
  refine wpAny_bind (wpAny_setField ho hd (by simp) (wpAny_pure (hQ _ ?_ (Heap.SameBut.update ..))))
  exact ⟨_, Heap.get?_update_self _ ho (Obj.isFreed_of_fields (Obj.data_mapFields hd _)), (Obj.cls_mapFields ..).trans hc, by
    rw [Obj.data_mapFields hd]; simp [rawInt]⟩

theorem lin_end {R : Result → Shared → Prop} {s : Shared} {it l : Addr} {i : Nat} {items : Array Value} (hh : A.handled = none) (hit : s.heap.IsListIter it l i) (hl : s.heap.IsList l items) (hx : items[i]? = none)
    (hQ : ∀ h' e, (∀ b o, b ≠ it → s.heap.get? b = some o → h'.get? b = some o) → s.heap.get? e = none → (∃ t, h'.get? e = some { cls := .type "StopIteration", data := .fields #[.ref t, .none, .none, .none, .bool false, .none] } ∧ s.heap.get? t = none ∧ h'.get? t = some { cls := .type "tuple", data := .seq #[] }) →
      R (.error (.ref e)) { s with heap := h' }) : codeAny (model prog w) A (.builtin "list_iterator.__next__" ⟨[.ref it], []⟩) R s := by
  obtain ⟨o, ho, hc, hd⟩ := id hit
  obtain ⟨ol, hol, _, nl, hdl⟩ := hl
  refine codeAny_builtin entry_listiter_next ?_
  show wpAny _ _ (field (.ref it) 0 >>= _) _ _ s
  refine wpAny_bind (wpAny_field ho hd (x := .ref l) rfl ?_)
  show wpAny _ _ (if (Value.ref l == Value.none) = true then _ else _) _ _ s
  rw [if_neg (show ¬ ((Value.ref l == Value.none) = true) from Bool.false_ne_true)]
  show wpAny _ _ (field (.ref it) 1 >>= _) _ _ s
  refine wpAny_bind (wpAny_field ho hd (x := .int i 0) rfl ?_)
  show wpAny _ _ (seqItems? (.ref l) >>= _) _ _ s
  refine wpAny_bind (wpAny_seqItems hol hdl ?_)
  simp only [Int.toNat_natCast, hx]
  refine wpAny_bind (wpAny_rule (wpAny_bind (wpAny_setField ho hd (by simp) ?_)))
  show wpAny _ _ (newExc (.type "StopIteration") [] >>= _) _ _ _
  refine wpAny_bind ?_
  simp only [newExc, newTuple]
  refine wpAny_bind (wpAny_newObj_type ?_ (by size_fits))
  refine wpAny_bind (m := firstArgMember _ _) (wpAny_of_eq (a := Value.none) (by first | rfl | (simp only [firstArgMember]; rfl)) ?_)
  refine wpAny_newObj_type ?_ (by size_fits)
  simp only [raiseNew]
  refine wpAny_bind (wpAny_handled ?_)
  have hA' : (A.under (Code.builtin "list_iterator.__next__" ⟨[.ref it], []⟩)).handled = none := hh
  rw [hA']
  refine wpAny_bind (wpAny_pure (wpAny_throw ?_))
  have hne : s.heap.get? s.heap.objs.size = none := by
    cases q : s.heap.get? s.heap.objs.size with
    | none => rfl
    | some o => exact absurd (Heap.lt_size q) (Nat.lt_irrefl _)
  have hne1 : s.heap.get? (s.heap.objs.size + 1) = none := by
    cases q : s.heap.get? (s.heap.objs.size + 1) with
    | none => rfl
    | some o => exact absurd (Heap.lt_size q) (Nat.not_lt.mpr (Nat.le_succ _))
  have hsz : (s.heap.update it (Obj.mapFields fun x => x.setIfInBounds 0 Value.none)).objs.size = s.heap.objs.size := (Heap.SameBut.update s.heap it _).1
  refine hQ _ _ (fun b o q z => Heap.get?_push_of_some _ (Heap.get?_push_of_some _ (((Heap.SameBut.update s.heap it _).2 b q).trans z))) ?_ ⟨_, Heap.get?_push_size _ rfl, ?_, Heap.get?_push_of_some _ (Heap.get?_push_size _ rfl)⟩
  · rw [Heap.size_push, hsz]; exact hne1
  · rw [hsz]; exact hne
end

section
variable {c : Cx} {A : Around} {E : Value → AS → Prop} {a : AS} {env : Env} {fs : List Frm} {σ : Addr → Option (Nat × Cell)} {g : Array GenState} {k : Nat}

theorem St.freshOf {s : Shared} {x : Addr} (hs : St c a s) (hn : s.heap.get? x = none) : a.σ x = none ∧ c.base.get? x = none ∧ x ∉ a.fs.flatMap Frm.as := by
  refine ⟨?_, ?_, fun hm => ?_⟩
  · cases e : a.σ x with
    | none => rfl
    | some p => obtain ⟨⟨o, ho, _⟩, _⟩ := hs.own x p.1 p.2 e; rw [hn] at ho; cases ho
  · cases e : c.base.get? x with
    | none => rfl
    | some p => have := hs.keep _ _ e; rw [hn] at this; cases this
  · obtain ⟨f, hf, hx⟩ := List.mem_flatMap.mp hm
    obtain ⟨m, ⟨o, _, _, ho, _⟩, _, h3⟩ := hs.fr f hf
    simp only [Frm.as, List.mem_cons, List.mem_map] at hx
    rcases hx with e | ⟨p, hp, e⟩
    · rw [← e, hn] at ho; cases ho
    · obtain ⟨ov, ⟨oc, hc, _⟩, _⟩ := h3 p hp
      rw [e, hn] at hc; cases hc
theorem St.take {s : Shared} {x : Addr} {cl : Cell} {o : Obj} (k : Nat) (hs : St c a s) (hb : c.base.get? x = none) (hf : x ∉ a.fs.flatMap Frm.as) (ho : s.heap.get? x = some o) (ok : cl.ok c o) : St c { a with σ := upd a.σ x (some (k, cl)) } s := by
  refine ⟨hs.keep, hs.fr, hs.nb, hs.nd, fun y k' cl' e => ?_, hs.os, hs.gens⟩
  by_cases q : y = x
  · subst q
    simp only [upd_self, Option.some.injEq, Prod.mk.injEq] at e
    obtain ⟨rfl, rfl⟩ := e
    exact ⟨⟨o, ho, ok⟩, hb, hf⟩
  · simp only [upd_ne q] at e
    exact hs.own y k' cl' e
/-- a cell may be known less well -/
theorem St.weaken {s : Shared} {x : Addr} {cl cl' : Cell} {k k' : Nat} (hs : St c ⟨fs, σ, g⟩ s) (hx : σ x = some (k, cl)) (hw : ∀ o, cl.ok c o → cl'.ok c o) : St c ⟨fs, upd σ x (some (k', cl')), g⟩ s := by
  obtain ⟨⟨o, ho, ok⟩, hb, hf⟩ := hs.own x k cl hx
  exact hs.take k' hb hf ho (hw o ok)

noncomputable def wrapCell (it : Addr) : Cell := .raw fun o => o = wrapObj it

theorem W_next_attr {it l : Addr} {i k' : Nat} {expr : Bool} {Q : Value → AS → Prop} (kw : Nat) (hit : σ it = some (k', .raw fun o => o = ⟨.type "list_iterator", none, .fields #[.ref l, .int i 0], #[]⟩))
    (h : ∀ m, σ m = none → m ≠ it → ∀ σ', σ' = upd (upd σ it (some (k', iterCell "list_iterator" l i))) m (some (kw, wrapCell it)) → Q (.ref m) ⟨fs, σ', g⟩) : W c A (getAttr (.ref it) "__next__" expr) Q E ⟨fs, σ, g⟩ := by
  intro s hs
  obtain ⟨⟨o, ho, e⟩, _⟩ := hs.own it k' _ hit
  obtain ⟨hp, gg, d, t, os⟩ := s
  have e' : o = ⟨.type "list_iterator", none, .fields #[.ref l, .int i 0], #[]⟩ := e
  subst e'
  have S1 := hs.weaken (k' := k') (cl' := iterCell "list_iterator" l i) hit (by intro o e; have e' : o = ⟨.type "list_iterator", none, .fields #[.ref l, .int i 0], #[]⟩ := e; subst e'; exact ⟨rfl, rfl⟩)
  have ne : hp.objs.size ≠ it := fun q => by have := hs.fresh.1; dsimp only at this; rw [q, hit] at this; cases this
  refine li_attr ho ⟨_, St.of_eq (S1.alloc (k := kw) (cl := wrapCell it) (o := wrapObj it) rfl rfl), h _ hs.fresh.1 ne _ rfl⟩

theorem Kp.wrap {m it : Addr} (hm : a.σ m = some (k, wrapCell it)) : Kp c (.ref m) a := fun s hs => by
  obtain ⟨⟨o, ho, e⟩, _⟩ := hs.own m k _ hm
  have e' : o = wrapObj it := e
  subst e'
  refine ⟨.machine, fun A Q E s' kk q => ?_⟩
  unfold keeperOf
  refine wpAny_bind (wpAny_load (kk _ _ ho) ?_)
  dsimp only
  rw [if_pos (by decide), if_pos (by decide)]
  exact wpAny_pure q

theorem W_wrap_item {m it l : Addr} {i k' kl : Nat} {vs : List AV} {v : AV} {Q : Value → AS → Prop} (hm : σ m = some (k, wrapCell it)) (hit : σ it = some (k', iterCell "list_iterator" l i)) (hl : σ l = some (kl, .list vs)) (hv : vs[i]? = some v)
    (h : ∀ σ' u, σ' = upd σ it (some (k', iterCell "list_iterator" l (i + 1))) → er u = v → Q u ⟨fs, σ', g⟩) : W c A (call (.ref m) []) Q E ⟨fs, σ, g⟩ := by
  refine W_call (fun s hs => ?_)
  obtain ⟨⟨o, ho, e⟩, _⟩ := hs.own m k _ hm
  have e' : o = wrapObj it := e
  subst e'
  obtain ⟨us, n, hol, el⟩ := own_list hs hl
  obtain ⟨u, hu, eu⟩ := get_of el hv
  obtain ⟨hp, gg, d, t, os⟩ := s
  refine wrap_call ho (lin_item (listIter_of hs hit) (isList_of hol) hu fun h' hi hsb => ?_)
  obtain ⟨o', ho', hc', hd'⟩ := hi
  exact ⟨_, hs.put hit (fun b o q z => (hsb.2 b q).trans z) ho' (cl' := iterCell "list_iterator" l (i + 1)) ⟨hc', hd'⟩, h _ _ rfl eu⟩

theorem W_wrap_end {m it l : Addr} {i k' kl : Nat} {vs : List AV} {Q : Value → AS → Prop} (hh : A.handled = none) (hm : σ m = some (k, wrapCell it)) (hit : σ it = some (k', iterCell "list_iterator" l i)) (hl : σ l = some (kl, .list vs)) (hi : vs.length ≤ i)
    (h : ∀ σ' e t, (∀ y p, y ≠ it → σ y = some p → σ' y = some p) → σ e = none → Exc σ' e t (.type "StopIteration") [] none → E (.ref e) ⟨fs, σ', g⟩) : W c A (call (.ref m) []) Q E ⟨fs, σ, g⟩ := by
  refine W_call (fun s hs => ?_)
  obtain ⟨⟨o, ho, e⟩, _⟩ := hs.own m k _ hm
  have e' : o = wrapObj it := e
  subst e'
  obtain ⟨us, n, hol, el⟩ := own_list hs hl
  have hsz := size_of el
  obtain ⟨hp, gg, d, t, os⟩ := s
  have hito := listIter_of hs hit
  refine wrap_call ho (lin_end hh hito (isList_of hol) (by rw [Array.getElem?_eq_none]; omega) fun h' e kk hn ht => ?_)
  obtain ⟨t', h1, h2, h3⟩ := ht
  -- first the heap without the iterator
  have nodrop : e ≠ it := fun q => by obtain ⟨o, ho', _⟩ := hito; rw [← q] at ho'; dsimp only at hn ho'; rw [hn] at ho'; cases ho'
  have nodrop' : t' ≠ it := fun q => by obtain ⟨o, ho', _⟩ := hito; rw [← q] at ho'; dsimp only at h2 ho'; rw [h2] at ho'; cases ho'
  have S0 := hs.drop (h' := h') hit (fun b o q z => kk b o q z)
  obtain ⟨a1, a2, a3⟩ := hs.freshOf hn
  obtain ⟨b1, b2, b3⟩ := hs.freshOf h2
  have S1 := S0.take (x := t') (cl := .tuple []) 0 b2 b3 h3 ⟨#[], 0, rfl, rfl⟩
  have S2 := S1.take (x := e) (cl := excCell (.type "StopIteration") t' none) 8 a2 a3 h1 ⟨rfl, rfl, _, rfl, rfl, rfl, rfl⟩
  have hte : t' ≠ e := fun q => by rw [q, h1] at h3; simp at h3
  refine ⟨_, S2, h _ e t' (fun y p n1 q => ?_) a1 ⟨by simp, ?_, fun T q => by cases q⟩⟩
  · dsimp only at a1 b1
    have n2 : y ≠ e := fun z => by rw [z, a1] at q; cases q
    have n3 : y ≠ t' := fun z => by rw [z, b1] at q; cases q
    simp only [upd_ne n2, upd_ne n3, upd_ne n1]; exact q
  · simp only [upd_ne hte, upd_self]

theorem W_iter_call {l : Addr} {vs : List AV} {Q : Value → AS → Prop} (k' : Nat) (hl : σ l = some (k, .list vs)) (h : ∀ it, σ it = none → ∀ σ', σ' = upd σ it (some (k', .raw fun o => o = ⟨.type "list_iterator", none, .fields #[.ref l, .int 0 0], #[]⟩)) → Q (.ref it) ⟨fs, σ', g⟩) :
    W c A (call (.builtin "iter") [.ref l]) Q E ⟨fs, σ, g⟩ := fun s hs => by
  obtain ⟨us, n, ho, e⟩ := own_list hs hl
  refine call_function_entry (by decide +kernel) (by decide +kernel) kdk_entry_iter (kdk_args_iter _) ?_
  show wpAny _ _ (pyIter (.ref l) >>= _) _ _ s
  refine wpAny_bind (wpAny_pyIter_list (isList_of ho) (wpAny_pure ⟨_, rfl, _, hs.alloc (k := k') (cl := .raw fun o => o = ⟨.type "list_iterator", none, .fields #[.ref l, .int 0 0], #[]⟩) rfl rfl, h _ hs.fresh.1 _ rfl⟩))
end
end Mine.Internal

namespace Mine.Internal
open PySem PySem.W PyProof.Rows PySem.Calls PySem.F

noncomputable def iterCell4 (ty : String) (l : Addr) (n ep : Nat) (i : Nat) : Cell := .raw fun o => o.cls = .type ty ∧ o.data = .fields #[.ref l, .int i 0, .int n 0, .int ep 0]
noncomputable def viewCell (ty : String) (l : Addr) : Cell := .raw fun o => o.cls = .type ty ∧ o.data = .fields #[.ref l]

section
variable {c : Cx} {A : Around} {E : Value → AS → Prop} {a : AS} {env : Env} {fs : List Frm} {σ : Addr → Option (Nat × Cell)} {g : Array GenState} {k : Nat} {D : Addr} {kvs : List (AV × AV)} {ep : Nat}

theorem W_set0 {Q : Value → AS → Prop} (k : Nat) (h : ∀ l, σ l = none → ∀ σ', σ' = upd σ l (some (k, .set (fun _ => false) 0)) → Q (.ref l) ⟨fs, σ', g⟩) : W c A (call (.type "set") []) Q E ⟨fs, σ, g⟩ := fun s hs =>
  call_set_0 fun led => ⟨_, hs.alloc (k := k) (cl := .set (fun _ => false) 0) (setObjOf_fresh led) rfl, h _ hs.fresh.1 _ rfl⟩

theorem W_iter_dict {Q : Value → AS → Prop} (hl : σ D = some (k, .dict kvs ep)) (h : ∀ it, σ it = none → ∀ σ', σ' = upd σ it (some (9, iterCell4 "dict_keyiterator" D kvs.length ep 0)) → Q (.ref it) ⟨fs, σ', g⟩) : W c A (pyIter (.ref D)) Q E ⟨fs, σ, g⟩ := fun s hs => by
  obtain ⟨kvs', hd, e⟩ := own_dict hs hl
  have hlen : kvs'.length = kvs.length := by rw [e]; simp
  refine wpAny_pyIter_dict (notSys hs hl) hd ⟨_, hs.alloc (k := 9) (cl := iterCell4 "dict_keyiterator" D kvs.length ep 0) ⟨rfl, by rw [hlen]; rfl⟩ rfl, h _ hs.fresh.1 _ rfl⟩

theorem get_erP {kvs' : List (AV × Value)} (e : kvs = kvs'.map erP) {i : Nat} {p : AV × AV} (h : kvs[i]? = some p) : ∃ u, kvs'[i]? = some (p.1, u) ∧ er u = p.2 := by
  rw [e, List.getElem?_map] at h
  obtain ⟨q, hq, eq⟩ := map_some_of h
  subst eq
  exact ⟨q.2, hq, rfl⟩

theorem IterOf.dictKeys (hh : A.handled = none) (hkey : ∀ p ∈ kvs, p.1.isKey = true) : IterOf c A (kvs.map (·.1)) k (fun σ => σ D = some (k, .dict kvs ep)) (iterCell4 "dict_keyiterator" D kvs.length ep) where
  item := fun {it i v fs σ g Q E} hit hl hv h s hs => by
    obtain ⟨kvs', hd, e⟩ := own_dict hs hl
    have hlen : kvs'.length = kvs.length := by rw [e]; simp
    rw [List.getElem?_map] at hv
    obtain ⟨p, hp, rfl⟩ := map_some_of hv
    obtain ⟨u, hu, eu⟩ := get_erP e hp
    obtain ⟨⟨o, ho, hc, hdd⟩, _⟩ := hs.own it 9 _ hit
    rw [← hlen] at hdd
    refine wpAny_pyNext_dict_item ⟨o, ho, hc, hdd⟩ hd hu (fun key h' hkk hi hsb => ?_)
    obtain ⟨o', ho', hc', hd'⟩ := hi
    exact ⟨_, hs.put hit (fun b o q z => (hsb.2 b q).trans z) ho' (cl' := iterCell4 "dict_keyiterator" D kvs.length ep (i + 1)) ⟨hc', by rw [← hlen]; exact hd'⟩, h _ _ rfl (avKind_is.mp hkk).1⟩
  fin := fun {it i fs σ g Q E} hit hl hi h s hs => by
    obtain ⟨kvs', hd, e⟩ := own_dict hs hl
    have hlen : kvs'.length = kvs.length := by rw [e]; simp
    obtain ⟨⟨o, ho, hc, hdd⟩, _⟩ := hs.own it 9 _ hit
    rw [← hlen] at hdd
    refine wpAny_pyNext_dict_end hh ⟨o, ho, hc, hdd⟩ hd (by rw [List.getElem?_eq_none]; rw [hlen]; simp at hi; omega) (fun h' hx => ⟨_, hs.drop hit (fun b o q z => hx b o q z), h _ rfl⟩)
  keep := fun {σ it i x} h hi => by rw [upd_ne (fun q => by rw [q, hi] at h; cases h)]; exact h
  ext := fun {C σ σ'} hk hx h => hx _ _ _ h hk
  own := fun {target it u i fs σ g Q E} h q s hs => by
    obtain ⟨⟨o, ho, hc, hd⟩, _⟩ := hs.own it 9 _ h
    have fin : wpAny (model c.prog c.w) A (do
        let (.ref r, .ref a) := (Value.ref it, u) | return
        let o ← load r
        match o.cls, o.data with
        | .type n, .fields vs =>
          if ["enumerate", "zip", "dict_itemiterator", "dict_reverseitemiterator", "odict_iterator", "itertools.zip_longest", "itertools.pairwise"].contains n && vs[0]? == some (rawInt a) then
            rule "for.unpacks-the-owned-tuple"
            updateField r 0 .none
        | _, _ => pure ()) (fun v s' => ∃ a', St c a' s' ∧ Q v a') (fun e s' => ∃ a', St c a' s' ∧ E e a') s := by
      cases u with
      | ref b =>
        refine wpAny_bind (wpAny_load ho ?_)
        rw [hc, hd]
        exact wpAny_pure ⟨_, hs, q⟩
      | _ => exact wpAny_pure ⟨_, hs, q⟩
    unfold letOwnedTupleGo
    cases target <;> first | exact fin | exact wpAny_pure ⟨_, hs, q⟩

/-! values() -/
theorem W_dict_values {Q : Value → AS → Prop} (hl : σ D = some (k, .dict kvs ep)) (h : ∀ v, σ v = none → ∀ σ', σ' = upd σ v (some (0, viewCell "dict_values" D)) → Q (.ref v) ⟨fs, σ', g⟩) : W c A (call (.builtin "dict.values") [.ref D]) Q E ⟨fs, σ, g⟩ := fun s hs => by
  obtain ⟨kvs', hd, e⟩ := own_dict hs hl
  refine call_meetsIn slot_dict_values hd.dictOf.mapOf.typeIs entry_dict_values (args_dict_values_1 _) (meets_dict_values (avKind c.prog c.w) D (notSys hs hl)) ⟨⟨_, hd.dictOf⟩, ?_⟩
  exact ⟨_, hs.alloc (k := 0) (cl := viewCell "dict_values" D) ⟨rfl, rfl⟩ rfl, h _ hs.fresh.1 _ rfl⟩
theorem W_iter_values {v : Addr} {k' : Nat} {Q : Value → AS → Prop} (hv : σ v = some (k', viewCell "dict_values" D)) (hl : σ D = some (k, .dict kvs ep)) (h : ∀ it, σ it = none → ∀ σ', σ' = upd σ it (some (9, iterCell4 "dict_valueiterator" D kvs.length ep 0)) → Q (.ref it) ⟨fs, σ', g⟩) : W c A (pyIter (.ref v)) Q E ⟨fs, σ, g⟩ := fun s hs => by
  obtain ⟨kvs', hd, e⟩ := own_dict hs hl
  have hlen : kvs'.length = kvs.length := by rw [e]; simp
  obtain ⟨⟨o, ho, hc, hdd⟩, _⟩ := hs.own v k' _ hv
  exact wpAny_pyIter_values ⟨o, ho, hc, hdd⟩ hd ⟨_, hs.alloc (k := 9) (cl := iterCell4 "dict_valueiterator" D kvs.length ep 0) ⟨rfl, by rw [hlen]; rfl⟩ rfl, h _ hs.fresh.1 _ rfl⟩
theorem IterOf.dictValues (hh : A.handled = none) : IterOf c A (kvs.map (·.2)) k (fun σ => σ D = some (k, .dict kvs ep)) (iterCell4 "dict_valueiterator" D kvs.length ep) where
  item := fun {it i v fs σ g Q E} hit hl hv h s hs => by
    obtain ⟨kvs', hd, e⟩ := own_dict hs hl
    have hlen : kvs'.length = kvs.length := by rw [e]; simp
    rw [List.getElem?_map] at hv
    obtain ⟨p, hp, rfl⟩ := map_some_of hv
    obtain ⟨u, hu, eu⟩ := get_erP e hp
    obtain ⟨⟨o, ho, hc, hdd⟩, _⟩ := hs.own it 9 _ hit
    rw [← hlen] at hdd
    refine wpAny_pyNext_values_item ⟨o, ho, hc, hdd⟩ hd hu (fun h' hi hsb => ?_)
    obtain ⟨o', ho', hc', hd'⟩ := hi
    exact ⟨_, hs.put hit (fun b o q z => (hsb.2 b q).trans z) ho' (cl' := iterCell4 "dict_valueiterator" D kvs.length ep (i + 1)) ⟨hc', by rw [← hlen]; exact hd'⟩, h _ _ rfl eu⟩
  fin := fun {it i fs σ g Q E} hit hl hi h s hs => by
    obtain ⟨kvs', hd, e⟩ := own_dict hs hl
    have hlen : kvs'.length = kvs.length := by rw [e]; simp
    obtain ⟨⟨o, ho, hc, hdd⟩, _⟩ := hs.own it 9 _ hit
    rw [← hlen] at hdd
    refine wpAny_pyNext_values_end hh ⟨o, ho, hc, hdd⟩ hd (by rw [List.getElem?_eq_none]; rw [hlen]; simp at hi; omega) (fun h' hx => ⟨_, hs.drop hit (fun b o q z => hx b o q z), h _ rfl⟩)
  keep := fun {σ it i x} h hi => by rw [upd_ne (fun q => by rw [q, hi] at h; cases h)]; exact h
  ext := fun {C σ σ'} hk hx h => hx _ _ _ h hk
  own := fun {target it u i fs σ g Q E} h q s hs => by
    obtain ⟨⟨o, ho, hc, hd⟩, _⟩ := hs.own it 9 _ h
    have fin : wpAny (model c.prog c.w) A (do
        let (.ref r, .ref a) := (Value.ref it, u) | return
        let o ← load r
        match o.cls, o.data with
        | .type n, .fields vs =>
          if ["enumerate", "zip", "dict_itemiterator", "dict_reverseitemiterator", "odict_iterator", "itertools.zip_longest", "itertools.pairwise"].contains n && vs[0]? == some (rawInt a) then
            rule "for.unpacks-the-owned-tuple"
            updateField r 0 .none
        | _, _ => pure ()) (fun v s' => ∃ a', St c a' s' ∧ Q v a') (fun e s' => ∃ a', St c a' s' ∧ E e a') s := by
      cases u with
      | ref b =>
        refine wpAny_bind (wpAny_load ho ?_)
        rw [hc, hd]
        exact wpAny_pure ⟨_, hs, q⟩
      | _ => exact wpAny_pure ⟨_, hs, q⟩
    unfold letOwnedTupleGo
    cases target <;> first | exact fin | exact wpAny_pure ⟨_, hs, q⟩
end
end Mine.Internal

namespace Mine.Internal
open PySem PySem.W PyProof.Rows PySem.Calls PySem.F

section
variable {c : Cx} {A : Around} {E : Value → AS → Prop} {a : AS} {env : Env} {fs : List Frm} {σ : Addr → Option (Nat × Cell)} {g : Array GenState} {k : Nat}

theorem W_While {test : Expr} {body orelse : List Stmt} {pos : Pos} {Q : Flow → AS → Prop} (I : Nat → AS → Prop)
    (turn : ∀ n a, I n a → W c A (isTrue test env (eval test env)) (fun b a₁ => if b then W c A (execs body env) (fun f a₂ => match f with
        | .next | .cont => ∃ m, m < n ∧ I m a₂
        | .brk => Q .next a₂
        | .ret v => Q (.ret v) a₂) (Noted c A env (Came c A env E)) a₁ else W c A (execs orelse env) Q (Noted c A env (Came c A env E)) a₁) (Noted c A env (Came c A env E)) a)
    (n : Nat) (h : I n a) : W c A (exec (.While test body orelse pos) env) Q E a := by
  intro s hs
  refine wpAny_While (codeAny_loop rfl (fun n s => ∃ a, St c a s ∧ I n a) (fun n s ⟨a, hs, hI⟩ => ?_) n ⟨a, hs, h⟩)
  show wpAny _ A ((whileTurn test body orelse env).onRaise (fun x => do noteFrame x env; theTreesLotGoes x)) _ _ s
  refine wpAny_noted ?_
  have nt : ∀ e s', (∃ a', St c a' s' ∧ Noted c A env (Came c A env E) e a') → notedBy (model c.prog c.w) A env (fun e s' => cameBackBy (model c.prog c.w) A env (fun e s' => ∃ a', St c a' s' ∧ E e a') e s') e s' := fun e s' ⟨a', h1, q⟩ =>
    wpAny_mono (q s' h1) (fun _ s'' x => came_of x) fun e' s'' x => came_of x
  unfold whileTurn
  refine wpAny_bind (wpAny_mono (turn n a hI s hs) (fun b s₁ ⟨a₁, h1, q⟩ => ?_) nt)
  cases b with
  | true =>
    refine wpAny_bind (wpAny_mono (q s₁ h1) (fun f s₂ ⟨a₂, h2, q⟩ => ?_) nt)
    cases f with
    | next => obtain ⟨m, hm, hi⟩ := q; exact wpAny_pure ⟨rfl, m, hm, a₂, h2, hi⟩
    | cont => obtain ⟨m, hm, hi⟩ := q; exact wpAny_pure ⟨rfl, m, hm, a₂, h2, hi⟩
    | brk => exact wpAny_pure ⟨a₂, h2, q⟩
    | ret v => exact wpAny_pure ⟨a₂, h2, q⟩
  | false =>
    exact wpAny_bind (wpAny_mono (q s₁ h1) (fun f s₂ x => wpAny_pure x) nt)
end
end Mine.Internal

namespace Mine.Internal
open PySem PySem.W PyProof.Rows PySem.Calls PySem.F

theorem mem_cellsFrom : ∀ {names : List (Str × NameKind)} {n : Nat} {acc : List (Str × Addr)} {p : Str × Addr}, p ∈ cellsFrom n names acc → p ∈ acc ∨ (p.1, NameKind.cell) ∈ names
  | [], _, _, _, h => .inl h
  | (x, k) :: r, n, acc, p, h => by
    unfold cellsFrom at h
    split at h
    · rename_i hk
      rcases mem_cellsFrom h with q | q
      · rcases List.mem_cons.mp q with e | q
        · subst e; rw [eq_of_beq hk]; exact .inr (List.mem_cons_self ..)
        · exact .inl q
      · exact .inr (List.mem_cons_of_mem _ q)
    · rcases mem_cellsFrom h with q | q
      · exact .inl q
      · exact .inr (List.mem_cons_of_mem _ q)
theorem cellsFrom_acc : ∀ {names : List (Str × NameKind)} {n : Nat} {acc : List (Str × Addr)} {p : Str × Addr}, p ∈ acc → p ∈ cellsFrom n names acc
  | [], _, _, _, h => h
  | (x, k) :: r, n, acc, p, h => by
    unfold cellsFrom
    split
    · exact cellsFrom_acc (List.mem_cons_of_mem _ h)
    · exact cellsFrom_acc h
theorem cellsFrom_has : ∀ {names : List (Str × NameKind)} {n : Nat} {acc : List (Str × Addr)} {x : Str}, (x, NameKind.cell) ∈ names → ∃ a, (x, a) ∈ cellsFrom n names acc
  | (y, k) :: r, n, acc, x, h => by
    unfold cellsFrom
    rcases List.mem_cons.mp h with e | h
    · cases e; exact ⟨n, by rw [if_pos (by rfl)]; exact cellsFrom_acc (List.mem_cons_self ..)⟩
    · split
      · exact cellsFrom_has h
      · exact cellsFrom_has h
theorem cellsFrom_nd : ∀ {names : List (Str × NameKind)} {n : Nat} {acc : List (Str × Addr)}, (names.map (·.1)).Nodup → (acc.map (·.1)).Nodup → (∀ x ∈ names.map (·.1), x ∉ acc.map (·.1)) → ((cellsFrom n names acc).map (·.1)).Nodup
  | [], _, _, _, h, _ => h
  | (y, k) :: r, n, acc, h1, h2, h3 => by
    simp only [List.map_cons, List.nodup_cons] at h1
    unfold cellsFrom
    split
    · refine cellsFrom_nd h1.2 ?_ ?_
      · simp only [List.map_cons, List.nodup_cons]
        exact ⟨h3 y (by simp), h2⟩
      · intro x hx q
        simp only [List.map_cons, List.mem_cons] at q
        rcases q with e | q
        · exact h1.1 (e ▸ hx)
        · exact h3 x (by simp only [List.map_cons, List.mem_cons]; exact .inr hx) q
    · exact cellsFrom_nd h1.2 h2 fun x hx => h3 x (by simp only [List.map_cons, List.mem_cons]; exact .inr hx)

theorem lookup_none_of {x : Str} {α : Type} : ∀ {l : List (Str × α)}, x ∉ l.map (·.1) → l.lookup x = none
  | [], _ => rfl
  | p :: l, h => by
    simp only [List.map_cons, List.mem_cons, not_or] at h
    rw [List.lookup_cons, beq_eq_false_iff_ne.mpr h.1]
    exact lookup_none_of h.2
theorem bindL_eq {k : Str → Option NameKind} {x : Str} : ∀ {b : List (Str × Value)} {m : Str → Option Value}, (b.map (·.1)).Nodup → bindL k b m x = if k x = some .local then (b.lookup x).or (m x) else m x
  | [], m, _ => by simp [bindL]
  | (n, v) :: r, m, h => by
    simp only [List.map_cons, List.nodup_cons] at h
    unfold bindL
    rw [bindL_eq h.2, List.lookup_cons]
    by_cases e : x = n
    · subst e
      by_cases q : k x = some .local
      · simp [q, lookup_none_of h.1]
      · simp [q]
    · rw [beq_eq_false_iff_ne.mpr e]
      by_cases q : k n = some .local
      · simp [q, e]
      · simp [q]
theorem bindC_eq {k : Str → Option NameKind} {x : Str} : ∀ {b : List (Str × Value)} {m : Str → Option Value}, (b.map (·.1)).Nodup → bindC k b m x = if k x = some .local then m x else (b.lookup x).or (m x)
  | [], m, _ => by simp [bindC]
  | (n, v) :: r, m, h => by
    simp only [List.map_cons, List.nodup_cons] at h
    unfold bindC
    rw [bindC_eq h.2, List.lookup_cons]
    by_cases e : x = n
    · subst e
      by_cases q : k x = some .local
      · simp [q, lookup_none_of h.1]
      · simp [q, lookup_none_of h.1]
    · rw [beq_eq_false_iff_ne.mpr e]
      by_cases q : k n = some .local
      · simp [q, e]
      · simp [q, e]

noncomputable def nkKind (b : Bool) : NameKind := if b then .cell else .local

structure FnOkC (K : Frag) (f : Addr) (nk : List (Str × Bool)) (gs : List Str) : Prop where
  fn : isFd K f = true
  code : codeIn K (fdOf K f).code (fdOf K f).qualname = true
  names : (fdOf K f).scope.names = nk.map (fun p => (p.1, nkKind p.2)) ++ gs.map (·, NameKind.globalImplicit)
  kind : (fdOf K f).scope.kind = .function
  co : (fdOf K f).scope.isCoroutine = false
  gen : (fdOf K f).scope.isGenerator = false
  body : (fdOf K f).body = .stmts (bodyOf (fdOf K f))
  gl : (fdOf K f).globals = mainGlobals
  bl : (fdOf K f).builtins = builtinsNs
  clo : (fdOf K f).closure = []
  nd : ((("__debug__" : Str) :: (nk.map (·.1) ++ gs)).map codeOf).Nodup

structure CapOk (env : Env) (cl : List (Str × Addr)) (xs : List Str) : Prop where
  kind : env.scope.kind = .function
  cap : ∀ x ∈ xs, (x == ("__debug__" : Str)) = false ∧ env.kindOf x = some .cell ∧ ∃ ca, env.cells.lookup x = some ca ∧ cl.lookup x = some ca

section
variable {c : Cx} {A : Around} {E : Value → AS → Prop} {a : AS} {env : Env} {fs : List Frm} {σ : Addr → Option (Nat × Cell)} {g : Array GenState} {k : Nat}

theorem Wk_call_C {K : Frag} {f : Addr} {nk : List (Str × Bool)} {ps rs ns : List Str} {gs : List (Str × Value)} {args : List Value} {us : List AV} {vs : List (Option AV)} {d : Nat} {R : Result → AS → Prop}
    (hK : c.K = K) (hf : FnOkC K f nk (gs.map (·.1))) (hnk : nk.map (·.1) = ps ++ rs) (hns : ns = ps ++ rs) (hbind : bindArgs (fdOf K f) ⟨args, []⟩ = pure (ps.zip args)) (hu : args.map er = us) (hi : Init ps us rs vs) (hglob : ∀ p ∈ gs, Glob c p.1 p.2) (hA : AOk A fs (d + 1))
    (h : ∀ L cl env, env = callEnvC (fdOf K f) L f → σ L = none → AOk (A.deeper env) (⟨L, cl, ns, vs⟩ :: fs) d → EnvOk c env L cl ns gs → CapOk env cl ((nk.filter (·.2)).map (·.1)) →
      W c (A.deeper env) (execs (bodyOf (fdOf K f)) env) (fun fl a' => Pop fs (R (.ok (.ret (retOf fl)))) a')
        (fun e a' => W c (A.deeper env) (leaving env e) (fun _ a'' => Pop fs (R (.error e)) a'') (fun _ _ => False) a') ⟨⟨L, cl, ns, vs⟩ :: fs, σ, g⟩) :
    Wk c A (.call (.ref f) ⟨args, []⟩) R ⟨fs, σ, g⟩ := by
  subst hK hns
  obtain ⟨o, ho, hd⟩ := fdOf_ex hf.fn
  have hnm := hf.names
  have hnd := nodup_of_codes hf.nd
  have hnd2 := (List.nodup_cons.mp hnd).2
  have hkeys : ((fdOf c.K f).scope.names.map (·.1)).Nodup := by
    rw [hnm, List.map_append, List.map_map, List.map_map]
    simpa [Function.comp_def] using hnd2
  have look : ∀ {p}, p ∈ (fdOf c.K f).scope.names → (fdOf c.K f).scope.names.lookup p.1 = some p.2 := fun hp => lookup_nodup hkeys hp
  have nodbg : ∀ x ∈ nk.map (·.1) ++ gs.map (·.1), (x == ("__debug__" : Str)) = false := fun x hx => beq_eq_false_iff_ne.mpr fun e => (List.nodup_cons.mp hnd).1 (e ▸ hx)
  have hnsnd : (ps ++ rs).Nodup := hnk ▸ (List.nodup_append.mp hnd2).1
  intro s hs
  obtain ⟨f1, f2, f3⟩ := hs.fresh
  have X : c.K.In s.heap := c.inK.keeps hs.keep
  generalize hL : s.heap.objs.size = L at *
  have clmem : ∀ {p : Str × Addr}, p ∈ cellsFrom (L + 1) (fdOf c.K f).scope.names [] → (p.1, NameKind.cell) ∈ (fdOf c.K f).scope.names := fun hp => (mem_cellsFrom hp).resolve_left (by simp)
  have clnd : ((cellsFrom (L + 1) (fdOf c.K f).scope.names []).map (·.1)).Nodup := cellsFrom_nd hkeys .nil (by simp)
  have cllook : ∀ {x : Str}, (x, NameKind.cell) ∈ (fdOf c.K f).scope.names → ∃ ca, (cellsFrom (L + 1) (fdOf c.K f).scope.names []).lookup x = some ca := fun hx => by
    obtain ⟨ca, hc⟩ := cellsFrom_has (n := L + 1) (acc := []) hx
    exact ⟨ca, lookup_nodup clnd hc⟩
  have nkm : ∀ {x : Str}, x ∈ ps ++ rs → ∃ b, (x, nkKind b) ∈ (fdOf c.K f).scope.names ∧ (x, b) ∈ nk := fun {x} hx => by
    rw [← hnk] at hx
    obtain ⟨p, hp, rfl⟩ := List.mem_map.mp hx
    exact ⟨p.2, by rw [hnm]; exact List.mem_append_left _ (List.mem_map.mpr ⟨p, hp, rfl⟩), hp⟩
  have EO : EnvOk c (callEnvC (fdOf c.K f) L f) L (cellsFrom (L + 1) (fdOf c.K f).scope.names []) (ps ++ rs) gs := by
    refine ⟨hf.kind, rfl, hnsnd, clnd, fun x hx => ⟨nodbg x (List.mem_append_left _ (hnk ▸ hx)), ?_⟩, fun p hp => ⟨nodbg _ (List.mem_append_right _ (List.mem_map_of_mem hp)), look (p := (p.1, .globalImplicit)) ?_, hglob p hp⟩, hf.gl, hf.bl⟩
    · obtain ⟨b, hb, _⟩ := nkm hx
      cases b with
      | false =>
        refine .inl ⟨lookup_none_of fun q => ?_, look hb⟩
        obtain ⟨p, hp, rfl⟩ := List.mem_map.mp q
        have e1 := look (clmem hp)
        have e2 := look hb
        dsimp only at e1 e2
        rw [e1] at e2
        cases e2
      | true =>
        obtain ⟨ca, hc⟩ := cllook hb
        exact .inr ⟨ca, hc, look hb, hc⟩
    · rw [hnm]; exact List.mem_append_right _ (by rw [List.map_map]; exact List.mem_map.mpr ⟨p, hp, rfl⟩)
  have CO : CapOk (callEnvC (fdOf c.K f) L f) (cellsFrom (L + 1) (fdOf c.K f).scope.names []) ((nk.filter (·.2)).map (·.1)) := by
    refine ⟨hf.kind, fun x hx => ?_⟩
    obtain ⟨p, hp, rfl⟩ := List.mem_map.mp hx
    obtain ⟨hp1, hp2⟩ := List.mem_filter.mp hp
    have hm : (p.1, NameKind.cell) ∈ (fdOf c.K f).scope.names := by
      rw [hnm]; refine List.mem_append_left _ (List.mem_map.mpr ⟨p, hp1, by simp [nkKind, hp2]⟩)
    obtain ⟨ca, hc⟩ := cllook hm
    exact ⟨nodbg _ (List.mem_append_left _ (List.mem_map_of_mem hp1)), look hm, ca, hc, hc⟩
  have zm : ∀ x ∈ ps.zip args, x.1 ∈ ps ++ rs := fun x hx => List.mem_append_left _ (List.of_mem_zip hx).1
  refine codeAny_call_cells hA.room (X _ _ ho) hd (c.nolim.keeps hs.keep) (codeRec_of X hf.code) hf.body hbind hf.clo (fun x hx => ?_) (fun s₁ x => ?_) hf.co hf.gen hf.kind
  · obtain ⟨b, hb, _⟩ := nkm (zm x hx)
    cases b with
    | false => exact .inl (look hb)
    | true =>
      obtain ⟨ca, hc⟩ := cllook hb
      exact .inr ⟨look hb, by rw [hL, hc]; rfl⟩
  rw [hL] at x ⊢
  have kd : ∀ y, (callEnvC (fdOf c.K f) L f).kindOf y = (fdOf c.K f).scope.names.lookup y := fun _ => rfl
  have hzn := zip_nodup (args := args) (List.nodup_append.mp hnsnd).1
  have big : ∀ b, L ≤ b → c.base.get? b = none ∧ σ b = none ∧ b ∉ fs.flatMap Frm.as := by
    intro b hb
    have lt : ∀ {o}, s.heap.get? b = some o → False := fun e => by have := Heap.lt_size e; rw [hL] at this; exact absurd hb (Nat.not_le.mpr this)
    refine ⟨?_, ?_, fun hm => ?_⟩
    · cases e : c.base.get? b with
      | none => rfl
      | some o => exact (lt (hs.keep _ _ e)).elim
    · cases e : σ b with
      | none => rfl
      | some p =>
        obtain ⟨⟨o, ho, _⟩, _⟩ := hs.own _ p.1 p.2 e
        exact (lt ho).elim
    · obtain ⟨f, hf, hx⟩ := List.mem_flatMap.mp hm
      obtain ⟨m, ⟨o, es, ep, ho, _⟩, _, h3⟩ := hs.fr f hf
      simp only [Frm.as, List.mem_cons, List.mem_map] at hx
      rcases hx with e | ⟨p, hp, e⟩
      · exact lt (e ▸ ho)
      · obtain ⟨ov, ⟨oc, hc, _⟩, _⟩ := h3 p hp
        exact lt (e ▸ hc)
  have abv : ∀ p ∈ cellsFrom (L + 1) (fdOf c.K f).scope.names [], L < p.2 := fun p hp => x.above p.1 p.2 hp
  have asL : ∀ b ∈ (L :: (cellsFrom (L + 1) (fdOf c.K f).scope.names []).map (·.2)), L ≤ b := fun b hb => by
    rcases List.mem_cons.mp hb with rfl | hb
    · exact Nat.le_refl _
    · obtain ⟨p, hp, rfl⟩ := List.mem_map.mp hb
      exact Nat.le_of_lt (abv p hp)
  have S : St c ⟨⟨L, cellsFrom (L + 1) (fdOf c.K f).scope.names [], ps ++ rs, vs⟩ :: fs, σ, g⟩ s₁ := by
    obtain ⟨h', tk, e⟩ := x.toInCall.same
    have hk := x.toInCall.keep
    refine ⟨fun b o e => hk b o (hs.keep b o e), fun f' hf => ?_, fun f' hf => ?_, ?_, fun y k cl e => ?_, by rw [e]; exact hs.os, by rw [e]; exact hs.gens⟩
    · rcases List.mem_cons.mp hf with rfl | hf
      · refine ⟨_, x.toInCall.ns, fun y hy => ?_, fun p hp => ?_⟩
        · rw [bindL_eq hzn]
          have := hi.gv args hu y
          rw [← this, kd]
          by_cases q : (fdOf c.K f).scope.names.lookup y = some .local
          · rw [if_pos q]; cases (ps.zip args).lookup y <;> rfl
          · rw [if_neg q]
            cases z : (ps.zip args).lookup y with
            | none => rfl
            | some v =>
              exfalso
              obtain ⟨b, hb, _⟩ := nkm (zm _ (PySem.mem_of_lookup z))
              cases b with
              | false => exact q (look hb)
              | true =>
                obtain ⟨ca, hc⟩ := cllook hb
                dsimp only at hc hy
                rw [hc] at hy; cases hy
        · refine ⟨_, x.cell p.1 p.2 (lookup_nodup clnd hp), ?_⟩
          rw [bindC_eq hzn, kd, look (clmem hp), if_neg (by intro q; cases q)]
          rw [← hi.gv args hu p.1]
          cases (ps.zip args).lookup p.1 <;> rfl
      · exact (hs.fr f' hf).keeps fun b _ o e => hk b o e
    · rcases List.mem_cons.mp hf with rfl | hf
      · exact fun y hy => (big y (asL y hy)).1
      · exact hs.nb f' hf
    · rw [List.flatMap_cons]
      refine List.nodup_append.mpr ⟨?_, hs.nd, fun y hy z hz e => (big y (asL y hy)).2.2 (e ▸ hz)⟩
      simp only [Frm.as, List.nodup_cons]
      refine ⟨fun q => ?_, ?_⟩
      · obtain ⟨p, hp, e⟩ := List.mem_map.mp q
        have := abv p hp
        rw [e] at this; exact Nat.lt_irrefl _ this
      · have := x.apart
        exact List.pairwise_map.mpr this
    · obtain ⟨⟨o', ho', ok⟩, r1, r2⟩ := hs.own y k cl e
      refine ⟨⟨o', hk _ _ ho', ok⟩, r1, fun q => ?_⟩
      rw [List.flatMap_cons] at q
      rcases List.mem_append.mp q with q | q
      · have := (big y (asL y q)).2.1
        dsimp only at e; rw [this] at e; cases e
      · exact r2 q
  refine wpAny_mono (h L _ _ rfl f1 (hA.deeper hf.kind rfl) EO CO _ S) (fun fl s' ⟨a', h1, f', e1, q⟩ => ?_) (fun e s' ⟨a', h1, q⟩ => ?_)
  · obtain ⟨fs', σ', g'⟩ := a'
    dsimp only at e1 q; subst e1
    exact ⟨_, h1.pop, by cases fl <;> exact q⟩
  · refine wpAny_mono (q s' h1) (fun _ s'' ⟨a'', h2, f', e1, q⟩ => ?_) fun _ _ ⟨_, _, x⟩ => x.elim
    obtain ⟨fs', σ', g'⟩ := a''
    dsimp only at e1 q; subst e1
    exact ⟨_, h2.pop, q⟩

theorem W_call_C {K : Frag} {f : Addr} {nk : List (Str × Bool)} {ps rs ns : List Str} {gs : List (Str × Value)} {args : List Value} {us : List AV} {vs : List (Option AV)} {d : Nat} {Q : Value → AS → Prop}
    (hK : c.K = K) (hf : FnOkC K f nk (gs.map (·.1))) (hnk : nk.map (·.1) = ps ++ rs) (hns : ns = ps ++ rs) (hbind : bindArgs (fdOf K f) ⟨args, []⟩ = pure (ps.zip args)) (hu : args.map er = us) (hi : Init ps us rs vs) (hglob : ∀ p ∈ gs, Glob c p.1 p.2) (hA : AOk A fs (d + 1))
    (h : ∀ L cl env, env = callEnvC (fdOf K f) L f → σ L = none → AOk (A.deeper env) (⟨L, cl, ns, vs⟩ :: fs) d → EnvOk c env L cl ns gs → CapOk env cl ((nk.filter (·.2)).map (·.1)) →
      W c (A.deeper env) (execs (bodyOf (fdOf K f)) env) (fun fl a' => Pop fs (Q (retOf fl)) a')
        (fun e a' => W c (A.deeper env) (leaving env e) (fun _ a'' => Pop fs (E e) a'') (fun _ _ => False) a') ⟨⟨L, cl, ns, vs⟩ :: fs, σ, g⟩) :
    W c A (call (.ref f) args) Q E ⟨fs, σ, g⟩ := W_call (Wk_call_C hK hf hnk hns hbind hu hi hglob hA h)

/-- a captured name -/
theorem W_NameCap {x : Str} {pos : Pos} {v : AV} {L : Addr} {cl : List (Str × Addr)} {ns xs : List Str} {vs : List (Option AV)} {Q : Value → AS → Prop} (he : CapOk env cl xs) (hx : x ∈ xs) (hf : ⟨L, cl, ns, vs⟩ ∈ a.fs) (hv : VarAt ns vs x (some v)) (hnd : ns.Nodup) (h : All v (fun u => Q u a)) :
    W c A (eval (.Name x pos) env) Q E a := by
  intro s hs
  obtain ⟨e, hm⟩ := hv.gv hnd
  obtain ⟨m, hn, h2, h3⟩ := hs.fr _ hf
  obtain ⟨d1, d2, ca, d3, d4⟩ := he.cap x hx
  obtain ⟨ov, hov, eo⟩ := h3 _ (lookup_mem d4)
  obtain ⟨u, rfl, eu⟩ := map_some_of (eo.trans e)
  exact wpAny_Name (wpAny_loadName_cell he.kind d2 d3 hov ⟨_, hs, h.at eu⟩) d1
end
end Mine.Internal

namespace Mine.Internal
open PySem PySem.W PyProof.Rows PySem.Calls PySem.F

structure CScope (sc : Scope) (x : Str) (gls caps : List Str) : Prop where
  kind : sc.kind = .function
  names : sc.names = ((".0" : Str), NameKind.local) :: (x, NameKind.local) :: (gls.map (·, NameKind.globalImplicit) ++ caps.map (·, NameKind.free))
  nd : ((("__debug__" : Str) :: (".0" : Str) :: x :: (gls ++ caps)).map codeOf).Nodup

noncomputable def capCells (env : Env) (caps : List Str) : List (Str × Addr) := (caps.map fun n => (n, (env.cells.lookup n).getD 0)).reverse

theorem closure_loop {env : Env} (f : Str × NameKind → List (Str × Addr) → Sem (ForInStep (List (Str × Addr))))
    (hf : ∀ n k cs, f (n, k) cs = if k == .free then (do let a ← cellOf env n; pure (.yield ((n, a) :: cs))) else pure (.yield cs)) :
    ∀ (names : List (Str × NameKind)) (acc : List (Str × Addr)), (∀ p ∈ names, p.2 = .free → ∃ ca, env.cells.lookup p.1 = some ca) →
      forIn names acc f = (pure (((names.filter fun p => p.2 == .free).map fun p => (p.1, (env.cells.lookup p.1).getD 0)).reverse ++ acc) : Sem _)
  | [], acc, _ => rfl
  | (n, k) :: r, acc, h => by
    have ih := closure_loop f hf r
    rw [List.forIn_cons, hf]
    by_cases e : k = .free
    · subst e
      obtain ⟨ca, hca⟩ := h (n, .free) (List.mem_cons_self ..) rfl
      dsimp only at hca
      have : cellOf env n = pure ca := by unfold cellOf; rw [hca]
      rw [if_pos (by rfl), this]
      show forIn r ((n, ca) :: acc) f = _
      rw [ih _ fun p hp => h p (List.mem_cons_of_mem _ hp)]
      simp [List.filter_cons, hca]
    · have e' : (k == NameKind.free) = false := beq_eq_false_iff_ne.mpr e
      rw [if_neg (by simp [e'])]
      show forIn r acc f = _
      rw [ih _ fun p hp => h p (List.mem_cons_of_mem _ hp)]
      simp [List.filter_cons, e']

section
variable {c : Cx} {A : Around} {E : Value → AS → Prop} {a : AS} {env : Env} {fs : List Frm} {σ : Addr → Option (Nat × Cell)} {g : Array GenState} {k : Nat}
  {sc : Scope} {x : Str} {gls caps : List Str} {cl : List (Str × Addr)}

theorem CScope.closure (h : CScope sc x gls caps) (hc : CapOk env cl caps) : closureFor sc env = pure (capCells env caps) := by
  unfold closureFor
  have hf : ∀ p ∈ sc.names, p.2 = NameKind.free → ∃ ca, env.cells.lookup p.1 = some ca := by
    intro p hp hk
    rw [h.names] at hp
    simp only [List.mem_cons, List.mem_append, List.mem_map] at hp
    rcases hp with rfl | rfl | ⟨y, _, rfl⟩ | ⟨y, hy, rfl⟩
    · cases hk
    · cases hk
    · cases hk
    · obtain ⟨_, _, ca, h1, _⟩ := hc.cap y hy
      exact ⟨ca, h1⟩
  have := closure_loop (env := env) (fun p cs => if (p.2 == NameKind.free) = true then (do let a ← cellOf env p.1; pure (.yield ((p.1, a) :: cs))) else pure (.yield cs)) (fun _ _ _ => rfl) sc.names [] hf
  have e : ((sc.names.filter fun p => p.2 == NameKind.free).map fun p => (p.1, (env.cells.lookup p.1).getD 0)).reverse ++ [] = capCells env caps := by
    unfold capCells
    rw [h.names, List.append_nil]
    congr 1
    rw [List.filter_cons, List.filter_cons]
    rw [if_neg (by simp), if_neg (by simp), List.filter_append]
    have e1 : (gls.map (·, NameKind.globalImplicit)).filter (fun p => p.2 == NameKind.free) = [] := by
      rw [List.filter_eq_nil_iff]; intro p hp; obtain ⟨y, _, rfl⟩ := List.mem_map.mp hp; simp
    have e2 : (caps.map (·, NameKind.free)).filter (fun p => p.2 == NameKind.free) = caps.map (·, NameKind.free) := by
      rw [List.filter_eq_self]; intro p hp; obtain ⟨y, _, rfl⟩ := List.mem_map.mp hp; simp
    rw [e1, e2, List.nil_append, List.map_map]
    rfl
  rw [e] at this
  refine Eq.trans (b := ((forIn sc.names [] (fun p cs => if (p.2 == NameKind.free) = true then (do let a ← cellOf env p.1; pure (.yield ((p.1, a) :: cs))) else pure (.yield cs))) >>= fun cs => pure cs)) ?_ ?_
  · congr 1
  · rw [this]
    rfl

theorem CScope.keys (h : CScope sc x gls caps) : (sc.names.map (·.1)).Nodup := by
  have := (List.nodup_cons.mp (nodup_of_codes h.nd)).2
  rw [h.names]
  simpa [Function.comp_def] using this

theorem relabel_lookup {names : List (Str × NameKind)} : (names.map fun (n, k) => if (k == NameKind.free && env.scope.kind == ScopeKind.function && env.kindOf n == some NameKind.cell) then (n, NameKind.cell) else (n, k)).map (·.1) = names.map (·.1) := by
  rw [List.map_map]
  congr 1
  funext p
  obtain ⟨n, k⟩ := p
  simp only [Function.comp_apply]
  split <;> rfl

theorem CScope.envOk (h : CScope sc x gls caps) (hc : CapOk env cl caps) {C : Addr} {gs : List (Str × Value)} (hg : gs.map (·.1) = gls) (hglob : ∀ p ∈ gs, Glob c p.1 p.2) (hgl : env.globals = mainGlobals) (hbl : env.builtins = builtinsNs) :
    EnvOk c (compEnvC sc (capCells env caps) C env) C [] [x] gs ∧ CapOk (compEnvC sc (capCells env caps) C env) cl caps := by
  have hkeys := h.keys
  have hnd := nodup_of_codes h.nd
  have nodbg : ∀ y ∈ (".0" : Str) :: x :: (gls ++ caps), (y == ("__debug__" : Str)) = false := fun y hy => beq_eq_false_iff_ne.mpr fun e => (List.nodup_cons.mp hnd).1 (e ▸ hy)
  have look : ∀ {p : Str × NameKind}, p ∈ (relabel sc env).names → (compEnvC sc (capCells env caps) C env).kindOf p.1 = some p.2 := fun hp => lookup_nodup (l := (relabel sc env).names) (by rw [relabel, relabel_lookup]; exact hkeys) hp
  have rmem : ∀ {n : Str} {kk : NameKind}, (n, kk) ∈ sc.names → (if (kk == NameKind.free && env.scope.kind == .function && env.kindOf n == some .cell) then (n, NameKind.cell) else (n, kk)) ∈ (relabel sc env).names := fun {n kk} hp => List.mem_map.mpr ⟨(n, kk), hp, rfl⟩
  refine ⟨⟨h.kind, rfl, by simp, .nil, fun y hy => ?_, fun p hp => ⟨nodbg _ ?_, ?_, hglob p hp⟩, hgl, hbl⟩, ⟨h.kind, fun y hy => ⟨nodbg y ?_, ?_, ?_⟩⟩⟩
  · rw [List.mem_singleton] at hy; subst hy
    refine ⟨nodbg y (by simp), .inl ⟨rfl, ?_⟩⟩
    have := rmem (n := y) (kk := .local) (by rw [h.names]; simp)
    exact look (p := (y, .local)) (by simpa using this)
  · have : p.1 ∈ gls := hg ▸ List.mem_map_of_mem hp
    simp [this]
  · have hm : p.1 ∈ gls := hg ▸ List.mem_map_of_mem hp
    have := rmem (n := p.1) (kk := .globalImplicit) (by rw [h.names]; simp [hm])
    exact look (p := (p.1, .globalImplicit)) (by simpa using this)
  · simp [hy]
  · have := rmem (n := y) (kk := .free) (by rw [h.names]; simp [hy])
    obtain ⟨_, h2, _⟩ := hc.cap y hy
    rw [if_pos (by rw [hc.kind, h2]; rfl)] at this
    exact look (p := (y, .cell)) this
  · obtain ⟨_, _, ca, h3, h4⟩ := hc.cap y hy
    refine ⟨ca, ?_, h4⟩
    have hcn : caps.Nodup := by
      have := (List.nodup_cons.mp hnd).2
      have := (List.nodup_cons.mp (List.nodup_cons.mp this).2).2
      exact (List.nodup_append.mp this).2.1
    have : ((capCells env caps).map (·.1)).Nodup := by
      unfold capCells
      rw [List.map_reverse, List.map_map]
      exact (List.reverse_perm _).nodup_iff.mpr (by simpa [Function.comp_def] using hcn)
    exact lookup_nodup this (p := (y, ca)) (by unfold capCells; rw [List.mem_reverse]; exact List.mem_map.mpr ⟨y, hy, by rw [h3]; rfl⟩)

/-- what is left of a comprehension when its iterator stands -/
noncomputable def CompK (c : Cx) (A : Around) (env : Env) (elt iter : Expr) (x : Str) (px : Pos) (ifs : List Expr) (sc : Scope) (pos : Pos) (caps : List Str) (use : Option (Value → Sem Unit)) (it : Value) (Q : Value → AS → Prop) (E : Value → AS → Prop) (a : AS) : Prop :=
  ∀ s, St c a s → wpAny (model c.prog c.w) A (newList []) (fun acc s₃ => wpAny (model c.prog c.w) A (newFunctionEnv sc env.globals (capCells env caps) [] env.qual none .none (some env)) (fun cenv s₄ =>
    codeAny (model c.prog c.w) A (.compStart (.ListComp elt [⟨.Name x px, iter, ifs, 0⟩] sc pos) 0 it acc { cenv with scope := relabel sc env })
      (compPost (model c.prog c.w) A (fun e s' => ∃ a', St c a' s' ∧ E e a') use (fun v s' => ∃ a', St c a' s' ∧ Q v a') acc cenv.locals) s₄) (fun e s' => ∃ a', St c a' s' ∧ E e a') s₃) (fun e s' => ∃ a', St c a' s' ∧ E e a') s

theorem CScope.names_ok (h : CScope sc x gls caps) : ∀ y ∈ sc.names, y.2 = .local → sc.names.lookup y.1 = some .local := fun y hy e => by
  have := lookup_nodup h.keys hy
  rw [e] at this; exact this

theorem W_ListComp {elt iter : Expr} {px : Pos} {ifs : List Expr} {pos : Pos} {Q : Value → AS → Prop} (h : CScope sc x gls caps) (hc : CapOk env cl caps)
    (hw : W c A (eval iter env) (fun xv a₁ => W c A (pyIter xv) (fun it a₂ => CompK c A env elt iter x px ifs sc pos caps none it Q E a₂) E a₁) E a)
    (hs : ∀ x, foldedSetIterable iter env x = pure x := by intro _; with_unfolding_all rfl) : W c A (eval (.ListComp elt [⟨.Name x px, iter, ifs, 0⟩] sc pos) env) Q E a := by
  intro s hs'
  rw [eval_ListComp]
  refine wpAny_comprehension_free (use := none) rfl hs (h.closure hc) h.kind h.names_ok (wpAny_mono (hw s hs') (fun xv s₁ ⟨a₁, h1, q⟩ => wpAny_mono (q s₁ h1) (fun it s₂ ⟨a₂, h2, q⟩ => ?_) fun _ _ e => e) fun _ _ e => e)
  exact q s₂ h2

theorem W_Assign_ListComp {elt iter : Expr} {px : Pos} {ifs : List Expr} {pos spos py : Pos} {y : Str} {Q : Flow → AS → Prop} (h : CScope sc x gls caps) (hc : CapOk env cl caps)
    (hsw : swapsWith (.ListComp elt [⟨.Name x px, iter, ifs, 0⟩] sc pos) (some (.Name y py)) spos.line env = pure true)
    (hw : W c A (eval iter env) (fun xv a₁ => W c A (pyIter xv) (fun it a₂ => CompK c A env elt iter x px ifs sc pos caps (some (assign (.Name y py) env)) it (fun _ a' => Q .next a') E a₂) E a₁) E a)
    (hs : ∀ x, foldedSetIterable iter env x = pure x := by intro _; with_unfolding_all rfl) : W c A (exec (.Assign [.Name y py] (.ListComp elt [⟨.Name x px, iter, ifs, 0⟩] sc pos) spos) env) Q E a := by
  intro s hs'
  rw [exec_Assign_Name_used _ _ _ _ hsw]
  refine wpAny_bind (wpAny_standAt (wpAny_bind ?_))
  show wpAny _ A (do let _ ← comprehension (.ListComp elt [⟨.Name x px, iter, ifs, 0⟩] sc pos) sc env _ (newList []) false (eval iter env) (some (assign (.Name y py) env))) _ _ s
  refine wpAny_bind (wpAny_mono (wpAny_comprehension_free (use := some (assign (.Name y py) env)) (Q := fun _ s' => ∃ a', St c a' s' ∧ Q .next a') rfl hs (h.closure hc) h.kind h.names_ok
    (wpAny_mono (hw s hs') (fun xv s₁ ⟨a₁, h1, q⟩ => wpAny_mono (q s₁ h1) (fun it s₂ ⟨a₂, h2, q⟩ => ?_) fun _ _ e => e) fun _ _ e => e)) (fun _ s' hq => wpAny_pure (wpAny_pure hq)) fun _ _ e => e)
  exact q s₂ h2

theorem St.pushComp {s : Shared} {h₁ : Heap} {tk : Nat} {ns : List Str} {vs : List (Option AV)} (hs : St c ⟨fs, σ, g⟩ s) (hns : h₁.Ns s.heap.objs.size (fun _ => none)) (hk : ∀ b o, s.heap.get? b = some o → h₁.get? b = some o)
    (hv : ∀ y, gv ns vs y = none) : St c ⟨⟨s.heap.objs.size, [], ns, vs⟩ :: fs, σ, g⟩ { s with heap := h₁, toks := tk } := by
  obtain ⟨f1, f2, f3⟩ := hs.fresh
  refine ⟨fun b o e => hk b o (hs.keep b o e), fun f' hf => ?_, fun f' hf => ?_, ?_, fun x k cl e => ?_, hs.os, hs.gens⟩
  · rcases List.mem_cons.mp hf with rfl | hf
    · exact ⟨_, hns, fun x _ => by dsimp only; rw [hv]; rfl, fun p hp => by cases hp⟩
    · exact (hs.fr f' hf).keeps fun b _ o e => hk b o e
  · rcases List.mem_cons.mp hf with rfl | hf
    · intro x hx
      simp only [Frm.as, List.map_nil, List.mem_singleton] at hx
      rw [hx]; exact f3
    · exact hs.nb f' hf
  · rw [List.flatMap_cons]
    refine List.nodup_append.mpr ⟨by simp [Frm.as], hs.nd, fun x hx y hy e => ?_⟩
    simp only [Frm.as, List.map_nil, List.mem_singleton] at hx
    exact f2 (by rw [← hx, e]; exact hy)
  · obtain ⟨⟨o', ho', ok⟩, r1, r2⟩ := hs.own x k cl e
    refine ⟨⟨o', hk _ _ ho', ok⟩, r1, fun q => ?_⟩
    rw [List.flatMap_cons] at q
    rcases List.mem_append.mp q with q | q
    · simp only [Frm.as, List.map_nil, List.mem_singleton] at q
      rw [q] at e; dsimp only at e f1; rw [f1] at e; cases e
    · exact r2 q

/-- the head frame is let go, whatever its dict became -/
theorem St.popBut {f : Frm} {s : Shared} {h' : Heap} (hs : St c ⟨f :: fs, σ, g⟩ s) (hc : f.cl = []) (hsb : Heap.SameBut f.L s.heap h') : St c ⟨fs, σ, g⟩ { s with heap := h' } := by
  have P := hs.pop
  have nd := hs.nd
  rw [List.flatMap_cons] at nd
  have hL : f.L ∉ fs.flatMap Frm.as := fun q => (List.nodup_append.mp nd).2.2 f.L (by simp [Frm.as]) f.L q rfl
  have hk : ∀ b o, b ≠ f.L → s.heap.get? b = some o → h'.get? b = some o := fun b o q e => (hsb.2 b q).trans e
  refine ⟨fun b o e => hk b o (fun q => ?_) (P.keep b o e), fun f' hf => (P.fr f' hf).keeps fun b hb o e => hk b o (fun q => hL (q ▸ List.mem_flatMap.mpr ⟨f', hf, hb⟩)) e, P.nb, P.nd, fun y k cl e => ?_, P.os, P.gens⟩
  · have := hs.nb f (List.mem_cons_self ..) f.L (by simp [Frm.as])
    rw [q, this] at e; cases e
  · obtain ⟨⟨o, ho, ok⟩, r1, r2⟩ := P.own y k cl e
    refine ⟨⟨o, hk y o (fun q => ?_) ho, ok⟩, r1, r2⟩
    obtain ⟨_, _, r3⟩ := hs.own y k cl e
    exact r3 (by rw [List.flatMap_cons]; exact List.mem_append_left _ (by simp [Frm.as, q]))

theorem St.swap {f f' : Frm} {s : Shared} (hs : St c ⟨f :: f' :: fs, σ, g⟩ s) : St c ⟨f' :: f :: fs, σ, g⟩ s := by
  have mem : ∀ x, x ∈ f' :: f :: fs → x ∈ f :: f' :: fs := fun x hx => by
    simp only [List.mem_cons] at hx ⊢
    rcases hx with h | h | h
    · exact .inr (.inl h)
    · exact .inl h
    · exact .inr (.inr h)
  refine ⟨hs.keep, fun x hx => hs.fr x (mem x hx), fun x hx => hs.nb x (mem x hx), ?_, fun y k cl e => ?_, hs.os, hs.gens⟩
  · have := hs.nd
    simp only [List.flatMap_cons] at this ⊢
    have p : (f'.as ++ (f.as ++ fs.flatMap Frm.as)).Perm (f.as ++ (f'.as ++ fs.flatMap Frm.as)) := by
      rw [← List.append_assoc, ← List.append_assoc]
      exact List.Perm.append_right _ List.perm_append_comm
    exact p.nodup_iff.mpr this
  · obtain ⟨r1, r2, r3⟩ := hs.own y k cl e
    refine ⟨r1, r2, fun q => r3 ?_⟩
    simp only [List.flatMap_cons, List.mem_append] at q ⊢
    rcases q with h | h | h
    · exact .inr (.inl h)
    · exact .inl h
    · exact .inr (.inr h)

theorem St.recolour {s : Shared} {x : Addr} {k k' : Nat} {cl : Cell} (hs : St c ⟨fs, σ, g⟩ s) (hx : σ x = some (k, cl)) : St c ⟨fs, upd σ x (some (k', cl)), g⟩ s := by
  refine ⟨hs.keep, hs.fr, hs.nb, hs.nd, fun y k2 cl2 e => ?_, hs.os, hs.gens⟩
  by_cases q : y = x
  · subst q
    dsimp only at e
    rw [upd_self] at e
    cases e
    exact hs.own y k cl hx
  · dsimp only at e
    rw [upd_ne q] at e
    exact hs.own y k2 cl2 e

noncomputable def testsOf (ifs : List Expr) (env : Env) : Sem Bool := forIn ifs true fun c r => if r = true then do let ok ← isTrue c env (eval c env); pure (ForInStep.yield ok) else pure (ForInStep.yield r)
theorem W_tests_nil {Q : Bool → AS → Prop} (h : Q true a) : W c A (testsOf [] env) Q E a := fun s hs => wpAny_tests_nil ⟨_, hs, h⟩
theorem W_tests_one {e : Expr} {Q : Bool → AS → Prop} (h : W c A (isTrue e env (eval e env)) Q E a) : W c A (testsOf [e] env) Q E a := fun s hs => wpAny_tests_one (h s hs)

noncomputable def IterSelf (c : Cx) (A : Around) (cell : Nat → Cell) : Prop := ∀ {it i fs σ g} {Q : Value → AS → Prop} {E : Value → AS → Prop}, σ it = some (9, cell i) → Q (.ref it) ⟨fs, σ, g⟩ → W c A (pyIter (.ref it)) Q E ⟨fs, σ, g⟩

inductive CompI (c : Cx) (fs : List Frm) (g : Array GenState) (C : Addr) (x : Str) (N : Nat) (it D : Addr) (cell : Nat → Cell) (src : (Addr → Option (Nat × Cell)) → Prop) (J : Nat → List AV → (Addr → Option (Nat × Cell)) → Prop) (Cs : List Nat) (σ₀ : Addr → Option (Nat × Cell)) (n : Nat) (s' : Shared) : Prop
  | mk (i : Nat) (ys : List AV) (vx : Option AV) (σ : Addr → Option (Nat × Cell)) : St c ⟨⟨C, [], [x], [vx]⟩ :: fs, σ, g⟩ s' → n + i = N → σ it = some (9, cell i) → σ D = some (9, .list ys) → src σ → J i ys σ → Ext Cs σ₀ σ → CompI c fs g C x N it D cell src J Cs σ₀ n s'
theorem ite_of {p : Prop} [Decidable p] {a b : Prop} (hp : p) (h : if p then a else b) : a := by rwa [if_pos hp] at h
theorem CompK_loop {elt iter : Expr} {px : Pos} {ifs : List Expr} {pos : Pos} {use : Option (Value → Sem Unit)} {it : Addr} {vs : List AV} {src : (Addr → Option (Nat × Cell)) → Prop} {cell : Nat → Cell} {σ₀ σ₁ : Addr → Option (Nat × Cell)} {gs : List (Str × Value)} {Q : Value → AS → Prop}
    (h : CScope sc x gls caps) (hc : CapOk env cl caps) (hg : gs.map (·.1) = gls) (hglob : ∀ p ∈ gs, Glob c p.1 p.2) (hgl : env.globals = mainGlobals) (hbl : env.builtins = builtinsNs)
    (IO : IterOf c A vs k src cell) (IS : IterSelf c A cell) (Cs : List Nat) (h9 : 9 ∉ Cs) (hk : k ∉ Cs) (hk9 : k ≠ 9) (kd : Nat) (J : Nat → List AV → (Addr → Option (Nat × Cell)) → Prop)
    (stab : ∀ i ys σ σ', J i ys σ → Ext [9] σ σ' → J i ys σ') (hit : σ₀ it = none) (e₁ : σ₁ = upd σ₀ it (some (9, cell 0))) (hsrc : src σ₁) (hJ : J 0 [] σ₀)
    (hlen : ∀ i ys σ, J i ys σ → ys.length ≤ 1000000)
    (turn : ∀ C cenv i v σ ys, EnvOk c cenv C [] [x] gs → CapOk cenv cl caps → cenv.globals = mainGlobals → cenv.builtins = builtinsNs → J i ys σ → vs[i]? = some v → src σ → Ext Cs σ₀ σ →
      W c A (testsOf ifs cenv) (fun ok a' => if ok then W c A (eval elt cenv) (fun y a'' => ∃ σ', a'' = ⟨⟨C, [], [x], [some v]⟩ :: fs, σ', g⟩ ∧ Ext Cs σ σ' ∧ J (i + 1) (ys ++ [er y]) σ') (fun _ _ => False) a'
        else ∃ σ', a' = ⟨⟨C, [], [x], [some v]⟩ :: fs, σ', g⟩ ∧ Ext Cs σ σ' ∧ J (i + 1) ys σ') (fun _ _ => False) ⟨⟨C, [], [x], [some v]⟩ :: fs, σ, g⟩)
    (fin : ∀ D C vx ys σ, J vs.length ys σ → Ext Cs σ₀ σ → σ₀ D = none → σ D = some (kd, .list ys) →
      match use with
      | none => Q (.ref D) ⟨fs, σ, g⟩
      | some u => W c A (u (.ref D)) (fun _ a' => ∃ fs', a'.fs = ⟨C, [], [x], vx⟩ :: fs' ∧ Q .none ⟨fs', a'.σ, a'.gens⟩) E ⟨⟨C, [], [x], vx⟩ :: fs, σ, g⟩) :
    CompK c A env elt iter x px ifs sc pos caps use (.ref it) Q E ⟨fs, σ₁, g⟩ := by
  intro s hs
  have hcellN : ∀ y ∈ sc.names, y.2 ≠ NameKind.cell := by
    intro p hp hk
    rw [h.names] at hp
    simp only [List.mem_cons, List.mem_append, List.mem_map] at hp
    rcases hp with rfl | rfl | ⟨y, _, rfl⟩ | ⟨y, hy, rfl⟩ <;> cases hk
  refine wpAny_newObj_type (hd := by size_fits) ?_
  have S1 := hs.alloc (k := 9) (cl := .list []) (o := { cls := .type "list", dict := none, data := .seq ([] : List Value).toArray }) ⟨#[], _, rfl, rfl⟩ rfl
  have fD := hs.fresh
  generalize hD : s.heap.objs.size = D at *
  refine wpAny_newFunctionEnv hcellN (by intro y hy; simp at hy) (fun h₁ hns₁ hsb₁ => ?_) h.kind
  dsimp only at hns₁ hsb₁ ⊢
  have fC := S1.fresh
  have S2 := S1.pushComp (ns := [x]) (vs := [none]) (tk := s.toks + 0) (by simpa using hns₁) (fun b o e => by
      have hb : b ≠ (s.heap.push { cls := .type "list", dict := none, data := .seq ([] : List Value).toArray }).objs.size := Nat.ne_of_lt (Heap.lt_size e)
      exact hsb₁.extBut b o hb (Heap.get?_push_of_some _ e)) (fun y => by unfold gv gv; split <;> rfl)
  dsimp only at fC S2
  generalize hC : (s.heap.push { cls := .type "list", dict := none, data := .seq ([] : List Value).toArray }).objs.size = C at *
  obtain ⟨EO, CO⟩ := h.envOk hc hg hglob hgl hbl (C := C)
  have ne1 : D ≠ it := fun q => by rw [q] at fD; rw [e₁] at fD; simp at fD
  have hσ₀D : σ₀ D = none := by have := fD.1; dsimp only at this; rw [e₁, upd_ne ne1] at this; exact this
  have Ex1 : Ext Cs σ₀ (upd σ₁ D (some (9, .list []))) := by rw [e₁]; exact (Ext.upd_new hit).trans (Ext.upd_new (by rw [upd_ne ne1]; exact hσ₀D))
  have Ex9 : Ext [9] σ₀ (upd σ₁ D (some (9, .list []))) := by rw [e₁]; exact (Ext.upd_new hit).trans (Ext.upd_new (by rw [upd_ne ne1]; exact hσ₀D))
  have loop : ∀ s₂, St c ⟨⟨C, [], [x], [none]⟩ :: fs, upd σ₁ D (some (9, .list [])), g⟩ s₂ → codeAny (model c.prog c.w) A (.compLoop (.ListComp elt [⟨.Name x px, iter, ifs, 0⟩] sc pos) 0 (.ref it) (.ref D) (compEnvC sc (capCells env caps) C env))
      (compPost (model c.prog c.w) A (fun e s' => ∃ a', St c a' s' ∧ E e a') use (fun v s' => ∃ a', St c a' s' ∧ Q v a') (.ref D) C) s₂ := by
    intro s₂ hs₂
    refine codeAny_compLoop_tests (fun n s' => CompI c fs g C x vs.length it D cell src J Cs σ₀ n s') ?_ vs.length ?_
    · rintro n s' ⟨i, ys, vx, σ, hS, hn, hci, hcD, hsr, hj, hx⟩
      have off : ∀ z, Ext Cs σ₀ (upd σ it z) := fun z y k' cl' q1 q2 => by
        rw [upd_ne (fun z => by rw [z, hit] at q1; cases q1)]; exact hx y k' cl' q1 q2
      cases n with
      | zero =>
        refine wpAny_mono (IO.fin (fs := ⟨C, [], [x], [vx]⟩ :: fs) (g := g) (Q := fun r a => r = none ∧ a = ⟨⟨C, [], [x], [vx]⟩ :: fs, upd σ it none, g⟩) (E := fun _ _ => False) hci hsr (by omega) (fun σ' e' => ⟨rfl, by rw [e']⟩) s' hS) (fun r s₁ ⟨a', hS1, er, ea⟩ => ?_) fun _ _ ⟨_, _, q⟩ => q.elim
        subst er ea
        have hi : i = vs.length := by omega
        subst hi
        have hcD' : upd σ it none D = some (9, .list ys) := by rw [upd_ne ne1]; exact hcD
        have hS2 := hS1.recolour (k' := kd) hcD'
        have X9 : Ext [9] (upd σ it none) (upd (upd σ it none) D (some (kd, .list ys))) := Ext.upd_own hcD' (by simp)
        have Jf := stab _ _ _ _ (stab _ _ _ _ hj (Ext.upd_own (x := none) hci (by simp))) X9
        have Xf : Ext Cs σ₀ (upd (upd σ it none) D (some (kd, .list ys))) := fun y k' cl' q1 q2 => by
          rw [upd_ne (fun z => by rw [z, hσ₀D] at q1; cases q1)]; exact off none y k' cl' q1 q2
        have F := fin D C [vx] ys _ Jf Xf hσ₀D (by simp)
        have NsC : ∃ m, s₁.heap.Ns C m := by obtain ⟨m, hn, _⟩ := hS2.fr _ (List.mem_cons_self ..); exact ⟨m, hn⟩
        cases use with
        | none =>
          obtain ⟨m, hn⟩ := NsC
          exact ⟨m, hn, fun h' hsb => ⟨_, hS2.popBut rfl hsb, F⟩⟩
        | some u =>
          refine wpAny_mono (F s₁ hS2) (fun _ s'' ⟨a', hS3, fs', e', q⟩ => ?_) fun _ _ e => e
          obtain ⟨fs2, σ2, g2⟩ := a'
          dsimp only at e' q
          subst e'
          obtain ⟨m, hn, _⟩ := hS3.fr _ (List.mem_cons_self ..)
          exact ⟨m, hn, fun h' hsb => ⟨_, hS3.popBut rfl hsb, q⟩⟩
      | succ n =>
        have hi : i < vs.length := by omega
        refine wpAny_mono (IO.item (fs := ⟨C, [], [x], [vx]⟩ :: fs) (g := g) (Q := fun r a => ∃ u, r = some u ∧ er u = vs[i] ∧ a = ⟨⟨C, [], [x], [vx]⟩ :: fs, upd σ it (some (9, cell (i + 1))), g⟩) (E := fun _ _ => False) hci hsr (v := vs[i]) (by simp [hi]) (fun σ' u e' eu => ⟨u, rfl, eu, by rw [e']⟩) s' hS) (fun r s₁ ⟨a', hS1, u, er', eu, ea⟩ => ?_) fun _ _ ⟨_, _, q⟩ => q.elim
        subst er' ea
        have J1 := stab _ _ _ _ hj (Ext.upd_own (x := some (9, cell (i + 1))) hci (by simp))
        have hcD' : upd σ it (some (9, cell (i + 1))) D = some (9, .list ys) := by rw [upd_ne ne1]; exact hcD
        refine wpAny_assign_Name (wpAny_mono (W_storeName (u := u) (vs' := [some (er u)]) (Q := fun _ a => a = ⟨⟨C, [], [x], [some (er u)]⟩ :: fs, upd σ it (some (9, cell (i + 1))), g⟩) (E := fun _ _ => False) EO .here rfl s₁ hS1) (fun _ s₂ ⟨a', hS2, ea⟩ => ?_) fun _ _ ⟨_, _, q⟩ => q.elim)
        subst ea
        rw [eu] at hS2
        refine wpAny_mono (turn C _ i vs[i] _ ys EO CO hgl hbl J1 (by simp [hi]) (IO.keep hsr hci) (off _) s₂ hS2) (fun ok s₃ ⟨a', hS3, q⟩ => ?_) fun _ _ ⟨_, _, q⟩ => q.elim
        cases ok with
        | false =>
          obtain ⟨σ', rfl, x1, x2⟩ := q
          refine ite_f Bool.false_ne_true ?_
          exact ⟨n, Nat.lt_succ_self n, i + 1, ys, _, σ', hS3, (Nat.add_right_comm n i 1).trans hn, x1 it 9 _ upd_self h9, x1 D 9 _ hcD' h9, IO.ext hk x1 (IO.keep hsr hci), x2, (off _).trans x1⟩
        | true =>
          refine ite_t rfl ?_
          refine wpAny_mono (ite_of rfl q s₃ hS3) (fun y s₄ ⟨a', hS4, σ', ea, x1, x2⟩ => ?_) fun _ _ ⟨_, _, q⟩ => q.elim
          subst ea
          have hcD2 : σ' D = some (9, .list ys) := x1 D 9 _ hcD' h9
          have hci2 : σ' it = some (9, cell (i + 1)) := x1 it 9 _ (by simp) h9
          have hl := hlen _ _ _ x2
          refine wpAny_mono (W_append (E := fun _ _ => False) (u := y) (Q := fun _ a => a = ⟨⟨C, [], [x], [some vs[i]]⟩ :: fs, upd σ' D (some (9, .list (ys ++ [er y]))), g⟩) hcD2 (by simp at hl; omega) (fun σ2 e2 => by rw [e2]) s₄ hS4) (fun _ s₅ ⟨a', hS5, ea⟩ => ?_) fun _ _ ⟨_, _, q⟩ => q.elim
          subst ea
          refine ⟨n, Nat.lt_succ_self n, i + 1, _, _, _, hS5, (Nat.add_right_comm n i 1).trans hn, (upd_ne (Ne.symm ne1)).trans hci2, upd_self, ?_, stab _ _ _ _ x2 (Ext.upd_own hcD2 (by decide)), ?_⟩
          · exact IO.ext (C := [9]) (by simpa using hk9) (Ext.upd_own hcD2 (by simp)) (IO.ext hk x1 (IO.keep hsr hci))
          · exact fun y k' cl' q1 q2 => by
              rw [upd_ne (fun z => by rw [z, hσ₀D] at q1; cases q1)]; exact ((off _).trans x1) y k' cl' q1 q2
    · exact ⟨0, [], none, _, hs₂, by omega, by rw [upd_ne (Ne.symm ne1), e₁]; simp, by simp, IO.ext (C := []) (by simp) (Ext.upd_new fD.1) hsrc, stab _ _ _ _ hJ Ex9, Ex1⟩
  refine codeAny_compStart_list (loop _ S2) (wpAny_mono (IS (i := 0) (Q := fun v a => v = .ref it ∧ a = ⟨⟨C, [], [x], [none]⟩ :: fs, upd σ₁ D (some (9, .list [])), g⟩) (E := fun _ _ => False) (by rw [upd_ne (Ne.symm ne1), e₁]; simp) ⟨rfl, rfl⟩ _ S2) (fun v s' ⟨a', hS, ev, ea⟩ => ?_) fun _ _ ⟨_, _, q⟩ => q.elim)
  subst ev ea
  exact loop _ hS
end
end Mine.Internal

namespace Mine.Internal
open PySem PySem.W PyProof.Rows PySem.Calls PySem.F

theorem upd_back {σ : Addr → Option (Nat × Cell)} {l : Addr} {x} (h : σ l = none) : upd (upd σ l x) l none = σ := by
  funext y
  by_cases e : y = l
  · subst e; simp [h]
  · simp [upd, e]
theorem upd_upd {σ : Addr → Option (Nat × Cell)} {l : Addr} {x y} : upd (upd σ l x) l y = upd σ l y := by
  funext z
  by_cases e : z = l
  · subst e; simp
  · simp [upd, e]

section
variable {c : Cx} {A : Around} {E : Value → AS → Prop} {a : AS} {env : Env} {fs : List Frm} {σ : Addr → Option (Nat × Cell)} {g : Array GenState} {k : Nat}

/-! iterators that give themselves -/
theorem IterSelf.list {l : Addr} : IterSelf c A (iterCell "list_iterator" l) := fun h q s hs => wpAny_pyIter_listiter (listIter_of hs h) ⟨_, hs, q⟩
/-! ranges -/
noncomputable def rangeCell (lo hi : Int) : Cell := .raw fun o => ∃ t u v, o = { cls := .type "range", dict := none, data := .fields #[.int lo t, .int hi u, .int 1 v], slots := #[] }
noncomputable def rangeIt (lo : Int) (n : Nat) (i : Nat) : Cell := .raw fun o => o = { cls := .type "range_iterator", dict := none, data := .fields #[rawInt (lo + i), rawInt ((n : Int) - i), rawInt 1], slots := #[] }
noncomputable def intsFrom (lo : Int) (n : Nat) : List AV := (List.range n).map fun (i : Nat) => AV.int (lo + i)

theorem W_range1 {n : Int} {t : Tok} {Q : Value → AS → Prop} (h : ∀ r, σ r = none → ∀ σ', σ' = upd σ r (some (9, rangeCell 0 n)) → Q (.ref r) ⟨fs, σ', g⟩) : W c A (call (.type "range") [.int n t]) Q E ⟨fs, σ, g⟩ := fun s hs => by
  refine call_range_1 ⟨_, (hs.alloc (k := 9) (cl := rangeCell 0 n) ⟨s.toks, t, s.toks + 1, rfl⟩ rfl).of_eq, h _ hs.fresh.1 _ rfl⟩
theorem W_iter_range {r : Addr} {m n : Int} {Q : Value → AS → Prop} (hr : σ r = some (k, rangeCell m n)) (h1 : -(2 ^ 62) ≤ m) (h2 : m < 2 ^ 62) (h3 : -(2 ^ 62) ≤ n) (h4 : n < 2 ^ 62)
    (h : ∀ it, σ it = none → ∀ σ', σ' = upd σ it (some (9, rangeIt m (n - m).toNat 0)) → Q (.ref it) ⟨fs, σ', g⟩) : W c A (pyIter (.ref r)) Q E ⟨fs, σ, g⟩ := fun s hs => by
  obtain ⟨⟨o, ho, t, u, v, rfl⟩, _⟩ := hs.own r k _ hr
  refine wpAny_pyIter_range ho (small_one h1 h2 h3 h4) ⟨_, hs.alloc (k := 9) (cl := rangeIt m (n - m).toNat 0) ?_ rfl, h _ hs.fresh.1 _ rfl⟩
  have : Builtin.Range.rangeSize m n 1 = (((n - m).toNat : Nat) : Int) - ((0 : Nat) : Int) := by rw [rangeSize_one]; split <;> omega
  show _ = _
  rw [this]; simp
theorem IterOf.range {lo : Int} {n : Nat} (hh : A.handled = none) : IterOf c A (intsFrom lo n) k (fun _ => True) (rangeIt lo n) where
  item := fun {it i v fs σ g Q E} hit _ hv h s hs => by
    have hi : i < n := by have := (List.getElem?_eq_some_iff.mp hv).1; simpa [intsFrom] using this
    have hv' : v = .int (lo + i) := by simpa [intsFrom, hi] using hv.symm
    subst hv'
    obtain ⟨⟨o, ho, rfl⟩, _⟩ := hs.own it 9 _ hit
    refine wpAny_pyNext_range_item ho (by omega) (fun h' hi' hsb => ?_)
    refine ⟨_, (hs.put hit (fun b o q z => (hsb.2 b q).trans z) hi' (k' := 9) (cl' := rangeIt lo n (i + 1)) ?_).of_eq, h _ _ rfl rfl⟩
    show _ = _
    rw [show lo + (i : Int) + 1 = lo + ((i + 1 : Nat) : Int) by omega, show (n : Int) - (i : Int) - 1 = (n : Int) - ((i + 1 : Nat) : Int) by omega]
  fin := fun {it i fs σ g Q E} hit _ hi h s hs => by
    have hi : i = n := by simpa [intsFrom] using hi
    obtain ⟨⟨o, ho, rfl⟩, _⟩ := hs.own it 9 _ hit
    exact wpAny_pyNext_range_end hh ho (by omega) (fun h' hx => ⟨_, hs.drop hit (fun b o q z => hx b o q z), h _ rfl⟩)
  keep := fun _ _ => trivial
  ext := fun _ _ _ => trivial
  own := fun {target it u i fs σ g Q E} h q => by
    intro s hs
    obtain ⟨⟨o, ho, rfl⟩, _⟩ := hs.own it 9 _ h
    unfold letOwnedTupleGo
    have fin : wpAny (model c.prog c.w) A (do
        let (.ref r, .ref a) := (Value.ref it, u) | return
        let o ← load r
        match o.cls, o.data with
        | .type n, .fields vs =>
          if ["enumerate", "zip", "dict_itemiterator", "dict_reverseitemiterator", "odict_iterator", "itertools.zip_longest", "itertools.pairwise"].contains n && vs[0]? == some (rawInt a) then
            rule "for.unpacks-the-owned-tuple"
            updateField r 0 .none
        | _, _ => pure ()) (fun v s' => ∃ a', St c a' s' ∧ Q v a') (fun e s' => ∃ a', St c a' s' ∧ E e a') s := by
      cases u with
      | ref b =>
        refine wpAny_bind (wpAny_load ho ?_)
        dsimp only
        rw [show (["enumerate", "zip", "dict_itemiterator", "dict_reverseitemiterator", "odict_iterator", "itertools.zip_longest", "itertools.pairwise"].contains "range_iterator") = false by decide]
        exact wpAny_pure ⟨_, hs, q⟩
      | _ => exact wpAny_pure ⟨_, hs, q⟩
    cases target <;> first | exact fin | exact wpAny_pure ⟨_, hs, q⟩
/-! unpacking -/
theorem notIterable_starry {l : Addr} {vs : List AV} {Q : Bool → AS → Prop} (h : Starry c a l vs) (q : Q false a) : W c A (notIterableAtAll (.ref l)) Q E a := fun s hs => by
  obtain ⟨T, us, n, o, hT, ho, hc, hd, e⟩ := starry_obj hs h
  unfold notIterableAtAll specialOf
  refine wpAny_bind (wpAny_bind (wpAny_typeOf ⟨_, ho, hc⟩ ?_))
  rcases hT with rfl | rfl
  · rw [PySem.F.slot_list_iter.lookup]; exact wpAny_pure (wpAny_pure ⟨_, hs, q⟩)
  · rw [PySem.F.slot_tuple_iter.lookup]; exact wpAny_pure (wpAny_pure ⟨_, hs, q⟩)

theorem W_draw {vs : List AV} {src : (Addr → Option (Nat × Cell)) → Prop} {cell : Nat → Cell} {it : Addr} (IO : IterOf c A vs k src cell) : ∀ (n i : Nat) (σ : Addr → Option (Nat × Cell)) (Q : List Value → AS → Prop), n + i = vs.length → σ it = some (9, cell i) → src σ →
    (∀ us σ', us.map er = vs.drop i → σ' = upd σ it (some (9, cell vs.length)) → src σ' → Q us ⟨fs, σ', g⟩) → W c A (draw (.ref it) n) Q E ⟨fs, σ, g⟩
  | 0, i, σ, Q, hn, hc, hs, h => by
    have : i = vs.length := by omega
    subst this
    have e : upd σ it (some (9, cell vs.length)) = σ := by funext y; by_cases q : y = it <;> simp [upd, q, hc]
    exact W_pure (h [] σ (by simp) e.symm hs)
  | n + 1, i, σ, Q, hn, hc, hs, h => by
    have hi : i < vs.length := by omega
    unfold draw
    refine W_bind (IO.item hc hs (v := vs[i]) (by simp [hi]) (fun σ' u e eu => ?_))
    subst e
    refine W_bind (W_holding (W_draw IO n (i + 1) _ _ (by omega) (by simp) (IO.keep hs hc) fun us σ' e1 e2 e3 => W_pure (h _ _ ?_ ?_ e3)))
    · rw [List.map_cons, e1, eu]; rw [← List.getElem_cons_drop hi]
    · rw [e2, upd_upd]

theorem W_unpackItems {l : Addr} {vs : List AV} {Q : List Value → AS → Prop} {n : Nat} (hl : Starry c ⟨fs, σ, g⟩ l vs) (hn : vs.length = n) (hh : A.handled = none) (h : ∀ us, us.map er = vs → Q us ⟨fs, σ, g⟩) : W c A (unpackItems (.ref l) n none) Q E ⟨fs, σ, g⟩ := by
  unfold unpackItems
  refine W_bind (notIterable_starry hl ?_)
  simp only [Bool.false_eq_true, if_false]
  obtain ⟨k, hl | hl⟩ := hl <;> dsimp only at hl
  · refine W_bind (W_holding (W_iter_list hl fun it h0 σ' e => ?_))
    subst e
    have hsrc : upd σ it (some (9, iterCell "list_iterator" l 0)) l = some (k, .list vs) := by rw [upd_ne (fun q => by rw [← q, hl] at h0; cases h0)]; exact hl
    refine W_bind (W_holding (W_draw (IterOf.list (k := k) hh) n 0 _ _ (by omega) (by simp) hsrc fun us σ' e1 e2 e3 => ?_))
    have hlen : us.length = n := by have := congrArg List.length e1; simpa [hn] using this
    rw [if_neg (by omega)]
    refine W_bind (W_holding ((IterOf.list (k := k) hh).fin (i := vs.length) (by rw [e2]; simp) e3 rfl fun σ'' e4 => ?_))
    simp only [Option.isSome_none, Bool.false_eq_true, if_false]
    refine W_pure ?_
    rw [e4, e2, upd_upd, upd_back h0]
    exact h us (by simpa using e1)
  · refine W_bind (W_holding (W_iter_tuple hl fun it h0 σ' e => ?_))
    subst e
    have hsrc : upd σ it (some (9, iterCell "tuple_iterator" l 0)) l = some (k, .tuple vs) := by rw [upd_ne (fun q => by rw [← q, hl] at h0; cases h0)]; exact hl
    refine W_bind (W_holding (W_draw (IterOf.tuple (k := k) hh) n 0 _ _ (by omega) (by simp) hsrc fun us σ' e1 e2 e3 => ?_))
    have hlen : us.length = n := by have := congrArg List.length e1; simpa [hn] using this
    rw [if_neg (by omega)]
    refine W_bind (W_holding ((IterOf.tuple (k := k) hh).fin (i := vs.length) (by rw [e2]; simp) e3 rfl fun σ'' e4 => ?_))
    simp only [Option.isSome_none, Bool.false_eq_true, if_false]
    refine W_pure ?_
    rw [e4, e2, upd_upd, upd_back h0]
    exact h us (by simpa using e1)

theorem W_inOrder_nil {us : List Value} {Q : Unit → AS → Prop} (h : Q () a) : W c A (assignInOrder [] us) Q E a := by cases us <;> exact W_pure h
theorem W_inOrder_cons {t : Value → Sem Unit} {ts : List (Value → Sem Unit)} {u : Value} {us : List Value} {Q : Unit → AS → Prop} (h : W c A (t u) (fun _ a₁ => W c A (assignInOrder ts us) Q E a₁) E a) : W c A (assignInOrder (t :: ts) (u :: us)) Q E a :=
  W_bind (W_holding h)
theorem W_assign_Tuple {es : List Expr} {kk : Nat} {p : Pos} {l : Addr} {vs : List AV} {Q : Unit → AS → Prop} (hl : Starry c ⟨fs, σ, g⟩ l vs) (hn : vs.length = (assignEach es env).length) (hh : A.handled = none)
    (h : ∀ us, us.map er = vs → W c A (assignInOrder ((assignEach es env).map (·.2)) us) Q E ⟨fs, σ, g⟩) (hst : (assignEach es env).findIdx? (·.1) = none := by with_unfolding_all rfl) : W c A (assign (.Tuple es kk p) env (.ref l)) Q E ⟨fs, σ, g⟩ := by
  rw [arm_assign_Tuple]
  refine W_bind (W_standAt ?_)
  unfold unpack
  rw [hst]
  exact W_bind (W_holding (W_unpackItems hl hn hh h))

/-! numbers -/
theorem W_floordiv {i j : Int} {t u : Tok} {Q : Value → AS → Prop} (hj : j ≠ 0) (hb : j.natAbs.log2 < 9000) (h : ∀ t, Q (.int (i.fdiv j) t) a) : W c A (binaryOp .FloorDiv (.int i t) (.int j u)) Q E a := fun s hs =>
  AutoIntOps.floordiv_1 (by simpa using hj) (by rw [PyProof.noPylong_of_log2 hb]; simp) ⟨a, hs.of_eq, h _⟩
/-! slices -/
theorem W_slice_from {value lower : Expr} {p pos : Pos} {Q : Value → AS → Prop} (kd : Nat)
    (h : W c A (eval value env) (fun o a₁ => W c A (eval lower env) (fun vl a₂ => ∃ l k vs i t, o = .ref l ∧ vl = .int i t ∧ a₂.σ l = some (k, .list vs) ∧ vs.length ≤ 1000000 ∧ 0 ≤ i ∧ i.toNat ≤ vs.length ∧
      ∀ D, a₂.σ D = none → ∀ σ', σ' = upd a₂.σ D (some (kd, .list (vs.drop i.toNat))) → Q (.ref D) ⟨a₂.fs, σ', a₂.gens⟩) E a₁) E a)
    (ht : ∀ o r, letTemporaryGo value o r = pure () := by intro _ _; with_unfolding_all rfl) : W c A (eval (.Subscript value (.Slice (some lower) none none p) pos) env) Q E a := fun s hs => by
  refine wpAny_Subscript_list_slice (wpAny_mono (h s hs) (fun o s₁ ⟨a₁, h1, q⟩ => ?_) fun _ _ x => x) ht
  show wpAny _ _ (eval lower env) _ _ _
  refine wpAny_mono (q s₁ h1) (fun vl s₂ q => ?_) fun _ _ x => x
  obtain ⟨a₂, h2, l, k, vs, i, t, e1, e2, hl, hz, h0, hi, q⟩ := q
  rw [show evalPart none env = (pure .none : Sem Value) from rfl]
  refine wpAny_pure ?_
  obtain ⟨us, n, ho, e⟩ := own_list h2 hl
  have hsz := size_of e
  refine ⟨l, us, some i, none, e1, isList_of ho, by rw [hsz]; exact sizeLine_big hz, by rw [e2]; exact .int i t, .none, ?_⟩
  have S1 := h2.grow (h' := s₂.heap.push { cls := .type "slice", data := .fields #[vl, .none, .none] }) fun b o e => Heap.get?_push_of_some _ e
  obtain ⟨j, rfl⟩ := Int.eq_ofNat_of_zero_le h0
  have hp : slicePick us (some (j : Int)) none none = (us.toList.drop j).toArray := slicePick_from us j (by rw [hsz]; simpa using hi)
  rw [hp]
  have := S1.alloc (k := kd) (cl := .list (vs.drop j)) (o := { cls := .type "list", data := .seq (us.toList.drop j).toArray }) ⟨_, 0, rfl, by rw [← e]; simp⟩ rfl
  have hf := S1.fresh.1
  dsimp only at this hf
  rw [Heap.size_push] at this hf
  exact ⟨_, this, q _ hf _ (by simp)⟩

theorem slicePick_to (items : Array Value) (b : Nat) : slicePick items none (some (b : Int)) none = (items.toList.take b).toArray := by
  have e : sliceBounds none (some (b : Int)) none items.size = (((0 : Nat) : Int), ((min b items.size : Nat) : Int), 1) := by
    simp only [sliceBounds, Option.getD_none]
    have h2 : ¬ ((b : Int) < 0) := by omega
    simp only [h2, if_false, show (1 : Int) > 0 by decide, if_true]
    congr 1
    congr 1; omega
  unfold slicePick
  rw [e]
  simp only [sliceRange_one, pick_run]
  congr 1
  simp only [List.drop_zero, Nat.sub_zero]
  rw [List.take_eq_take_iff]; simp

end
end Mine.Internal

namespace Mine.Internal
open PySem PySem.W PyProof.Rows PySem.Calls PySem.F

section
variable {c : Cx} {A : Around} {E : Value → AS → Prop} {a : AS} {env : Env} {fs : List Frm} {σ : Addr → Option (Nat × Cell)} {g : Array GenState} {k : Nat}

/-! a bound method -/
noncomputable def boundCell (f x : Addr) : Cell := .raw fun o => o = methodObj (.ref f) (.ref x)

structure BindOk (K : Frag) (C : Addr) (name : Str) (f : Addr) : Prop where
  get : plainGet K C name = true
  dict : hasDictIn K C = true
  find : findIn K (.ref C) name = some (some (.ref f))
  fn : isFn K (.ref f) = true
  gf : specialIn K (.ref f) "__get__" = some (some (.builtin "function.__get__"))
  takes : takesIn K (.ref f) = some false
  copied : copiedNames.contains name = false

theorem W_getBound {x C dx f : Addr} {sl : List (Option AV)} {k k' : Nat} {kvs : List (Str × AV)} {name : Str} {e : Bool} {Q : Value → AS → Prop} (hx : σ x = some (k, .inst C dx sl)) (hd : σ dx = some (k', .attrs kvs))
    (hg : BindOk c.K C name f) (hv : name ∉ kvs.map (·.1)) (h : ∀ m, σ m = none → ∀ σ', σ' = upd σ m (some (9, boundCell f x)) → Q (.ref m) ⟨fs, σ', g⟩) : W c A (getAttr (.ref x) name e) Q E ⟨fs, σ, g⟩ := by
  intro s hs
  obtain ⟨ox, es, n, I, _, _, _, hf', _⟩ := inst_at hs hx hd
  have X : c.K.In s.heap := c.inK.keeps hs.keep
  refine get_bind X I (plainGet_of hg.get).1 (findObj_fn hg.dict hg.find hg.gf hg.takes hg.copied (by show lookIn name (dictOf es n) = _; rw [lookIn_dict, getL_none hf' hv])) (plainGet_of hg.get).2
    (wpAny_call (fn_get (s := { s with toks := s.toks + 1 }) X (beq_iff_eq.mp hg.fn) (handed_on rfl ?_)))
  exact ⟨_, (hs.alloc (k := 9) (cl := boundCell f x) rfl rfl).of_eq, h _ hs.fresh.1 _ rfl⟩

theorem Kp.bound {m f x : Addr} {o : Obj} {fd : FuncData} (hm : a.σ m = some (k, boundCell f x)) (ho : c.K.lookup f = some o) (hd : o.data = .func fd) : Kp c (.ref m) a := fun s hs => by
  obtain ⟨⟨om, hom, e⟩, _⟩ := hs.own m k _ hm
  have e' : om = methodObj (.ref f) (.ref x) := e
  subst e'
  have hof := (c.inK.keeps hs.keep) _ _ ho
  refine ⟨.boundFrame, fun A Q E s' kk q => ?_⟩
  unfold keeperOf
  refine wpAny_bind (wpAny_load (kk _ _ hom) ?_)
  show wpAny _ _ (load f >>= _) _ _ _
  refine wpAny_bind (wpAny_load (kk _ _ hof) ?_)
  rw [hd]
  exact wpAny_pure q

theorem Wk_bound {m f x : Addr} {args : List Value} {kw : List (Str × Value)} {R : Result → AS → Prop} (hm : a.σ m = some (k, boundCell f x)) (h : Wk c A (.call (.ref f) ⟨.ref x :: args, kw⟩) R a) : Wk c A (.call (.ref m) ⟨args, kw⟩) R a := fun s hs => by
  obtain ⟨⟨om, hom, e⟩, _⟩ := hs.own m k _ hm
  have e' : om = methodObj (.ref f) (.ref x) := e
  subst e'
  exact method_call hom (h s hs)
/-! is -/
theorem W_is_bool {b b' : Bool} {Q : Value → AS → Prop} (h : Q (.bool (b == b')) a) : W c A (compareOp .Is (.bool b) (.bool b')) Q E a := fun s hs => by
  refine wpAny_is_plain (by cases b <;> cases b' <;> rfl) ⟨a, hs, ?_⟩
  cases b <;> cases b' <;> exact h
theorem W_isnot_bool {b b' : Bool} {Q : Value → AS → Prop} (h : Q (.bool (!(b == b'))) a) : W c A (compareOp .IsNot (.bool b) (.bool b')) Q E a := by
  cases b <;> cases b' <;> exact W_pure h

/-! an item of a thing deleted -/
theorem W_Delete_Sub {o i : Expr} {p pos : Pos} {Q : Flow → AS → Prop} (h : W c A (eval o env) (fun ov a₁ => W c A (eval i env) (fun iv a₂ => W c A (delItem ov iv) (fun _ => Q .next) E a₂) E a₁) E a) : W c A (exec (.Delete [.Subscript o i p] pos) env) Q E a := by
  show W c A (standAt pos >>= _) Q E a
  refine W_bind (W_standAt (W_bind ?_))
  show W c A (delete (.Subscript o i p) env >>= fun _ => pure ()) _ E a
  refine W_bind ?_
  show W c A (eval o env >>= _) _ E a
  refine W_bind (W_mono h (fun ov a₁ q => W_bind (W_holding (W_mono q (fun iv a₂ q => W_bind (W_standAt (W_bind (W_holding (W_mono q (fun _ a₃ q => ?_) fun _ _ x => x))))) fun _ _ x => x))) fun _ _ x => x)
  intro s hs Γ p' hΓ
  rw [Sem.wp_release]
  exact ⟨a₃, hs, W_pure (W_pure q)⟩
theorem W_Call_Sub {o i : Expr} {p pos : Pos} {args : List Expr} {Q : Value → AS → Prop}
    (h : W c A (eval (.Subscript o i p) env) (fun f a₁ => W c A (callWith pos f [] (backTo pos (starEach args env)) []) Q E a₁) E a) : W c A (eval (.Call (.Subscript o i p) args [] pos) env) Q E a := by
  show W c A (eval (.Subscript o i p) env >>= _) Q E a
  exact W_bind h
theorem W_iadd {i j : Int} {t u : Tok} {Q : Value → AS → Prop} (h : ∀ t, Q (.int (i + j) t) a) : W c A (inplaceOp .Add (.int i t) (.int j u)) Q E a := fun s hs => AutoIntOps.iadd_0 ⟨a, hs.of_eq, h _⟩
theorem W_isub {i j : Int} {t u : Tok} {Q : Value → AS → Prop} (h : ∀ t, Q (.int (i - j) t) a) : W c A (inplaceOp .Sub (.int i t) (.int j u)) Q E a := fun s hs => AutoIntOps.isub_0 ⟨a, hs.of_eq, h _⟩
/-! sum -/
theorem preSum_list (l : List Int) : ∀ j, preSum (fun i => l.getD i 0) j = (l.take j).sum := PyProof.Rows.preSum_getD l
theorem W_sum {l : Addr} {is : List Int} {Q : Value → AS → Prop} (hh : A.handled = none) (hl : a.σ l = some (k, .list (is.map AV.int))) (h : ∀ t, Q (.int is.sum t) a) : W c A (call (.builtin "sum") [.ref l]) Q E a := fun s hs => by
  obtain ⟨us, n, ho, e⟩ := own_list hs hl
  have hsz : us.size = is.length := by have := size_of e; simpa using this
  have hlt : l < s.heap.objs.size := Heap.lt_size ho
  refine call_sum_walkG (wpAny_pyIter_list (isList_of ho) ?_)
  refine ⟨_, _, _, us.size, _, _, fun i => is.getD i 0, rfl, Walks.list (A := A.in1) hh s.heap.objs.size l (Nat.ne_of_lt hlt) us, ⟨⟨_, Heap.get?_push_size _ rfl, rfl, rfl⟩, (isList_of ho).push _⟩, ?_, ?_, ?_⟩
  · intro b hb
    dsimp only
    rw [Heap.size_push]
    simp only [List.mem_cons, List.not_mem_nil, or_false] at hb
    rcases hb with rfl | rfl
    · exact Nat.lt_succ_self _
    · exact Nat.lt_succ_of_lt hlt
  · intro i v hv
    have : (us.toList.map er)[i]? = some (er v) := by rw [List.getElem?_map, Array.getElem?_toList, hv]; rfl
    rw [e, List.getElem?_map] at this
    cases q : is[i]? with
    | none => rw [q] at this; cases this
    | some j =>
      rw [q] at this
      obtain ⟨t, ht⟩ := er_int (Option.some.inj this).symm
      exact ⟨t, by rw [ht]; simp [List.getD_eq_getElem?_getD, q]⟩
  · intro h' tk t' kk
    rw [preSum_list, hsz, List.take_length]
    refine ⟨a, (hs.grow (h' := h') fun b o e => kk b o (fun q => ?_) (Heap.get?_push_of_some _ e)).of_eq, h _⟩
    simp only [List.mem_cons, List.not_mem_nil, or_false] at q
    rw [q] at e
    exact absurd (Heap.lt_size e) (Nat.lt_irrefl _)
end
end Mine.Internal

namespace Mine.Internal
open PySem PySem.W PyProof.Rows PySem.Calls PySem.F

section
variable {c : Cx} {A : Around} {E : Value → AS → Prop} {a : AS} {env : Env} {fs : List Frm} {σ : Addr → Option (Nat × Cell)} {g : Array GenState} {k : Nat}
theorem W_neg {i : Int} {t : Tok} {Q : Value → AS → Prop} (h : ∀ t, Q (.int (-i) t) a) : W c A (unaryOp .USub (.int i t)) Q E a := fun s hs => P.neg_int ⟨a, hs.of_eq, h _⟩
theorem W_truthy_none {Q : Bool → AS → Prop} (h : Q false a) : W c A (truthy .none) Q E a := fun s hs _ _ _ => ⟨a, hs, h⟩
theorem W_Joined1 {v : Expr} {pos : Pos} {Q : Value → AS → Prop} (h : W c A (eval v env) Q E a) : W c A (eval (.JoinedStr [v] pos) env) Q E a := fun s hs => wpAny_JoinedStr_one (h s hs)
theorem IterSelf.dictValues {D : Addr} {n ep : Nat} : IterSelf c A (iterCell4 "dict_valueiterator" D n ep) := fun {it i fs σ g Q E} h q s hs => by
  obtain ⟨⟨o, ho, hc, hd⟩, _⟩ := hs.own it 9 _ h
  exact wpAny_pyIter_valiter (d := D) (i := i) (n := n) (ep := ep) ⟨o, ho, hc, hd⟩ ⟨_, hs, q⟩
theorem CapOk.nil {cl : List (Str × Addr)} (hk : env.scope.kind = .function) : CapOk env cl [] := ⟨hk, fun _ h => by cases h⟩

/-- colours turned -/
noncomputable def recol (f : Nat → Nat) (σ : Addr → Option (Nat × Cell)) : Addr → Option (Nat × Cell) := fun x => (σ x).map fun p => (f p.1, p.2)
theorem St.recol {s : Shared} (f : Nat → Nat) (h : St c ⟨fs, σ, g⟩ s) : St c ⟨fs, recol f σ, g⟩ s :=
  ⟨h.keep, h.fr, h.nb, h.nd, fun x k cl e => by
    obtain ⟨p, h1, h2⟩ := map_some_of e
    cases h2
    exact h.own x p.1 p.2 h1, h.os, h.gens⟩
theorem W_recol {α : Type} {t : Sem α} {Q : α → AS → Prop} (f : Nat → Nat) (h : W c A t Q E ⟨fs, recol f σ, g⟩) : W c A t Q E ⟨fs, σ, g⟩ := fun s hs => h s (hs.recol f)
noncomputable def fk (k n : Nat) : Nat := if n = k then 0 else n
theorem Ext.recolk {C : List Nat} {k : Nat} (h : k ∈ C) : Ext C σ (recol (fk k) σ) := fun x k' cl e n => by
  have : fk k k' = k' := by unfold fk; rw [if_neg (fun (z : k' = k) => n (by rw [z]; exact h))]
  show (σ x).map _ = _
  rw [e]; simp [this]
theorem recolk_at {x : Addr} {k : Nat} {cl : Cell} (h : σ x = some (k, cl)) : recol (fk k) σ x = some (0, cl) := by
  show (σ x).map _ = _
  rw [h]; simp [fk]
theorem recolk_ne {x : Addr} {k k' : Nat} {cl : Cell} (h : σ x = some (k', cl)) (hn : k' ≠ k) : recol (fk k) σ x = some (k', cl) := by
  show (σ x).map _ = _
  rw [h]; simp [fk, hn]

/-! frozen data -/
noncomputable def fz (σ : Addr → Option (Nat × Cell)) : Addr → Option (Nat × Cell) := fun x => match σ x with
  | some (0, cl) => some (0, cl)
  | _ => none
noncomputable def Dz (σ : Addr → Option (Nat × Cell)) (v : AV) (d : PyData) : Prop := RdV (fz σ) v d
noncomputable def DzL (σ : Addr → Option (Nat × Cell)) (v : List AV) (d : List PyData) : Prop := RdL (fz σ) v d
end
end Mine.Internal

namespace Mine.Internal
open PySem PySem.W PyProof.Rows PySem.Calls PySem.F

/-! the same rules with what is wanted behind a step kept under a name -/

structure Nx (c : Cx) (A : Around) (rest : List Stmt) (env : Env) (Q : Flow → AS → Prop) (E : Value → AS → Prop) (P : Flow → AS → Prop) : Prop where
  nx : ∀ a, W c A (execs rest env) Q E a → P .next a
  br : ∀ a, Q .brk a → P .brk a
  co : ∀ a, Q .cont a → P .cont a
  re : ∀ v a, Q (.ret v) a → P (.ret v) a

/-- a def's end -/
structure Fx (fs : List Frm) (Q : Value → AS → Prop) (P : Flow → AS → Prop) : Prop where
  nx : ∀ f σ g, Q .none ⟨fs, σ, g⟩ → P .next ⟨f :: fs, σ, g⟩
  re : ∀ v f σ g, Q v ⟨fs, σ, g⟩ → P (.ret v) ⟨f :: fs, σ, g⟩

/-- an exception leaves a def -/
structure Ux (L : Addr) (fs : List Frm) (E P : Value → AS → Prop) : Prop where
  ex : ∀ e t cls args tb cl ns vs σ g, Exc σ e t cls args tb → (∀ σ' T, Ext [8] σ σ' → Exc σ' e t cls args (some T) → E (.ref e) ⟨fs, σ', g⟩) → P (.ref e) ⟨⟨L, cl, ns, vs⟩ :: fs, σ, g⟩

/-- a turn's end -/
structure Lx (L : Addr) (cl : List (Str × Addr)) (ns : List Str) (fs : List Frm) (g : Array GenState) (C : List Nat) (σ : Addr → Option (Nat × Cell)) (J : List (Option AV) → (Addr → Option (Nat × Cell)) → Prop) (R : Result → AS → Prop) (P : Flow → AS → Prop) : Prop where
  nx : ∀ vv σ', Ext C σ σ' → J vv σ' → P .next ⟨⟨L, cl, ns, vv⟩ :: fs, σ', g⟩
  co : ∀ vv σ', Ext C σ σ' → J vv σ' → P .cont ⟨⟨L, cl, ns, vv⟩ :: fs, σ', g⟩
  br : ∀ a, R (.ok .next) a → P .brk a
  re : ∀ v a, R (.ok (.ret v)) a → P (.ret v) a

structure Wx (I : AS → Prop) (Q : Flow → AS → Prop) (P : Flow → AS → Prop) : Prop where
  nx : ∀ a, I a → P .next a
  co : ∀ a, I a → P .cont a
  br : ∀ a, Q .next a → P .brk a
  re : ∀ v a, Q (.ret v) a → P (.ret v) a

section
variable {c : Cx} {A : Around} {E : Value → AS → Prop} {a : AS} {env : Env} {fs : List Frm} {σ : Addr → Option (Nat × Cell)} {g : Array GenState} {k : Nat} {d : Nat}

theorem W_consG {st : Stmt} {rest : List Stmt} {Q : Flow → AS → Prop} (h : ∀ P, Nx c A rest env Q E P → W c A (exec st env) P E a) : W c A (execs (st :: rest) env) Q E a :=
  W_cons (h _ ⟨fun _ h => h, fun _ h => h, fun _ h => h, fun _ _ h => h⟩)
theorem W_cutG {t : Sem Flow} {Q : Flow → AS → Prop} (P : Flow → AS → Prop) (h1 : ∀ P', (∀ f a', P f a' → P' f a') → W c A t P' E a) (h2 : ∀ f a', P f a' → Q f a') : W c A t Q E a :=
  W_mono (h1 P fun _ _ h => h) h2 (fun _ _ x => x)
theorem W_cutV {α : Type} {t : Sem α} {Q : α → AS → Prop} (P : α → AS → Prop) (h1 : ∀ P', (∀ f a', P f a' → P' f a') → W c A t P' E a) (h2 : ∀ f a', P f a' → Q f a') : W c A t Q E a :=
  W_mono (h1 P fun _ _ h => h) h2 (fun _ _ x => x)
/-- the same where the end is .next alone -/
theorem W_cutN {t : Sem Flow} {Q : Flow → AS → Prop} (P : AS → Prop) (h1 : ∀ P', (∀ a', P a' → P' Flow.next a') → W c A t P' E a) (h2 : ∀ a', P a' → Q .next a') : W c A t Q E a :=
  W_mono (h1 (fun f a' => f = .next ∧ P a') fun _ h => ⟨rfl, h⟩) (fun f a' q => q.1 ▸ h2 a' q.2) (fun _ _ x => x)

theorem Wk_call_GD {K : Frag} {f : Addr} {ps rs ns : List Str} {gs : List (Str × Value)} {args vals : List Value} {us : List AV} {vs : List (Option AV)} {R : Result → AS → Prop}
    (hK : c.K = K) (hf : FnOk K f ps rs (gs.map (·.1))) (hns : ns = ps ++ rs) (hbind : ∀ s : Shared, K.In s.heap → BindsTo s (fdOf K f) ⟨args, []⟩ (ps.zip vals)) (hu : vals.map er = us) (hi : Init ps us rs vs) (hglob : ∀ p ∈ gs, Glob c p.1 p.2) (hA : AOk A fs (d + 1))
    (h : ∀ L env B P X, env.frame = some L → B.handled = none → σ L = none → AOk B (⟨L, [], ns, vs⟩ :: fs) d → (∃ outer, B.frames = some (env :: outer)) → EnvOk c env L [] ns gs → Fx fs (fun v => R (.ok (.ret v))) P → Ux L fs (fun e => R (.error e)) X →
      W c B (execs (bodyOf (fdOf K f)) env) P X ⟨⟨L, [], ns, vs⟩ :: fs, σ, g⟩) :
    Wk c A (.call (.ref f) ⟨args, []⟩) R ⟨fs, σ, g⟩ := by
  refine Wk_call_KD hK hf hns hbind hu hi hglob hA fun L env he hL hA' hE => ?_
  have hfr : env.frame = some L := by rw [he]; rfl
  have ho := hA.head env
  refine h L env _ _ _ hfr hA'.handled hL hA' ho hE ⟨fun _ _ _ q => Pop.mk q, fun _ _ _ _ q => Pop.mk q⟩ ⟨fun e t cls ar tb cl ns' vs' σ1 g1 hx q => ?_⟩
  obtain ⟨outer, ho⟩ := ho
  exact W_leaving (hA'.pop fun f hf => (List.mem_cons.mp hf).elim (fun z => ⟨⟨L, cl, ns', vs'⟩, List.mem_cons_self .., by rw [z]⟩) fun z => ⟨f, List.mem_cons_of_mem _ z, rfl⟩).link ho hfr hx fun σ' T x1 x2 => Pop.mk (q σ' T x1 x2)

theorem Wk_call_G {K : Frag} {f : Addr} {ps rs ns : List Str} {gs : List (Str × Value)} {args : List Value} {us : List AV} {vs : List (Option AV)} {R : Result → AS → Prop}
    (hK : c.K = K) (hf : FnOk K f ps rs (gs.map (·.1))) (hns : ns = ps ++ rs) (hbind : bindArgs (fdOf K f) ⟨args, []⟩ = pure (ps.zip args)) (hu : args.map er = us) (hi : Init ps us rs vs) (hglob : ∀ p ∈ gs, Glob c p.1 p.2) (hA : AOk A fs (d + 1))
    (h : ∀ L env B P X, env.frame = some L → B.handled = none → σ L = none → AOk B (⟨L, [], ns, vs⟩ :: fs) d → (∃ outer, B.frames = some (env :: outer)) → EnvOk c env L [] ns gs → Fx fs (fun v => R (.ok (.ret v))) P → Ux L fs (fun e => R (.error e)) X →
      W c B (execs (bodyOf (fdOf K f)) env) P X ⟨⟨L, [], ns, vs⟩ :: fs, σ, g⟩) :
    Wk c A (.call (.ref f) ⟨args, []⟩) R ⟨fs, σ, g⟩ := Wk_call_GD hK hf hns (fun _ _ => .of_eq hbind) hu hi hglob hA h

theorem W_call_G {K : Frag} {f : Addr} {ps rs ns : List Str} {gs : List (Str × Value)} {args : List Value} {us : List AV} {vs : List (Option AV)} {Q : Value → AS → Prop}
    (hK : c.K = K) (hf : FnOk K f ps rs (gs.map (·.1))) (hns : ns = ps ++ rs) (hbind : bindArgs (fdOf K f) ⟨args, []⟩ = pure (ps.zip args)) (hu : args.map er = us) (hi : Init ps us rs vs) (hglob : ∀ p ∈ gs, Glob c p.1 p.2) (hA : AOk A fs (d + 1))
    (h : ∀ L env B P X, env.frame = some L → B.handled = none → σ L = none → AOk B (⟨L, [], ns, vs⟩ :: fs) d → (∃ outer, B.frames = some (env :: outer)) → EnvOk c env L [] ns gs → Fx fs Q P → Ux L fs E X →
      W c B (execs (bodyOf (fdOf K f)) env) P X ⟨⟨L, [], ns, vs⟩ :: fs, σ, g⟩) :
    W c A (call (.ref f) args) Q E ⟨fs, σ, g⟩ := W_call (Wk_call_G hK hf hns hbind hu hi hglob hA h)

theorem Wk_call_GS {K : Frag} {f : Addr} {ps rs ns : List Str} {gs : List (Str × Value)} {pre rest : List Value} {us : List AV} {vs : Addr → List (Option AV)} {R : Result → AS → Prop}
    (hK : c.K = K) (hf : FnOk K f ps rs (gs.map (·.1))) (hns : ns = ps ++ rs) (hbind : bindArgs (fdOf K f) ⟨pre ++ rest, []⟩ = (do let t ← newTuple rest; pure (ps.zip (pre ++ [t])))) (hu : pre.map er = us)
    (hi : ∀ t, Init ps (us ++ [.ref t]) rs (vs t)) (hglob : ∀ p ∈ gs, Glob c p.1 p.2) (hA : AOk A fs (d + 1)) (hz : rest.length ≤ 1000000)
    (h : ∀ L env t σ' B P X, env.frame = some L → B.handled = none → σ t = none → σ' = upd σ t (some (0, .tuple (rest.map er))) → σ' L = none → AOk B (⟨L, [], ns, vs t⟩ :: fs) d → (∃ outer, B.frames = some (env :: outer)) → EnvOk c env L [] ns gs →
      Fx fs (fun v => R (.ok (.ret v))) P → Ux L fs (fun e => R (.error e)) X → W c B (execs (bodyOf (fdOf K f)) env) P X ⟨⟨L, [], ns, vs t⟩ :: fs, σ', g⟩) :
    Wk c A (.call (.ref f) ⟨pre ++ rest, []⟩) R ⟨fs, σ, g⟩ := by
  refine Wk_call_KS hK hf hns hbind hu hi hglob hA hz fun L env t σ' he ht e1 hL hA' hE => ?_
  have hfr : env.frame = some L := by rw [he]; rfl
  have ho := hA.head env
  refine h L env t σ' _ _ _ hfr hA'.handled ht e1 hL hA' ho hE ⟨fun _ _ _ q => Pop.mk q, fun _ _ _ _ q => Pop.mk q⟩ ⟨fun e t cls ar tb cl ns' vs' σ1 g1 hx q => ?_⟩
  obtain ⟨outer, ho⟩ := ho
  exact W_leaving (hA'.pop fun f hf => (List.mem_cons.mp hf).elim (fun z => ⟨⟨L, cl, ns', vs'⟩, List.mem_cons_self .., by rw [z]⟩) fun z => ⟨f, List.mem_cons_of_mem _ z, rfl⟩).link ho hfr hx fun σ' T x1 x2 => Pop.mk (q σ' T x1 x2)

theorem W_call_GC {K : Frag} {f : Addr} {nk : List (Str × Bool)} {ps rs ns : List Str} {gs : List (Str × Value)} {args : List Value} {us : List AV} {vs : List (Option AV)} {Q : Value → AS → Prop}
    (hK : c.K = K) (hf : FnOkC K f nk (gs.map (·.1))) (hnk : nk.map (·.1) = ps ++ rs) (hns : ns = ps ++ rs) (hbind : bindArgs (fdOf K f) ⟨args, []⟩ = pure (ps.zip args)) (hu : args.map er = us) (hi : Init ps us rs vs) (hglob : ∀ p ∈ gs, Glob c p.1 p.2) (hA : AOk A fs (d + 1))
    (h : ∀ L cl env B P X, env.globals = mainGlobals → env.builtins = builtinsNs → env.frame = some L → B.handled = none → σ L = none → AOk B (⟨L, cl, ns, vs⟩ :: fs) d → (∃ outer, B.frames = some (env :: outer)) → EnvOk c env L cl ns gs → CapOk env cl ((nk.filter (·.2)).map (·.1)) → Fx fs Q P → Ux L fs E X →
      W c B (execs (bodyOf (fdOf K f)) env) P X ⟨⟨L, cl, ns, vs⟩ :: fs, σ, g⟩) :
    W c A (call (.ref f) args) Q E ⟨fs, σ, g⟩ := by
  refine W_call_C hK hf hnk hns hbind hu hi hglob hA fun L cl env he hL hA' hE hC => ?_
  have hfr : env.frame = some L := by rw [he]; rfl
  have ho := hA.head env
  refine h L cl env _ _ _ hE.gl hE.bl hfr hA'.handled hL hA' ho hE hC ⟨fun _ _ _ q => Pop.mk q, fun _ _ _ _ q => Pop.mk q⟩ ⟨fun e t cls ar tb cl ns' vs' σ1 g1 hx q => ?_⟩
  obtain ⟨outer, ho⟩ := ho
  exact W_leaving (hA'.pop fun f hf => (List.mem_cons.mp hf).elim (fun z => ⟨⟨L, cl, ns', vs'⟩, List.mem_cons_self .., by rw [z]⟩) fun z => ⟨f, List.mem_cons_of_mem _ z, rfl⟩).link ho hfr hx fun σ' T x1 x2 => Pop.mk (q σ' T x1 x2)

theorem Wk_loopG {L : Addr} {cl : List (Str × Addr)} {ns : List Str} {target : Expr} {it : Addr} {body : List Stmt} {vs : List AV} {src : (Addr → Option (Nat × Cell)) → Prop} {cell : Nat → Cell} {vv₀ : List (Option AV)} {σ₀ σ₁ : Addr → Option (Nat × Cell)} {R : Result → AS → Prop}
    (IO : IterOf c A vs k src cell) (C : List Nat) (h9 : 9 ∉ C) (hk : k ∉ C) (J : Nat → List (Option AV) → (Addr → Option (Nat × Cell)) → Prop)
    (stab : ∀ i vv σ σ', J i vv σ → Ext [9] σ σ' → J i vv σ') (hit : σ₀ it = none) (e₁ : σ₁ = upd σ₀ it (some (9, cell 0))) (hsrc : src σ₁) (hJ : J 0 vv₀ σ₀)
    (turn : ∀ i v vv σ u P X, Lx L cl ns fs g C σ (J (i + 1)) R P → (∀ e a', Noted c A env (fun e a' => R (.error e) a') e a' → X e a') → J i vv σ → vs[i]? = some v → er u = v → src σ → Ext C σ₀ σ →
      W c A (assign target env u) (fun _ a₂ => W c A (execs body env) P X a₂) X ⟨⟨L, cl, ns, vv⟩ :: fs, σ, g⟩)
    (fin : ∀ vv σ, J vs.length vv σ → Ext C σ₀ σ → R (.ok .next) ⟨⟨L, cl, ns, vv⟩ :: fs, σ, g⟩) :
    Wk c A (.forLoop target (.ref it) body [] env) R ⟨⟨L, cl, ns, vv₀⟩ :: fs, σ₁, g⟩ :=
  Wk_loop IO C h9 hk J stab hit e₁ hsrc hJ (fun i v vv σ u hj hv eu hs hx => turn i v vv σ u _ _ ⟨fun vv σ' x j => ⟨vv, σ', rfl, x, j⟩, fun vv σ' x j => ⟨vv, σ', rfl, x, j⟩, fun _ h => h, fun _ _ h => h⟩ (fun _ _ h => h) hj hv eu hs hx) fin

theorem W_WhileG {test : Expr} {body orelse : List Stmt} {pos : Pos} {Q : Flow → AS → Prop} (I : Nat → AS → Prop)
    (turn : ∀ n a P X, Wx (fun a' => ∃ m, m < n ∧ I m a') Q P → (∀ e a', Noted c A env (Came c A env E) e a' → X e a') → I n a →
      W c A (isTrue test env (eval test env)) (fun b a₁ => if b then W c A (execs body env) P X a₁ else W c A (execs orelse env) Q X a₁) X a)
    (n : Nat) (h : I n a) : W c A (exec (.While test body orelse pos) env) Q E a :=
  W_While I (fun n a hI => turn n a _ _ ⟨fun _ h => h, fun _ h => h, fun _ h => h, fun _ _ h => h⟩ (fun _ _ h => h) hI) n h
end
end Mine.Internal

namespace Mine.Internal
open PySem PySem.W PyProof.Rows PySem.Calls PySem.F PySem.SeqAt

/-! data that may be compared -/
noncomputable def Sh (n : Nat) (d : PyData) : Prop := d.canLay0 = true ∧ d.depth ≤ n
theorem Sh.int {i : Int} {n : Nat} : Sh n (.int i) := ⟨rfl, Nat.zero_le _⟩
theorem Sh.none {n : Nat} : Sh n .none := ⟨rfl, Nat.zero_le _⟩
theorem Sh.all {n : Nat} {ds : List PyData} (h : ∀ d ∈ ds, Sh n d) : PyData.canLayAll0 ds = true ∧ PyData.depthAll ds ≤ n := by
  induction ds with
  | nil => exact ⟨rfl, Nat.zero_le _⟩
  | cons d ds ih =>
    obtain ⟨a, b⟩ := ih fun x hx => h x (List.mem_cons_of_mem _ hx)
    obtain ⟨a', b'⟩ := h d (List.mem_cons_self ..)
    exact ⟨by rw [PyData.canLayAll0, a, a']; rfl, by rw [PyData.depthAll]; exact Nat.max_le.mpr ⟨b', b⟩⟩
theorem Sh.list {n : Nat} {ds : List PyData} (h : ∀ d ∈ ds, Sh n d) : Sh (n + 1) (.list ds) := ⟨(Sh.all h).1, Nat.succ_le_succ (Sh.all h).2⟩
theorem Sh.tuple {n : Nat} {ds : List PyData} (h : ∀ d ∈ ds, Sh n d) : Sh (n + 1) (.tuple ds) := ⟨(Sh.all h).1, Nat.succ_le_succ (Sh.all h).2⟩
theorem Sh.ok {n : Nat} {d : PyData} (h : Sh n d) (hn : n ≤ 64 := by decide) : shaped d = true := by
  unfold shaped
  rw [h.1, Bool.true_and, decide_eq_true_eq]
  exact Nat.le_trans h.2 hn
theorem eqv_nil {ds : List PyData} : PyData.eqv (.list ds) (.list []) = ds.isEmpty := by
  cases ds <;> rfl
theorem eqv_self {n : Nat} {d : PyData} (h : Sh n d) : PyData.eqv d d = true := PySem.SeqAt.eqv_refl d h.1

section
variable {c : Cx} {A : Around} {E : Value → AS → Prop} {a : AS} {env : Env} {fs : List Frm} {σ : Addr → Option (Nat × Cell)} {g : Array GenState} {k : Nat} {d : Nat} {L : Addr} {ns : List Str} {gs : List (Str × Value)}

noncomputable def BL (c : Cx) (l : Addr) (vs : List AV) : Prop := ∃ us : Array Value, c.base.IsList l us ∧ us.toList.map er = vs
theorem W_slice_toB {value upper : Expr} {p pos : Pos} {Q : Value → AS → Prop} (kd : Nat)
    (h : W c A (eval value env) (fun o a₁ => W c A (eval upper env) (fun vl a₂ => ∃ l vs i t, o = .ref l ∧ vl = .int i t ∧ BL c l vs ∧ vs.length ≤ 1000000 ∧ 0 ≤ i ∧
      ∀ D, a₂.σ D = none → ∀ σ', σ' = upd a₂.σ D (some (kd, .list (vs.take i.toNat))) → Q (.ref D) ⟨a₂.fs, σ', a₂.gens⟩) E a₁) E a)
    (ht : ∀ o r, letTemporaryGo value o r = pure () := by intro _ _; with_unfolding_all rfl) : W c A (eval (.Subscript value (.Slice none (some upper) none p) pos) env) Q E a := fun s hs => by
  refine wpAny_Subscript_list_slice (wpAny_mono (h s hs) (fun o s₁ ⟨a₁, h1, q⟩ => ?_) fun _ _ x => x) ht
  rw [show evalPart none env = (pure .none : Sem Value) from rfl]
  refine wpAny_pure ?_
  show wpAny _ _ (eval upper env) _ _ _
  refine wpAny_mono (q s₁ h1) (fun vl s₂ q => ?_) fun _ _ x => x
  obtain ⟨a₂, h2, l, vs, i, t, e1, e2, ⟨us, hl, e⟩, hz, h0, q⟩ := q
  have hsz := size_of e
  obtain ⟨o, ho, hc, n, hd⟩ := hl
  refine ⟨l, us, none, some i, e1, ⟨o, h2.keep _ _ ho, hc, n, hd⟩, by rw [hsz]; exact sizeLine_big hz, .none, by rw [e2]; exact .int i t, ?_⟩
  have S1 := h2.grow (h' := s₂.heap.push { cls := .type "slice", data := .fields #[.none, vl, .none] }) fun b o e => Heap.get?_push_of_some _ e
  obtain ⟨j, rfl⟩ := Int.eq_ofNat_of_zero_le h0
  rw [slicePick_to us j]
  have := S1.alloc (k := kd) (cl := .list (vs.take j)) (o := { cls := .type "list", data := .seq (us.toList.take j).toArray }) ⟨_, 0, rfl, by rw [← e]; simp⟩ rfl
  have hf := S1.fresh.1
  dsimp only at this hf
  rw [Heap.size_push] at this hf
  exact ⟨_, this, q _ hf _ (by simp)⟩

end
end Mine.Internal

namespace Mine.Internal
open PySem PySem.W PyProof.Rows PySem.Calls

theorem All.ref {a : Addr} {P : Value → Prop} (h : P (.ref a)) : All (.ref a) P := h
theorem All.none {P : Value → Prop} (h : P .none) : All .none P := h
theorem All.bool {b : Bool} {P : Value → Prop} (h : P (.bool b)) : All (.bool b) P := h
theorem All.int {i : Int} {P : Value → Prop} (h : ∀ t, P (.int i t)) : All (.int i) P := h
theorem Kp.inK {c : Cx} {f : Value} {a : AS} (h : keepIn c.K f = true) : Kp c f a := fun s hs => by
  obtain ⟨k, _, l⟩ := looks_keep (M := model c.prog c.w) h (c.inK.keeps hs.keep)
  exact ⟨k, l⟩

theorem AOk.underMake {A : Around} {fs : List Frm} {d : Nat} {C : Addr} {args : List Value} (h : AOk A fs (d + 1)) : AOk (A.under (.builtin "type.__call__" ⟨.ref C :: args, []⟩)) fs d :=
  h.under (Nat.le_of_ble_eq_true rfl) (Nat.le_of_ble_eq_true rfl) rfl rfl

/-! the sorter's state -/
structure SS where
  keys : List AV
  np : AV → Int
  su : AV → List AV
  ready : Option (List AV)
  npass : Int
  nfin : Int

noncomputable def fset {α : Type} (f : AV → α) (k : AV) (v : α) : AV → α := fun y => if y = k then v else f y
@[simp] theorem fset_self {α : Type} {f : AV → α} {k : AV} {v : α} : fset f k v k = v := by simp [fset]
theorem fset_ne {α : Type} {f : AV → α} {k y : AV} {v : α} (h : y ≠ k) : fset f k v y = f y := by simp [fset, h]


noncomputable def SS.ens (st : SS) (k : AV) : SS := { st with keys := if k ∈ st.keys then st.keys else st.keys ++ [k] }
noncomputable def SS.succ (st : SS) (k p : AV) : SS := { st.ens p with su := fset st.su p (st.su p ++ [k]) }
noncomputable def SS.addN (st : SS) (k : AV) (n : Int) : SS := { st.ens k with np := fset st.np k (st.np k + n) }
noncomputable def SS.add (st : SS) (k : AV) (ps : List AV) : SS := ps.foldl (fun s p => s.succ k p) (st.addN k ps.length)

noncomputable def SS.out (np : AV → Int) (l : List AV) : AV → Int := l.foldl (fun f k => fset f k (-1)) np
noncomputable def SS.getReady (st : SS) (l : List AV) : SS := { st with np := SS.out st.np l, ready := some [], npass := st.npass + l.length }
noncomputable def SS.dec (st : SS) (k : AV) : SS := { st with np := fset st.np k (st.np k - 1), ready := if st.np k - 1 = 0 then some (st.ready.getD [] ++ [k]) else st.ready }
noncomputable def SS.done1 (st : SS) (k : AV) : SS := let s := (st.su k).foldl (fun s p => s.dec p) { st with np := fset st.np k (-2) }; { s with nfin := s.nfin + 1 }
noncomputable def SS.done (st : SS) (l : List AV) : SS := l.foldl SS.done1 st

noncomputable def SS.rl (st : SS) : Nat := (st.ready.getD []).length
theorem SS.dec_rl {st : SS} {k : AV} : (st.dec k).rl ≤ st.rl + 1 := by
  unfold SS.dec SS.rl; dsimp only
  split
  · simp
  · omega
theorem SS.decs_rl : ∀ {l : List AV} {st : SS}, (l.foldl (fun s p => s.dec p) st).rl ≤ st.rl + l.length
  | [], _ => Nat.le_refl _
  | k :: l, st => by
    have := SS.decs_rl (l := l) (st := st.dec k)
    have := SS.dec_rl (st := st) (k := k)
    simp only [List.foldl_cons, List.length_cons]; omega
theorem SS.decs_same : ∀ {l : List AV} {st : SS}, (l.foldl (fun s p => s.dec p) st).keys = st.keys ∧ (l.foldl (fun s p => s.dec p) st).su = st.su ∧ ((l.foldl (fun s p => s.dec p) st).ready.isSome = st.ready.isSome ∨ (l.foldl (fun s p => s.dec p) st).ready.isSome = true) ∧ (l.foldl (fun s p => s.dec p) st).npass = st.npass ∧ (l.foldl (fun s p => s.dec p) st).nfin = st.nfin
  | [], _ => ⟨rfl, rfl, .inl rfl, rfl, rfl⟩
  | k :: l, st => by
    obtain ⟨h1, h2, h3, h4, h5⟩ := SS.decs_same (l := l) (st := st.dec k)
    simp only [List.foldl_cons]
    refine ⟨h1, h2, ?_, h4, h5⟩
    rcases h3 with h3 | h3
    · by_cases q : st.np k - 1 = 0
      · right; rw [h3]; simp [SS.dec, q]
      · left; rw [h3]; simp [SS.dec, q]
    · exact .inr h3
theorem SS.done1_same {st : SS} {k : AV} : (st.done1 k).keys = st.keys ∧ (st.done1 k).su = st.su ∧ (st.ready.isSome = true → (st.done1 k).ready.isSome = true) ∧ (st.done1 k).npass = st.npass ∧ (st.done1 k).nfin = st.nfin + 1 ∧ (st.done1 k).rl ≤ st.rl + (st.su k).length := by
  obtain ⟨h1, h2, h3, h4, h5⟩ := SS.decs_same (l := st.su k) (st := { st with np := fset st.np k (-2) })
  refine ⟨h1, h2, fun q => ?_, h4, ?_, SS.decs_rl (l := st.su k) (st := { st with np := fset st.np k (-2) })⟩
  · rcases h3 with h3 | h3
    · exact h3.trans q
    · exact h3
  · unfold SS.done1; dsimp only; rw [h5]
theorem SS.done_same {N : Nat} : ∀ {l : List AV} {st : SS}, (∀ k, (st.su k).length ≤ N) → (st.done l).keys = st.keys ∧ (st.done l).su = st.su ∧ (st.ready.isSome = true → (st.done l).ready.isSome = true) ∧ (st.done l).npass = st.npass ∧ (st.done l).nfin = st.nfin + l.length ∧ (st.done l).rl ≤ st.rl + N * l.length
  | [], _, _ => ⟨rfl, rfl, id, rfl, by simp [SS.done], by simp [SS.done]⟩
  | k :: l, st, hN => by
    obtain ⟨a1, a2, a3, a4, a5, a6⟩ := SS.done1_same (st := st) (k := k)
    obtain ⟨h1, h2, h3, h4, h5, h6⟩ := SS.done_same (l := l) (st := st.done1 k) (N := N) (by rw [a2]; exact hN)
    have e : st.done (k :: l) = (st.done1 k).done l := rfl
    have hk := hN k
    refine ⟨by rw [e, h1, a1], by rw [e, h2, a2], fun q => by rw [e]; exact h3 (a3 q), by rw [e, h4, a4], by rw [e, h5, a5, List.length_cons]; omega, ?_⟩
    rw [e, List.length_cons, Nat.mul_succ]; omega
theorem SS.done_snoc {l : List AV} {k : AV} {st : SS} : st.done (l ++ [k]) = (st.done l).done1 k := by unfold SS.done; rw [List.foldl_append]; rfl

structure SS.Fit (st : SS) (N : Nat) : Prop where
  keys : st.keys.length ≤ N
  su : ∀ k, (st.su k).length ≤ N

theorem SS.Fit.mono {st : SS} {N M : Nat} (h : st.Fit N) (hm : N ≤ M) : st.Fit M := ⟨Nat.le_trans h.keys hm, fun k => Nat.le_trans (h.su k) hm⟩
theorem SS.ens_len {st : SS} {k : AV} : (st.ens k).keys.length ≤ st.keys.length + 1 := by
  unfold SS.ens; dsimp only; split <;> simp
theorem SS.Fit.addN {st : SS} {N : Nat} {k : AV} {n : Int} (h : st.Fit N) : (st.addN k n).Fit (N + 1) :=
  ⟨Nat.le_trans SS.ens_len (Nat.succ_le_succ h.keys), fun k => Nat.le_succ_of_le (h.su k)⟩
theorem SS.Fit.succ {st : SS} {N : Nat} {k p : AV} (h : st.Fit N) : (st.succ k p).Fit (N + 1) :=
  ⟨Nat.le_trans SS.ens_len (Nat.succ_le_succ h.keys), fun q => by
    show (fset st.su p (st.su p ++ [k]) q).length ≤ _
    by_cases e : q = p
    · subst e; rw [fset_self, List.length_append]; exact Nat.succ_le_succ (h.su q)
    · rw [fset_ne e]; exact Nat.le_succ_of_le (h.su q)⟩
theorem SS.Fit.succs {k : AV} : ∀ {ps : List AV} {st : SS} {N : Nat}, st.Fit N → (ps.foldl (fun s p => s.succ k p) st).Fit (N + ps.length)
  | [], _, _, h => h
  | p :: ps, st, N, h => by
    have := SS.Fit.succs (k := k) (ps := ps) (h.succ (k := k) (p := p))
    simpa [Nat.add_assoc, Nat.add_comm 1] using this
theorem SS.Fit.add {st : SS} {N : Nat} {k : AV} {ps : List AV} (h : st.Fit N) : (st.add k ps).Fit (N + 1 + ps.length) := h.addN.succs

structure NAd where
  i : Addr
  d : Addr
  s : Addr

noncomputable abbrev CNI : Addr := 40
noncomputable abbrev CTS : Addr := 137

structure NdAt (σ : Addr → Option (Nat × Cell)) (p : NAd) (k : AV) (n : Int) (su : List AV) : Prop where
  i : σ p.i = some (1, .inst CNI p.d [some k, some (.int n), some (.ref p.s)])
  d : σ p.d = some (1, .attrs [])
  s : σ p.s = some (2, .list su)

@[reducible] noncomputable def sAttrs (nd : Addr) (rv : AV) (st : SS) : List (Str × AV) := [("_node2info", .ref nd), ("_ready_nodes", rv), ("_npassedout", .int st.npass), ("_nfinished", .int st.nfin)]

noncomputable def RdyAt (σ : Addr → Option (Nat × Cell)) (rv : AV) (r : Option (List AV)) : Prop := match r with
  | none => rv = .none
  | some l => ∃ b, rv = .ref b ∧ σ b = some (1, .list l)

structure SAt (σ : Addr → Option (Nat × Cell)) (x : Addr) (st : SS) (dx nd : Addr) (rv : AV) (as : List NAd) (ep : Nat) : Prop where
  x : σ x = some (1, .inst CTS dx [])
  dx : σ dx = some (1, .attrs (sAttrs nd rv st))
  nd : σ nd = some (1, .dict (st.keys.zip (as.map fun p => AV.ref p.i)) ep)
  len : as.length = st.keys.length
  nds : ∀ (j : Nat) (p : NAd) (k : AV), as[j]? = some p → st.keys[j]? = some k → NdAt σ p k (st.np k) (st.su k)
  rdy : RdyAt σ rv st.ready
  ni : (as.map (·.i)).Nodup
  nsu : (as.map (·.s)).Nodup
  key : ∀ k ∈ st.keys, k.isKey = true
  knd : st.keys.Nodup
  dflt : ∀ k, k ∉ st.keys → st.np k = 0 ∧ st.su k = []

theorem nodup_idx {α β : Type} {f : α → β} {l : List α} (h : (l.map f).Nodup) {i j : Nat} {a b : α} (ha : l[i]? = some a) (hb : l[j]? = some b) (e : f a = f b) : i = j := by
  obtain ⟨hi, ha⟩ := List.getElem?_eq_some_iff.mp ha
  obtain ⟨hj, hb⟩ := List.getElem?_eq_some_iff.mp hb
  have h' := List.pairwise_iff_getElem.mp h
  rcases Nat.lt_trichotomy i j with q | q | q
  · exact (h' i j (by simpa using hi) (by simpa using hj) q (by simp [ha, hb, e])).elim
  · exact q
  · exact (h' j i (by simpa using hj) (by simpa using hi) q (by simp [ha, hb, e])).elim
theorem nodup_idx' {α : Type} {l : List α} (h : l.Nodup) {i j : Nat} {a : α} (ha : l[i]? = some a) (hb : l[j]? = some a) : i = j :=
  nodup_idx (f := id) (by simpa using h) ha hb rfl

theorem dget_zip : ∀ {ks vs : List AV} {j : Nat} {k v : AV}, ks.Nodup → ks[j]? = some k → vs[j]? = some v → dget (ks.zip vs) k = some v
  | a :: ks, b :: vs, 0, k, v, _, h1, h2 => by
    simp only [List.getElem?_cons_zero, Option.some.injEq] at h1 h2
    subst h1 h2; simp [dget]
  | a :: ks, b :: vs, j + 1, k, v, hd, h1, h2 => by
    simp only [List.getElem?_cons_succ] at h1 h2
    have hm := List.mem_of_getElem? h1
    have hne : a ≠ k := fun e => (List.nodup_cons.mp hd).1 (e ▸ hm)
    have := dget_zip (List.nodup_cons.mp hd).2 h1 h2
    simpa [dget, hne] using this
  | [], _, _, _, _, _, h, _ => by simp at h
  | _ :: _, [], _, _, _, _, _, h => by simp at h
theorem dget_zip_none : ∀ {ks vs : List AV} {k : AV}, k ∉ ks → dget (ks.zip vs) k = none
  | a :: ks, b :: vs, k, h => by
    simp only [List.mem_cons, not_or] at h
    have := dget_zip_none (vs := vs) h.2
    simpa [dget, Ne.symm h.1] using this
  | [], _, _, _ => by simp [dget]
  | _ :: _, [], _, _ => by simp [dget]
theorem dset_zip {ks vs : List AV} {k v : AV} (hl : ks.length = vs.length) (h : k ∉ ks) : dset (ks.zip vs) k v = (ks ++ [k]).zip (vs ++ [v]) := by
  have : (ks.zip vs).any (fun p => p.1 = k) = false := by
    rw [List.any_eq_false]
    intro p hp
    have := (List.of_mem_zip hp).1
    simp only [decide_eq_true_eq]
    exact fun e => h (e ▸ this)
  unfold dset
  rw [this, List.zip_append hl]
  simp

section
variable {σ σ' : Addr → Option (Nat × Cell)} {x dx nd : Addr} {rv : AV} {as : List NAd} {ep : Nat} {st : SS}

theorem NdAt.ext {C : List Nat} {p : NAd} {k : AV} {n : Int} {su : List AV} (h : NdAt σ p k n su) (e : Ext C σ σ') (h1 : 1 ∉ C) (h2 : 2 ∉ C) : NdAt σ' p k n su := ⟨e _ _ _ h.i h1, e _ _ _ h.d h1, e _ _ _ h.s h2⟩
theorem RdyAt.ext {C : List Nat} {r : Option (List AV)} (h : RdyAt σ rv r) (e : Ext C σ σ') (h1 : 1 ∉ C) : RdyAt σ' rv r := by
  cases r with
  | none => exact h
  | some l => obtain ⟨b, h2, h3⟩ := h; exact ⟨b, h2, e _ _ _ h3 h1⟩
theorem SAt.ext {C : List Nat} (h : SAt σ x st dx nd rv as ep) (e : Ext C σ σ') (h1 : 1 ∉ C) (h2 : 2 ∉ C) : SAt σ' x st dx nd rv as ep :=
  ⟨e _ _ _ h.x h1, e _ _ _ h.dx h1, e _ _ _ h.nd h1, h.len, fun j p k a b => (h.nds j p k a b).ext e h1 h2, h.rdy.ext e h1, h.ni, h.nsu, h.key, h.knd, h.dflt⟩

theorem SAt.find (h : SAt σ x st dx nd rv as ep) {k : AV} (hk : k ∈ st.keys) : ∃ (j : Nat) (p : NAd), st.keys[j]? = some k ∧ as[j]? = some p ∧ dget (st.keys.zip (as.map fun p => AV.ref p.i)) k = some (.ref p.i) := by
  obtain ⟨j, hj, e⟩ := List.mem_iff_getElem.mp hk
  have hj' : j < as.length := by rw [h.len]; exact hj
  refine ⟨j, as[j], by simp [hj, e], by simp [hj'], dget_zip h.knd (j := j) (by simp [hj, e]) (by simp [hj'])⟩
theorem SAt.find_none (h : SAt σ x st dx nd rv as ep) {k : AV} (hk : k ∉ st.keys) : dget (st.keys.zip (as.map fun p => AV.ref p.i)) k = none := dget_zip_none hk

/-- a node's count changed -/
theorem SAt.setNp (h : SAt σ x st dx nd rv as ep) {j : Nat} {p : NAd} {k : AV} {n : Int} (hk : st.keys[j]? = some k) (hp : as[j]? = some p) :
    SAt (upd σ p.i (some (1, .inst CNI p.d [some k, some (.int n), some (.ref p.s)]))) x { st with np := fset st.np k n } dx nd rv as ep := by
  have N := h.nds j p k hp hk
  have ne : ∀ {y c' cl}, σ y = some (c', cl) → (∀ d sl, cl ≠ .inst CNI d sl) → y ≠ p.i := fun {y c' cl} e q z => by rw [z, N.i] at e; cases e; exact q _ _ rfl
  have nx : x ≠ p.i := fun z => by have := h.x; rw [z, N.i] at this; cases this
  refine ⟨by rw [upd_ne nx]; exact h.x, by rw [upd_ne (ne h.dx (by intro _ _ q; cases q))]; exact h.dx, by rw [upd_ne (ne h.nd (by intro _ _ q; cases q))]; exact h.nd, h.len, fun j' p' k' a b => ?_, ?_, h.ni, h.nsu, h.key, h.knd, fun k' hk' => ?_⟩
  · have N' := h.nds j' p' k' a b
    have hd := ne N'.d (by intro _ _ q; cases q)
    have hs := ne N'.s (by intro _ _ q; cases q)
    by_cases e : p'.i = p.i
    · have := nodup_idx h.ni a hp e
      subst this
      rw [hp] at a; cases a
      rw [hk] at b; cases b
      exact ⟨by simp, by rw [upd_ne hd]; exact N.d, by rw [upd_ne hs]; exact N.s⟩
    · have hkk : k' ≠ k := fun z => e (by
        subst z
        have := nodup_idx' h.knd hk b
        subst this
        rw [hp] at a; cases a; rfl)
      refine ⟨by rw [upd_ne e]; dsimp only; rw [fset_ne hkk]; exact N'.i, by rw [upd_ne hd]; exact N'.d, by rw [upd_ne hs]; exact N'.s⟩
  · have := h.rdy
    dsimp only
    cases q : st.ready with
    | none => rw [q] at this; exact this
    | some l =>
      rw [q] at this
      obtain ⟨b, h2, h3⟩ := this
      exact ⟨b, h2, by rw [upd_ne (ne h3 (by intro _ _ q; cases q))]; exact h3⟩
  · have hne : k' ≠ k := fun z => hk' (by rw [z]; exact List.mem_of_getElem? hk)
    dsimp only
    rw [fset_ne hne]; exact h.dflt k' hk'

/-- a node's successors changed -/
theorem SAt.setSu (h : SAt σ x st dx nd rv as ep) {j : Nat} {p : NAd} {k : AV} {su : List AV} (hk : st.keys[j]? = some k) (hp : as[j]? = some p) :
    SAt (upd σ p.s (some (2, .list su))) x { st with su := fset st.su k su } dx nd rv as ep := by
  have N := h.nds j p k hp hk
  have ne : ∀ {y cl}, σ y = some (1, cl) → y ≠ p.s := fun {y cl} e z => by rw [z, N.s] at e; cases e
  refine ⟨by rw [upd_ne (ne h.x)]; exact h.x, by rw [upd_ne (ne h.dx)]; exact h.dx, by rw [upd_ne (ne h.nd)]; exact h.nd, h.len, fun j' p' k' a b => ?_, ?_, h.ni, h.nsu, h.key, h.knd, fun k' hk' => ?_⟩
  · have N' := h.nds j' p' k' a b
    have hd := ne N'.d
    have hi := ne N'.i
    by_cases e : p'.s = p.s
    · have := nodup_idx h.nsu a hp e
      subst this
      rw [hp] at a; cases a
      rw [hk] at b; cases b
      exact ⟨by rw [upd_ne hi]; exact N.i, by rw [upd_ne hd]; exact N.d, by simp⟩
    · have hkk : k' ≠ k := fun z => e (by
        subst z
        have := nodup_idx' h.knd hk b
        subst this
        rw [hp] at a; cases a; rfl)
      refine ⟨by rw [upd_ne hi]; exact N'.i, by rw [upd_ne hd]; exact N'.d, by rw [upd_ne e]; dsimp only; rw [fset_ne hkk]; exact N'.s⟩
  · have := h.rdy
    dsimp only
    cases q : st.ready with
    | none => rw [q] at this; exact this
    | some l =>
      rw [q] at this
      obtain ⟨b, h2, h3⟩ := this
      refine ⟨b, h2, by rw [upd_ne (ne h3)]; exact h3⟩
  · have hne : k' ≠ k := fun z => hk' (by rw [z]; exact List.mem_of_getElem? hk)
    dsimp only
    rw [fset_ne hne]; exact h.dflt k' hk'

/-- the list of those ready changed -/
theorem SAt.setReady (h : SAt σ x st dx nd rv as ep) {l l' : List AV} {b : Addr} (hr : st.ready = some l) (hb : rv = .ref b) :
    SAt (upd σ b (some (1, .list l'))) x { st with ready := some l' } dx nd rv as ep := by
  have hb' : σ b = some (1, .list l) := by
    have := h.rdy
    rw [hr] at this
    obtain ⟨b', h2, h3⟩ := this
    rw [h2] at hb; cases hb; exact h3
  have ne : ∀ {y cl}, σ y = some (1, cl) → (∀ l, cl ≠ .list l) → y ≠ b := fun {y cl} e q z => by rw [z, hb'] at e; cases e; exact q _ rfl
  refine ⟨by rw [upd_ne (ne h.x (by intro _ q; cases q))]; exact h.x, by rw [upd_ne (ne h.dx (by intro _ q; cases q))]; exact h.dx, by rw [upd_ne (ne h.nd (by intro _ q; cases q))]; exact h.nd, h.len, fun j' p' k' a b' => ?_, ⟨b, hb, by simp⟩, h.ni, h.nsu, h.key, h.knd, h.dflt⟩
  have N' := h.nds j' p' k' a b'
  exact ⟨by rw [upd_ne (ne N'.i (by intro _ q; cases q))]; exact N'.i, by rw [upd_ne (ne N'.d (by intro _ q; cases q))]; exact N'.d, by rw [upd_ne (fun z => by have := N'.s; rw [z, hb'] at this; cases this)]; exact N'.s⟩

/-- an attribute of the sorter changed; the list of those ready may be another one -/
theorem SAt.setAttrs (h : SAt σ x st dx nd rv as ep) {st' : SS} {rv' : AV} (e1 : st'.keys = st.keys) (e2 : st'.np = st.np) (e3 : st'.su = st.su) (hr : RdyAt σ rv' st'.ready) :
    SAt (upd σ dx (some (1, .attrs (sAttrs nd rv' st')))) x st' dx nd rv' as ep := by
  have ne : ∀ {y c' cl}, σ y = some (c', cl) → (∀ l, l ≠ [] → cl ≠ .attrs l) → y ≠ dx := fun {y c' cl} e q z => by rw [z, h.dx] at e; cases e; exact q _ (by simp [sAttrs]) rfl
  refine ⟨by rw [upd_ne (ne h.x (by intro _ _ q; cases q))]; exact h.x, by simp, by rw [upd_ne (ne h.nd (by intro _ _ q; cases q)), e1]; exact h.nd, by rw [e1]; exact h.len, fun j' p' k' a b' => ?_, ?_, h.ni, h.nsu, by rw [e1]; exact h.key, by rw [e1]; exact h.knd, by rw [e1, e2, e3]; exact h.dflt⟩
  · rw [e1] at b'
    have N' := h.nds j' p' k' a b'
    rw [e2, e3]
    exact ⟨by rw [upd_ne (ne N'.i (by intro _ _ q; cases q))]; exact N'.i, by rw [upd_ne (ne N'.d (by intro l hl q; cases q; exact hl rfl))]; exact N'.d, by rw [upd_ne (ne N'.s (by intro _ _ q; cases q))]; exact N'.s⟩
  · cases q : st'.ready with
    | none => rw [q] at hr; exact hr
    | some l =>
      rw [q] at hr
      obtain ⟨b, h2, h3⟩ := hr
      exact ⟨b, h2, by rw [upd_ne (ne h3 (by intro _ _ q; cases q))]; exact h3⟩

/-- a new node -/
theorem SAt.new (h : SAt σ x st dx nd rv as ep) {k : AV} {p : NAd} {ep' : Nat} (hk : k ∉ st.keys) (hkey : k.isKey = true) (e : Ext [] σ σ') (hi : σ p.i = none) (hs : σ p.s = none) (hN : NdAt σ' p k 0 [])  :
    SAt (upd σ' nd (some (1, .dict ((st.keys ++ [k]).zip ((as ++ [p]).map fun p => AV.ref p.i)) ep'))) x { st with keys := st.keys ++ [k] } dx nd rv (as ++ [p]) ep' := by
  have h' := h.ext e (by simp) (by simp)
  have ne : ∀ {y c' cl}, σ' y = some (c', cl) → (∀ l n, cl ≠ .dict l n) → y ≠ nd := fun {y c' cl} e q z => by rw [z, h'.nd] at e; cases e; exact q _ _ rfl
  have old : ∀ {q : NAd}, q ∈ as → ∃ j k, as[j]? = some q ∧ st.keys[j]? = some k := fun {q} hq => by
    obtain ⟨j, hj, e⟩ := List.mem_iff_getElem.mp hq
    have hj' : j < st.keys.length := by rw [← h.len]; exact hj
    exact ⟨j, st.keys[j], by rw [List.getElem?_eq_getElem hj, e], by rw [List.getElem?_eq_getElem hj']⟩
  refine ⟨by rw [upd_ne (ne h'.x (by intro _ _ q; cases q))]; exact h'.x, by rw [upd_ne (ne h'.dx (by intro _ _ q; cases q))]; exact h'.dx, upd_self, by simp [h.len], fun j' p' k' a b' => ?_, ?_, ?_, ?_, ?_, ?_, ?_⟩
  · by_cases hj : j' < as.length
    · rw [List.getElem?_append_left hj] at a
      dsimp only at b'
      rw [List.getElem?_append_left (by rw [← h.len]; exact hj)] at b'
      have N := h'.nds j' p' k' a b'
      exact ⟨by rw [upd_ne (ne N.i (by intro _ _ q; cases q))]; exact N.i, by rw [upd_ne (ne N.d (by intro _ _ q; cases q))]; exact N.d, by rw [upd_ne (ne N.s (by intro _ _ q; cases q))]; exact N.s⟩
    · have hlt := (List.getElem?_eq_some_iff.mp a).1
      simp only [List.length_append, List.length_singleton] at hlt
      have : j' = as.length := by omega
      subst this
      simp only [List.getElem?_append_right (Nat.le_refl _), Nat.sub_self, List.getElem?_cons_zero, Option.some.injEq] at a
      dsimp only at b'
      rw [h.len, List.getElem?_append_right (Nat.le_refl _), Nat.sub_self, List.getElem?_cons_zero, Option.some.injEq] at b'
      subst a b'
      obtain ⟨d1, d2⟩ := h.dflt k hk
      dsimp only
      rw [d1, d2]
      exact ⟨by rw [upd_ne (ne hN.i (by intro _ _ q; cases q))]; exact hN.i, by rw [upd_ne (ne hN.d (by intro _ _ q; cases q))]; exact hN.d, by rw [upd_ne (ne hN.s (by intro _ _ q; cases q))]; exact hN.s⟩
  · have := h'.rdy
    dsimp only
    cases q : st.ready with
    | none => rw [q] at this; exact this
    | some l =>
      rw [q] at this
      obtain ⟨b, h2, h3⟩ := this
      exact ⟨b, h2, by rw [upd_ne (ne h3 (by intro _ _ q; cases q))]; exact h3⟩
  · rw [List.map_append]
    refine List.nodup_append.mpr ⟨h.ni, by simp, fun a ha b hb e => ?_⟩
    obtain ⟨q, hq, rfl⟩ := List.mem_map.mp ha
    simp only [List.map_cons, List.map_nil, List.mem_singleton] at hb
    obtain ⟨j, k0, h1, h2⟩ := old hq
    have := (h.nds j q k0 h1 h2).i
    rw [e, hb, hi] at this; cases this
  · rw [List.map_append]
    refine List.nodup_append.mpr ⟨h.nsu, by simp, fun a ha b hb e => ?_⟩
    obtain ⟨q, hq, rfl⟩ := List.mem_map.mp ha
    simp only [List.map_cons, List.map_nil, List.mem_singleton] at hb
    obtain ⟨j, k0, h1, h2⟩ := old hq
    have := (h.nds j q k0 h1 h2).s
    rw [e, hb, hs] at this; cases this
  · intro k' hk'
    rcases List.mem_append.mp hk' with hk' | hk'
    · exact h.key k' hk'
    · simp only [List.mem_singleton] at hk'; rw [hk']; exact hkey
  · refine List.nodup_append.mpr ⟨h.knd, by simp, fun a ha b hb e => hk ?_⟩
    simp only [List.mem_singleton] at hb
    rw [← hb, ← e]; exact ha
  · intro k' hk'
    exact h.dflt k' fun q => hk' (List.mem_append_left _ q)
end
end Mine.Internal

namespace Mine.Internal

section
variable {α : Type}

/-- from v a ring can be reached: some set holds v, and with each of its nodes one of that node's successors -/
noncomputable def Stay (su : α → List α) (v : α) : Prop := ∃ S : α → Prop, S v ∧ ∀ u, S u → ∃ w ∈ su u, S w
theorem Stay.step {su : α → List α} {v : α} (h : Stay su v) : ∃ w ∈ su v, Stay su w := by
  obtain ⟨S, h1, h2⟩ := h
  obtain ⟨w, hw, q⟩ := h2 v h1
  exact ⟨w, hw, S, q, h2⟩
theorem Stay.of_step {su : α → List α} {v w : α} (hw : w ∈ su v) (h : Stay su w) : Stay su v :=
  ⟨fun u => Stay su u ∨ u = v, .inr rfl, fun u hu => by
    rcases hu with hu | rfl
    · obtain ⟨w', h1, h2⟩ := hu.step
      exact ⟨w', h1, .inl h2⟩
    · exact ⟨w, hw, .inl h⟩⟩

/-- the first successor that stays -/
noncomputable def FirstStay (su : α → List α) (u w : α) : Prop := ∃ a b, su u = a ++ w :: b ∧ (∀ t ∈ a, ¬ Stay su t) ∧ Stay su w
theorem FirstStay.unique {su : α → List α} {u w w' : α} (h : FirstStay su u w) (h' : FirstStay su u w') : w = w' := by
  obtain ⟨a, b, e, n, s⟩ := h
  obtain ⟨a', b', e', n', s'⟩ := h'
  rw [e] at e'
  rcases List.append_eq_append_iff.mp e' with ⟨c, h1, h2⟩ | ⟨c, h1, h2⟩
  · cases c with
    | nil => simp at h2; exact h2.1
    | cons x c =>
      simp at h2
      exact absurd (h2.1 ▸ s) (n' x (by rw [h1]; simp))
  · cases c with
    | nil => simp at h2; exact h2.1.symm
    | cons x c =>
      simp at h2
      exact absurd (h2.1 ▸ s') (n x (by rw [h1]; simp))

/-- one step after the other by R -/
inductive Chain (R : α → α → Prop) : List α → Prop
  | one {v} : Chain R [v]
  | cons {u v l} : R u v → Chain R (v :: l) → Chain R (u :: v :: l)
theorem Chain.snoc {R : α → α → Prop} {a b : α} : ∀ {l : List α}, Chain R (l ++ [a]) → R a b → Chain R (l ++ [a] ++ [b])
  | [], _, h => .cons h .one
  | [u], .cons h1 _, h => .cons h1 (.cons h .one)
  | u :: v :: l, .cons h1 h2, h => .cons h1 (Chain.snoc (l := v :: l) h2 h)

/-- what _find_cycle answers -/
inductive RingRes (keys : List α) (su : α → List α) : Option (List α) → Prop
  | no : (∀ k ∈ keys, ¬ Stay su k) → RingRes keys su none
  | yes {pre post : List α} {v0 last w : α} {p q : List α} : keys = pre ++ v0 :: post → (∀ k ∈ pre, ¬ Stay su k) → (p ++ w :: q).Nodup → (p ++ w :: q).head? = some v0 → (p ++ w :: q).getLast? = some last →
      Chain (FirstStay su) (p ++ w :: q) → FirstStay su last w → RingRes keys su (some (w :: q ++ [w]))

/-- the way down, the deepest node first, each node with the number of its successors taken -/
inductive Lk (su : α → List α) (key : α) : List (α × Nat) → Prop
  | one {i} : Lk su key [(key, i)]
  | cons {u i p j rest} : (su p)[j]? = some u → (∀ t ∈ (su p).take j, ¬ Stay su t) → Lk su key ((p, j + 1) :: rest) → Lk su key ((u, i) :: (p, j + 1) :: rest)

structure Dfs (su : α → List α) (pre : List α) (key : α) (rp : List (α × Nat)) (seen : α → Bool) : Prop where
  fin : ∀ v, seen v = true → v ∉ rp.map (·.1) → ¬ Stay su v
  on : ∀ v ∈ rp.map (·.1), seen v = true
  pre : ∀ k ∈ pre, ¬ Stay su k
  nd : (rp.map (·.1)).Nodup
  lk : rp = [] ∨ Lk su key rp

/-- v is what the deepest node gave last -/
noncomputable def TopIs (su : α → List α) (key : α) (rp : List (α × Nat)) (v : α) : Prop := match rp with
  | [] => v = key
  | (u, n) :: _ => ∃ i, n = i + 1 ∧ (su u)[i]? = some v ∧ ∀ t ∈ (su u).take i, ¬ Stay su t
/-- all that the deepest node gave is done with -/
noncomputable def RestIs (su : α → List α) (rp : List (α × Nat)) : Prop := match rp with
  | [] => True
  | (u, n) :: _ => ∀ t ∈ (su u).take n, ¬ Stay su t

variable {su : α → List α} {pre : List α} {key : α} {rp : List (α × Nat)} {seen : α → Bool}

theorem Dfs.push [DecidableEq α] {v : α} (h : Dfs su pre key rp seen) (ht : TopIs su key rp v) (hv : seen v = false) : Dfs su pre key ((v, 0) :: rp) (fun x => seen x || decide (x = v)) ∧ RestIs su ((v, 0) :: rp) := by
  refine ⟨⟨fun y hy hn => ?_, fun y hy => ?_, h.pre, ?_, .inr ?_⟩, by simp [RestIs]⟩
  · simp only [List.map_cons, List.mem_cons, not_or] at hn
    simp only [hn.1, decide_false, Bool.or_false] at hy
    exact h.fin y hy hn.2
  · simp only [List.map_cons, List.mem_cons] at hy
    rcases hy with rfl | hy
    · simp
    · simp [h.on y hy]
  · rw [List.map_cons, List.nodup_cons]
    exact ⟨fun q => absurd (h.on v q) (by rw [hv]; exact Bool.false_ne_true), h.nd⟩
  · cases rp with
    | nil => have : v = key := ht; subst this; exact .one
    | cons p rest =>
      obtain ⟨u, n⟩ := p
      obtain ⟨i, rfl, h1, h2⟩ := ht
      exact .cons h1 h2 (h.lk.resolve_left (by simp))

theorem Dfs.skip {v : α} (h : Dfs su pre key rp seen) (ht : TopIs su key rp v) (hv : seen v = true) (hn : v ∉ rp.map (·.1)) : RestIs su rp := by
  cases rp with
  | nil => trivial
  | cons p rest =>
    obtain ⟨u, n⟩ := p
    obtain ⟨i, rfl, h1, h2⟩ := ht
    intro t hm
    rw [List.take_add_one, h1] at hm
    simp only [Option.toList_some, List.mem_append, List.mem_singleton] at hm
    rcases hm with hm | rfl
    · exact h2 t hm
    · exact h.fin t hv hn

theorem Dfs.item {u v : α} {i : Nat} {rest : List (α × Nat)} (h : Dfs su pre key ((u, i) :: rest) seen) (hr : RestIs su ((u, i) :: rest)) (hv : (su u)[i]? = some v) : Dfs su pre key ((u, i + 1) :: rest) seen ∧ TopIs su key ((u, i + 1) :: rest) v := by
  refine ⟨⟨h.fin, h.on, h.pre, h.nd, .inr ?_⟩, ⟨i, rfl, hv, hr⟩⟩
  cases h.lk.resolve_left (by simp) with
  | one => exact .one
  | cons h1 h2 h3 => exact .cons h1 h2 h3

theorem Dfs.pop {u : α} {i : Nat} {rest : List (α × Nat)} (h : Dfs su pre key ((u, i) :: rest) seen) (hr : RestIs su ((u, i) :: rest)) (hi : (su u).length ≤ i) : Dfs su pre key rest seen ∧ RestIs su rest ∧ (rest = [] → u = key ∧ ¬ Stay su key) := by
  have hu : ¬ Stay su u := fun q => by
    obtain ⟨w, hw, s⟩ := q.step
    have := hr w
    rw [List.take_of_length_le hi] at this
    exact this hw s
  have hnd := h.nd
  rw [List.map_cons, List.nodup_cons] at hnd
  have hlk := h.lk.resolve_left (by simp)
  refine ⟨⟨fun y hy hn => ?_, fun y hy => h.on y (by simp only [List.map_cons, List.mem_cons]; exact .inr hy), h.pre, hnd.2, ?_⟩, ?_, fun e => ?_⟩
  · by_cases q : y ∈ ((u, i) :: rest).map (·.1)
    · simp only [List.map_cons, List.mem_cons] at q
      rcases q with rfl | q
      · exact hu
      · exact absurd q hn
    · exact h.fin y hy q
  · cases hlk with
    | one => exact .inl rfl
    | cons _ _ h3 => exact .inr h3
  · cases hlk with
    | one => trivial
    | cons h1 h2 h3 =>
      intro t hm
      rw [List.take_add_one, h1] at hm
      simp only [Option.toList_some, List.mem_append, List.mem_singleton] at hm
      rcases hm with hm | rfl
      · exact h2 t hm
      · exact hu
  · subst e
    cases hlk with
    | one => exact ⟨rfl, hu⟩

theorem Lk.stay {S : α → Prop} (h : Lk su key rp) : ∀ p ∈ rp, p.1 ≠ (rp.head?.map (·.1)).getD p.1 → ∃ w ∈ su p.1, w ∈ rp.map (·.1) := by
  induction h with
  | one => intro p hp; simp at hp; subst hp; simp
  | @cons u i p j rest h1 h2 h3 ih =>
    intro q hq hne
    simp only [List.mem_cons] at hq
    rcases hq with rfl | rfl | hq
    · simp at hne
    · exact ⟨u, List.mem_of_getElem? h1, by simp⟩
    · by_cases e : q.1 = p
      · exact ⟨u, by rw [e]; exact List.mem_of_getElem? h1, by simp⟩
      · obtain ⟨w, hw, hm⟩ := ih q (List.mem_cons_of_mem _ hq) (by simpa using e)
        exact ⟨w, hw, by simp only [List.map_cons, List.mem_cons] at hm ⊢; exact .inr hm⟩

theorem Lk.chain (h : Lk su key rp) (hs : ∀ v ∈ rp.map (·.1), Stay su v) : Chain (FirstStay su) (rp.map (·.1)).reverse ∧ (rp.map (·.1)).reverse.head? = some key := by
  induction h with
  | one => exact ⟨.one, rfl⟩
  | @cons u i p j rest h1 h2 h3 ih =>
    obtain ⟨c, e⟩ := ih fun v hv => hs v (by simp only [List.map_cons, List.mem_cons] at hv ⊢; exact .inr hv)
    simp only [List.map_cons, List.reverse_cons] at c e ⊢
    refine ⟨c.snoc ⟨(su p).take j, (su p).drop (j + 1), ?_, h2, hs u (by simp)⟩, ?_⟩
    · obtain ⟨hj, e⟩ := List.getElem?_eq_some_iff.mp h1
      rw [← e, List.getElem_cons_drop, List.take_append_drop]
    · rw [List.head?_append, e]; rfl

/-- the node met is on the way: the ring -/
theorem Dfs.ring {v : α} {keys post : List α} {p q : List α} (h : Dfs su pre key rp seen) (ht : TopIs su key rp v) (hv : v ∈ rp.map (·.1)) (hk : keys = pre ++ key :: post) (e : (rp.map (·.1)).reverse = p ++ v :: q) : RingRes keys su (some (v :: q ++ [v])) := by
  cases rp with
  | nil => simp at hv
  | cons top rest =>
    obtain ⟨u, n⟩ := top
    obtain ⟨i, rfl, h1, h2⟩ := ht
    have hlk := h.lk.resolve_left (by simp)
    have hs : ∀ y ∈ ((u, i + 1) :: rest).map (·.1), Stay su y := fun y hy => by
      refine ⟨fun z => z ∈ ((u, i + 1) :: rest).map (·.1), hy, fun z hz => ?_⟩
      by_cases ez : z = u
      · subst ez; exact ⟨v, List.mem_of_getElem? h1, hv⟩
      · obtain ⟨r, hr, rfl⟩ := List.mem_map.mp hz
        exact hlk.stay (S := fun _ => True) r hr (by simpa using ez)
    obtain ⟨c, hh⟩ := hlk.chain hs
    have hnd : (((u, i + 1) :: rest).map (·.1)).reverse.Nodup := (List.reverse_perm _).nodup_iff.mpr h.nd
    rw [e] at c hh hnd
    refine .yes hk h.pre hnd hh (last := u) ?_ c ⟨(su u).take i, (su u).drop (i + 1), ?_, h2, hs v hv⟩
    · rw [← e]; simp
    · obtain ⟨hj, e⟩ := List.getElem?_eq_some_iff.mp h1
      rw [← e, List.getElem_cons_drop, List.take_append_drop]
end
end Mine.Internal

namespace Mine.Internal

section
variable {α : Type}

/-! which ring is met -/
theorem no_ring {su : α → List α} {keys : List α} {rank : α → Nat} {M : Nat} (h : ∀ p, ∀ w ∈ su p, rank p < rank w ∧ rank w ≤ M) : ∀ res, RingRes keys su res → res = none := by
  have ns : ∀ n v, M - rank v ≤ n → ¬ Stay su v := by
    intro n
    induction n with
    | zero =>
      intro v hv hs
      obtain ⟨w, hw, _⟩ := hs.step
      have := h v w hw; omega
    | succ n ih =>
      intro v hv hs
      obtain ⟨w, hw, hs'⟩ := hs.step
      have := h v w hw
      exact ih w (by omega) hs'
  intro res hr
  cases hr with
  | no _ => rfl
  | yes _ _ _ _ _ _ hf =>
    obtain ⟨_, _, _, _, s⟩ := hf
    exact absurd s (ns _ _ (Nat.le_refl _))

theorem chain_next {R : α → α → Prop} {l : List α} {i : Nat} {a b : α} (h : Chain R l) : l[i]? = some a → l[i + 1]? = some b → R a b := by
  induction h generalizing i with
  | one => intro ha hb; cases hb
  | cons h1 _ ih =>
    intro ha hb
    cases i with
    | zero => cases ha; cases hb; exact h1
    | succ i => exact ih ha hb

end
end Mine.Internal

namespace Mine.Internal

section
variable {α : Type}

/-- two ways by the same step from the same node agree as far as both go -/
theorem chain_agree {R : α → α → Prop} (hR : ∀ a b b', R a b → R a b' → b = b') {l l' : List α} (h : Chain R l) (h' : Chain R l') (e : l.head? = l'.head?) : ∀ i, i < l.length → i < l'.length → l[i]? = l'[i]?
  | 0, h1, h2 => by rw [← List.head?_eq_getElem?, ← List.head?_eq_getElem?, e]
  | i + 1, h1, h2 => by
    have ih := chain_agree hR h h' e i (by omega) (by omega)
    have a1 : l[i]? = some l[i] := List.getElem?_eq_getElem (by omega)
    have b1 : l[i + 1]? = some l[i + 1] := List.getElem?_eq_getElem h1
    have b2 : l'[i + 1]? = some l'[i + 1] := List.getElem?_eq_getElem h2
    rw [b1, b2, hR _ _ _ (chain_next h a1 b1) (chain_next h' (ih ▸ a1) b2)]

theorem nodup_split : ∀ {p p' q q' : List α} {w : α}, (p ++ w :: q).Nodup → p ++ w :: q = p' ++ w :: q' → p = p' ∧ q = q'
  | [], [], q, q', w, h, e => by simp at e; exact ⟨rfl, e⟩
  | [], x :: p', q, q', w, h, e => by
    simp at e
    rw [e.2] at h
    simp at h
  | x :: p, [], q, q', w, h, e => by
    simp at e
    obtain ⟨rfl, e⟩ := e
    simp at h
  | x :: p, y :: p', q, q', w, h, e => by
    simp only [List.cons_append, List.cons.injEq] at e
    obtain ⟨rfl, e⟩ := e
    have := nodup_split (List.nodup_cons.mp h).2 e
    exact ⟨by rw [this.1], this.2⟩

theorem first_split {P : α → Prop} {pre post pre' post' : List α} {v v' : α} (e : pre ++ v :: post = pre' ++ v' :: post') (h : ∀ k ∈ pre, ¬ P k) (hv : P v) (h' : ∀ k ∈ pre', ¬ P k) (hv' : P v') : v = v' := by
  rcases List.append_eq_append_iff.mp e with ⟨c, h1, h2⟩ | ⟨c, h1, h2⟩
  · cases c with
    | nil => simp at h2; exact h2.1
    | cons x c => simp at h2; exact absurd (h2.1 ▸ hv) (h' x (by rw [h1]; simp))
  · cases c with
    | nil => simp at h2; exact h2.1.symm
    | cons x c => simp at h2; exact absurd (h2.1 ▸ hv') (h x (by rw [h1]; simp))

theorem stay_head {su : α → List α} {l : List α} {v0 last w : α} (h : Chain (FirstStay su) l) (hh : l.head? = some v0) (hl : l.getLast? = some last) (hc : FirstStay su last w) (hw : w ∈ l) : Stay su v0 := by
  cases h with
  | one =>
    simp at hh hl
    subst hh; subst hl
    obtain ⟨a, b, e, _, s⟩ := hc
    exact s.of_step (by rw [e]; simp)
  | cons h1 _ =>
    simp at hh
    subst hh
    obtain ⟨a, b, e, _, s⟩ := h1
    exact s.of_step (by rw [e]; simp)

theorem RingRes.unique {keys : List α} {su : α → List α} {r r' : Option (List α)} (h : RingRes keys su r) (h' : RingRes keys su r') : r = r' := by
  cases h with
  | no h =>
    cases h' with
    | no _ => rfl
    | @yes pre post v0 last w p q hk hp hn hh hl hc hf => exact absurd (stay_head hc hh hl hf (by simp)) (h v0 (by rw [hk]; simp))
  | @yes pre post v0 last w p q hk hp hn hh hl hc hf =>
    have s0 := stay_head hc hh hl hf (by simp)
    cases h' with
    | no h => exact absurd s0 (h v0 (by rw [hk]; simp))
    | @yes pre' post' v0' last' w' p' q' hk' hp' hn' hh' hl' hc' hf' =>
      have s0' := stay_head hc' hh' hl' hf' (by simp)
      have hv : v0 = v0' := first_split (P := Stay su) (hk.symm.trans hk') hp s0 hp' s0'
      subst hv
      have hR : ∀ a b b', FirstStay su a b → FirstStay su a b' → b = b' := fun _ _ _ a b => a.unique b
      have ag := chain_agree hR hc hc' (hh.trans hh'.symm)
      have key : ∀ {l l' : List α} {last w : α}, l.getLast? = some last → FirstStay su last w → w ∈ l → Chain (FirstStay su) l' → l'.Nodup → (∀ i, i < l.length → i < l'.length → l[i]? = l'[i]?) → ¬ l.length < l'.length := fun {l l' last w} h1 h2 h3 h4 h5 h6 h7 => by
        rw [List.getLast?_eq_getElem?] at h1
        have hl0 : l ≠ [] := fun e => by rw [e] at h3; exact List.not_mem_nil h3
        have hp : 0 < l.length := List.length_pos_iff.mpr hl0
        have e1 := h6 (l.length - 1) (by omega) (by omega)
        rw [h1] at e1
        have e2 : l'[l.length - 1 + 1]? = some l'[l.length] := by rw [show l.length - 1 + 1 = l.length by omega]; exact List.getElem?_eq_getElem h7
        have e3 := h2.unique (chain_next h4 e1.symm e2)
        obtain ⟨i, hi, ei⟩ := List.mem_iff_getElem.mp h3
        have e4 := h6 i hi (by omega)
        rw [List.getElem?_eq_getElem hi, List.getElem?_eq_getElem (by omega), ei, e3] at e4
        have := (List.getElem_inj h5).mp (Option.some.inj e4)
        omega
      have l1 := key hl hf (by simp) hc' hn' ag
      have l2 := key hl' hf' (by simp) hc hn (fun i a b => (ag i b a).symm)
      have hl3 : (p ++ w :: q).length = (p' ++ w' :: q').length := by omega
      have he : p ++ w :: q = p' ++ w' :: q' := List.ext_getElem? fun i => by
        by_cases z : i < (p ++ w :: q).length
        · exact ag i z (by omega)
        · rw [List.getElem?_eq_none (by omega), List.getElem?_eq_none (by omega)]
      rw [he, hl'] at hl
      cases hl
      have hw := hf.unique hf'
      subst hw
      obtain ⟨_, e2⟩ := nodup_split hn he
      rw [e2]

/-- successors may be counted once -/
theorem Stay.of_mem {su af : α → List α} (h : ∀ v w, w ∈ su v → w ∈ af v) {v : α} (s : Stay su v) : Stay af v := by
  obtain ⟨S, h1, h2⟩ := s
  exact ⟨S, h1, fun u hu => let ⟨w, a, b⟩ := h2 u hu; ⟨w, h _ _ a, b⟩⟩

/-- the pruning: what is left when nothing more goes -/
theorem prune_stay {af : α → List α} {st : List α} (h : ∀ v ∈ st, ∃ w ∈ af v, w ∈ st) : ∀ v ∈ st, Stay af v := fun v hv => ⟨(· ∈ st), hv, h⟩
theorem prune_keep {af : α → List α} {os st : List α} {g : α → Bool} (hin : ∀ v ∈ os, ∀ w ∈ af v, w ∈ os) (hst : ∀ v ∈ os, Stay af v → v ∈ st) (hg : ∀ v ∈ st, (∃ w ∈ af v, w ∈ st) → g v = true) : ∀ v ∈ os, Stay af v → v ∈ st.filter g := fun v hv s => by
  obtain ⟨w, hw, sw⟩ := s.step
  exact List.mem_filter.mpr ⟨hst v hv s, hg v (hst v hv s) ⟨w, hw, hst w (hin v hv w hw) sw⟩⟩
theorem filter_len {g : α → Bool} {st : List α} (h : (st.filter g).length = st.length) : ∀ v ∈ st, g v = true := List.filter_eq_self.mp (List.filter_sublist.eq_of_length h)
end
end Mine.Internal

namespace Mine.Internal
open PySem

noncomputable def idxsFrom : Nat → List AV → List (AV × AV)
  | _, [] => []
  | n, v :: l => (v, .int n) :: idxsFrom (n + 1) l
noncomputable def idxs (l : List AV) : List (AV × AV) := idxsFrom 0 l
theorem idxsFrom_keys : ∀ {n : Nat} {l : List AV}, (idxsFrom n l).map (·.1) = l
  | _, [] => rfl
  | n, v :: l => by simp [idxsFrom, idxsFrom_keys (l := l)]
theorem idxsFrom_append : ∀ {n : Nat} {l m : List AV}, idxsFrom n (l ++ m) = idxsFrom n l ++ idxsFrom (n + l.length) m
  | n, [], m => by simp [idxsFrom]
  | n, v :: l, m => by
    simp only [List.cons_append, idxsFrom, idxsFrom_append (l := l), List.length_cons]
    rw [show n + 1 + l.length = n + (l.length + 1) by omega]
theorem idxsFrom_len : ∀ {n : Nat} {l : List AV}, (idxsFrom n l).length = l.length
  | _, [] => rfl
  | n, v :: l => by simp [idxsFrom, idxsFrom_len (l := l)]
theorem dget_none {kvs : List (AV × AV)} {v : AV} (h : v ∉ kvs.map (·.1)) : dget kvs v = none := by
  unfold dget
  rw [Option.map_eq_none_iff, List.find?_eq_none]
  intro p hp
  simp only [decide_eq_true_eq]
  exact fun e => h (e ▸ List.mem_map_of_mem hp)
theorem dget_idxs {l p q : List AV} {v : AV} (e : l = p ++ v :: q) (h : v ∉ p) : dget (idxs l) v = some (.int p.length) := by
  subst e
  unfold idxs
  rw [idxsFrom_append]
  have h1 : (idxsFrom 0 p).find? (fun x => decide (x.1 = v)) = none := by
    rw [List.find?_eq_none]
    intro x hx
    simp only [decide_eq_true_eq]
    have : x.1 ∈ p := by rw [← idxsFrom_keys (n := 0) (l := p)]; exact List.mem_map_of_mem hx
    exact fun z => h (z ▸ this)
  unfold dget
  rw [List.find?_append, h1]
  simp [idxsFrom]
theorem dget_idxs_none {l : List AV} {v : AV} (h : v ∉ l) : dget (idxs l) v = none := dget_none (by unfold idxs; rw [idxsFrom_keys]; exact h)
theorem dset_idxs {l : List AV} {v : AV} (h : v ∉ l) : dset (idxs l) v (.int l.length) = idxs (l ++ [v]) := by
  have : (idxs l).any (fun p => p.1 = v) = false := by
    rw [List.any_eq_false]
    intro p hp
    simp only [decide_eq_true_eq]
    have : p.1 ∈ l := by rw [← idxsFrom_keys (n := 0) (l := l)]; exact List.mem_map_of_mem hp
    exact fun e => h (e ▸ this)
  unfold dset
  rw [this]
  unfold idxs
  rw [idxsFrom_append]
  simp [idxsFrom]
theorem ddel_idxs {l : List AV} {v : AV} (h : v ∉ l) : ddel (idxs (l ++ [v])) v = idxs l := by
  unfold ddel idxs
  rw [idxsFrom_append, List.filter_append]
  have : (idxsFrom 0 l).filter (fun p => decide (p.1 ≠ v)) = idxsFrom 0 l := by
    rw [List.filter_eq_self]
    intro p hp
    have : p.1 ∈ l := by rw [← idxsFrom_keys (n := 0) (l := l)]; exact List.mem_map_of_mem hp
    simp only [decide_eq_true_eq]
    exact fun e => h (e ▸ this)
  rw [this]
  simp [idxsFrom]

structure Ent where
  v : AV
  n : Nat
  m : Addr
  it : Addr
  s : Addr

structure DAt (σ : Addr → Option (Nat × Cell)) (su : AV → List AV) (K I D N : Addr) (es : List Ent) (seen : AV → Bool) (cnt ep : Nat) : Prop where
  hK : σ K = some (3, .list (es.map (·.v)).reverse)
  hI : σ I = some (3, .list (es.map fun e => AV.ref e.m).reverse)
  hD : σ D = some (3, .dict (idxs (es.map (·.v)).reverse) ep)
  hN : σ N = some (3, .set seen cnt)
  hm : ∀ e ∈ es, σ e.m = some (3, wrapCell e.it)
  hit : ∀ e ∈ es, σ e.it = some (4, iterCell "list_iterator" e.s e.n)
  hs : ∀ e ∈ es, σ e.s = some (2, .list (su e.v))
  nd : (es.map (·.it)).Nodup
  KI : K ≠ I

section
variable {σ σ' : Addr → Option (Nat × Cell)} {su : AV → List AV} {K I D N : Addr} {es : List Ent} {seen : AV → Bool} {cnt ep : Nat}
theorem DAt.ext {C : List Nat} (h : DAt σ su K I D N es seen cnt ep) (e : Ext C σ σ') (h2 : 2 ∉ C) (h3 : 3 ∉ C) (h4 : 4 ∉ C) : DAt σ' su K I D N es seen cnt ep :=
  ⟨e _ _ _ h.hK h3, e _ _ _ h.hI h3, e _ _ _ h.hD h3, e _ _ _ h.hN h3, fun x hx => e _ _ _ (h.hm x hx) h3, fun x hx => e _ _ _ (h.hit x hx) h4, fun x hx => e _ _ _ (h.hs x hx) h2, h.nd, h.KI⟩

/-- the deepest node's iterator gave one more -/
theorem DAt.item {e : Ent} (h : DAt σ su K I D N (e :: es) seen cnt ep) : DAt (upd σ e.it (some (4, iterCell "list_iterator" e.s (e.n + 1)))) su K I D N ({ e with n := e.n + 1 } :: es) seen cnt ep := by
  have h0 := h.hit e (List.mem_cons_self ..)
  have ne : ∀ {y c' cl}, σ y = some (c', cl) → c' ≠ 4 → y ≠ e.it := fun q1 q2 z => by rw [z, h0] at q1; cases q1; exact q2 rfl
  have nd := h.nd
  rw [List.map_cons, List.nodup_cons] at nd
  refine ⟨by rw [upd_ne (ne h.hK (by decide))]; exact h.hK, by rw [upd_ne (ne h.hI (by decide))]; exact h.hI, by rw [upd_ne (ne h.hD (by decide))]; exact h.hD, by rw [upd_ne (ne h.hN (by decide))]; exact h.hN, fun x hx => ?_, fun x hx => ?_, fun x hx => ?_, h.nd, h.KI⟩
  · rcases List.mem_cons.mp hx with rfl | hx
    · have := h.hm e (List.mem_cons_self ..); dsimp only; rw [upd_ne (ne this (by decide))]; exact this
    · have := h.hm x (List.mem_cons_of_mem _ hx); rw [upd_ne (ne this (by decide))]; exact this
  · rcases List.mem_cons.mp hx with rfl | hx
    · exact upd_self
    · rw [upd_ne (fun z => nd.1 (by rw [← z]; exact List.mem_map_of_mem hx))]; exact h.hit x (List.mem_cons_of_mem _ hx)
  · rcases List.mem_cons.mp hx with rfl | hx
    · have := h.hs e (List.mem_cons_self ..); dsimp only; rw [upd_ne (ne this (by decide))]; exact this
    · have := h.hs x (List.mem_cons_of_mem _ hx); rw [upd_ne (ne this (by decide))]; exact this

/-- a node laid on the stack -/
theorem DAt.push {e : Ent} {ep' : Nat} {seen' : AV → Bool} {cnt' : Nat} (h : DAt σ su K I D N es seen cnt ep) (X : ∀ y p, y ≠ K → y ≠ I → y ≠ D → y ≠ N → σ y = some p → σ' y = some p)
    (hK : σ' K = some (3, .list ((es.map (·.v)).reverse ++ [e.v]))) (hI : σ' I = some (3, .list ((es.map fun e => AV.ref e.m).reverse ++ [.ref e.m]))) (hD : σ' D = some (3, .dict (idxs ((es.map (·.v)).reverse ++ [e.v])) ep')) (hN : σ' N = some (3, .set seen' cnt'))
    (hm : σ' e.m = some (3, wrapCell e.it)) (hit : σ' e.it = some (4, iterCell "list_iterator" e.s e.n)) (hs : σ' e.s = some (2, .list (su e.v))) (hn : σ e.it = none) : DAt σ' su K I D N (e :: es) seen' cnt' ep' := by
  have ne : ∀ {y c' P}, σ y = some (c', Cell.raw P) → y ≠ K ∧ y ≠ I ∧ y ≠ D ∧ y ≠ N := fun q => ⟨fun z => (by rw [z, h.hK] at q; cases q), fun z => (by rw [z, h.hI] at q; cases q), fun z => (by rw [z, h.hD] at q; cases q), fun z => (by rw [z, h.hN] at q; cases q)⟩
  have ne2 : ∀ {y cl}, σ y = some (2, cl) → y ≠ K ∧ y ≠ I ∧ y ≠ D ∧ y ≠ N := fun q => ⟨fun z => (by rw [z, h.hK] at q; cases q), fun z => (by rw [z, h.hI] at q; cases q), fun z => (by rw [z, h.hD] at q; cases q), fun z => (by rw [z, h.hN] at q; cases q)⟩
  refine ⟨by rw [hK]; simp, by rw [hI]; simp, by rw [hD]; simp, hN, fun x hx => ?_, fun x hx => ?_, fun x hx => ?_, ?_, h.KI⟩
  · rcases List.mem_cons.mp hx with rfl | hx
    · exact hm
    · have := h.hm x hx; obtain ⟨a, b, c, d⟩ := ne this; exact X _ _ a b c d this
  · rcases List.mem_cons.mp hx with rfl | hx
    · exact hit
    · have := h.hit x hx; obtain ⟨a, b, c, d⟩ := ne this; exact X _ _ a b c d this
  · rcases List.mem_cons.mp hx with rfl | hx
    · exact hs
    · have := h.hs x hx; obtain ⟨a, b, c, d⟩ := ne2 this; exact X _ _ a b c d this
  · rw [List.map_cons, List.nodup_cons]
    refine ⟨fun q => ?_, h.nd⟩
    obtain ⟨x, hx, e'⟩ := List.mem_map.mp q
    have := h.hit x hx
    rw [e', hn] at this; cases this

/-- the deepest node taken off -/
theorem DAt.pop {e : Ent} {ep' : Nat} (h : DAt σ su K I D N (e :: es) seen cnt ep) (X : ∀ y p, p.1 ≠ 8 → y ≠ K → y ≠ I → y ≠ D → y ≠ e.it → σ y = some p → σ' y = some p)
    (hK : σ' K = some (3, .list (es.map (·.v)).reverse)) (hI : σ' I = some (3, .list (es.map fun e => AV.ref e.m).reverse)) (hD : σ' D = some (3, .dict (idxs (es.map (·.v)).reverse) ep')) : DAt σ' su K I D N es seen cnt ep' := by
  have h0 := h.hit e (List.mem_cons_self ..)
  have nd := h.nd
  rw [List.map_cons, List.nodup_cons] at nd
  have ne : ∀ {y c' P}, σ y = some (c', Cell.raw P) → y ≠ K ∧ y ≠ I ∧ y ≠ D := fun q => ⟨fun z => (by rw [z, h.hK] at q; cases q), fun z => (by rw [z, h.hI] at q; cases q), fun z => (by rw [z, h.hD] at q; cases q)⟩
  have ne2 : ∀ {y cl}, σ y = some (2, cl) → y ≠ K ∧ y ≠ I ∧ y ≠ D := fun q => ⟨fun z => (by rw [z, h.hK] at q; cases q), fun z => (by rw [z, h.hI] at q; cases q), fun z => (by rw [z, h.hD] at q; cases q)⟩
  have n4 : ∀ {y c' cl}, σ y = some (c', cl) → c' ≠ 4 → y ≠ e.it := fun q1 q2 z => by rw [z, h0] at q1; cases q1; exact q2 rfl
  refine ⟨hK, hI, hD, ?_, fun x hx => ?_, fun x hx => ?_, fun x hx => ?_, nd.2, h.KI⟩
  · have := h.hN
    exact X _ _ (by simp) (fun z => by rw [z, h.hK] at this; cases this) (fun z => by rw [z, h.hI] at this; cases this) (fun z => by rw [z, h.hD] at this; cases this) (n4 this (by decide)) this
  · have := h.hm x (List.mem_cons_of_mem _ hx); obtain ⟨a, b, c⟩ := ne this; exact X _ _ (by simp) a b c (n4 this (by decide)) this
  · have := h.hit x (List.mem_cons_of_mem _ hx); obtain ⟨a, b, c⟩ := ne this; exact X _ _ (by simp) a b c (fun z => nd.1 (by rw [← z]; exact List.mem_map_of_mem hx)) this
  · have := h.hs x (List.mem_cons_of_mem _ hx); obtain ⟨a, b, c⟩ := ne2 this; exact X _ _ (by simp) a b c (n4 this (by decide)) this
end
end Mine.Internal

namespace Mine.Internal
open PySem

theorem filter_mark {keys : List AV} {v : AV} {seen : AV → Bool} (f : AV → Nat) (hd : keys.Nodup) (hv : v ∈ keys) (hs : seen v = false) :
    ((keys.filter fun k => !seen k).map f).sum = f v + ((keys.filter fun k => !(seen k || decide (k = v))).map f).sum ∧ (keys.filter fun k => seen k || decide (k = v)).length = (keys.filter seen).length + 1 := by
  induction keys with
  | nil => cases hv
  | cons k keys ih =>
    rw [List.nodup_cons] at hd
    by_cases e : k = v
    · subst e
      have h1 : ∀ y ∈ keys, (!(seen y || decide (y = k))) = !seen y := fun y hy => by
        have : y ≠ k := fun z => hd.1 (z ▸ hy)
        simp [this]
      have h2 : ∀ y ∈ keys, (seen y || decide (y = k)) = seen y := fun y hy => by
        have : y ≠ k := fun z => hd.1 (z ▸ hy)
        simp [this]
      rw [List.filter_cons, List.filter_cons, List.filter_cons, List.filter_cons, List.filter_congr h1, List.filter_congr h2]
      simp [hs]
    · have hv' : v ∈ keys := (List.mem_cons.mp hv).resolve_left (Ne.symm e)
      obtain ⟨i1, i2⟩ := ih hd.2 hv'
      rw [List.filter_cons, List.filter_cons, List.filter_cons, List.filter_cons]
      simp only [e, decide_false, Bool.or_false]
      cases q : seen k
      · simp only [Bool.not_false, if_true, Bool.false_eq_true, if_false, List.map_cons, List.sum_cons, i1, i2]
        exact ⟨by omega, trivial⟩
      · simp only [Bool.not_true, if_true, Bool.false_eq_true, if_false, List.length_cons, i1, i2]
        exact ⟨trivial, trivial⟩

theorem nodup_len {α : Type} [DecidableEq α] : ∀ {l m : List α}, l.Nodup → (∀ x ∈ l, x ∈ m) → l.length ≤ m.length
  | [], _, _, _ => Nat.zero_le _
  | a :: l, m, hd, h => by
    rw [List.nodup_cons] at hd
    have ha := h a (List.mem_cons_self ..)
    have := nodup_len (l := l) (m := m.erase a) hd.2 fun x hx => (List.mem_erase_of_ne (fun (z : x = a) => hd.1 (z ▸ hx))).mpr (h x (List.mem_cons_of_mem _ hx))
    have hl := List.length_erase_of_mem ha
    have hp := List.length_pos_of_mem ha
    rw [List.length_cons]; omega

structure FC (σ : Addr → Option (Nat × Cell)) (x : Addr) (st : SS) (dx nd : Addr) (rv : AV) (as : List NAd) (ep : Nat) (K I D N : Addr) (pre : List AV) (key : AV) (es : List Ent) (seen : AV → Bool) (cnt ep' : Nat) : Prop where
  S : SAt σ x st dx nd rv as ep
  D : DAt σ st.su K I D N es seen cnt ep'
  dfs : Dfs st.su pre key (es.map fun e => (e.v, e.n)) seen
  cnt : cnt = (st.keys.filter seen).length
  sk : ∀ v, seen v = true → v ∈ st.keys

noncomputable def meas (st : SS) (es : List Ent) (seen : AV → Bool) : Nat := (es.map fun e => (st.su e.v).length - e.n).sum + ((st.keys.filter fun k => !seen k).map fun k => (st.su k).length + 1).sum

section
variable {σ σ' : Addr → Option (Nat × Cell)} {x dx nd : Addr} {rv : AV} {as : List NAd} {ep : Nat} {st : SS} {K I D N : Addr} {pre : List AV} {key : AV} {es : List Ent} {seen : AV → Bool} {cnt ep' : Nat}
theorem FC.ext {C : List Nat} (h : FC σ x st dx nd rv as ep K I D N pre key es seen cnt ep') (e : Ext C σ σ') (h1 : 1 ∉ C) (h2 : 2 ∉ C) (h3 : 3 ∉ C) (h4 : 4 ∉ C) : FC σ' x st dx nd rv as ep K I D N pre key es seen cnt ep' :=
  ⟨h.S.ext e h1 h2, h.D.ext e h2 h3 h4, h.dfs, h.cnt, h.sk⟩
theorem FC.lt (h : FC σ x st dx nd rv as ep K I D N pre key es seen cnt ep') (hz : st.keys.length < 4000) : cnt < 4000 := by
  rw [h.cnt]; exact Nat.lt_of_le_of_lt (List.length_filter_le ..) hz
theorem FC.len (h : FC σ x st dx nd rv as ep K I D N pre key es seen cnt ep') : es.length ≤ st.keys.length := by
  have h1 : (es.map (·.v)).Nodup := by have := h.dfs.nd; rw [List.map_map] at this; exact this
  have h2 : ∀ v ∈ es.map (·.v), v ∈ st.keys := fun v hv => h.sk v (h.dfs.on v (by rw [List.map_map]; exact hv))
  have : (es.map (·.v)).length ≤ st.keys.length := nodup_len h1 h2
  simpa using this
end
end Mine.Internal

namespace Mine.Internal
open PySem PySem.W PyProof.Rows PySem.Calls

theorem Exc.looks {c : Cx} {a : AS} {e t : Addr} {cls : Value} {args : List AV} {tb : Option Addr} (h : Exc a.σ e t cls args tb) {s : Shared} (hs : St c a s) : Looks (model c.prog c.w) s.heap (typeOf (.ref e)) cls := by
  obtain ⟨o, vs, ho, hc, _⟩ := exc_get hs h
  subst hc
  exact (Looks.ld ho).andThen .now
theorem Exc.m {c : Cx} {a : AS} {e t : Addr} {cls cv : Value} {args : List AV} {tb : Option Addr} {b : Bool} (h : Exc a.σ e t cls args tb) (hx : exmOne c.K cls cv = some b) : ExcM c a (.ref e) cv b := fun s hs =>
  exm_one (c.inK.keeps hs.keep) (h.looks hs) hx

section
variable {st : SS} {es : List Ent} {seen : AV → Bool} {e : Ent}
theorem meas_item (h : e.n < (st.su e.v).length) : meas st ({ e with n := e.n + 1 } :: es) seen < meas st (e :: es) seen := by
  unfold meas; simp only [List.map_cons, List.sum_cons]; omega
theorem meas_pop : meas st es seen ≤ meas st (e :: es) seen := by
  unfold meas; simp only [List.map_cons, List.sum_cons]; omega
theorem meas_push (hd : st.keys.Nodup) (hv : e.v ∈ st.keys) (hs : seen e.v = false) (hn : e.n = 0) : meas st (e :: es) (fun x => seen x || decide (x = e.v)) < meas st es seen := by
  unfold meas
  rw [(filter_mark (fun k => (st.su k).length + 1) hd hv hs).1]
  simp only [List.map_cons, List.sum_cons, hn]; omega
end
end Mine.Internal

open PySem PySem.W PyProof.Rows
set_option maxRecDepth 100000
namespace Mine.Internal
abbrev ROW := PySem.Challenge.rw_du0008_02
noncomputable def stN : Stmt := .Pass ⟨0, 0, 0, 0⟩
noncomputable def topS (i : Nat) : Stmt := PySem.Challenge.pw_du0008_02.main.body.getD i stN
noncomputable def inS (i j : Nat) : Stmt := match topS i with
  | .ClassDef _ _ _ b _ _ _ _ _ _ _ => b.getD j stN
  | s => s
noncomputable def sv (x : String) (t : Nat) : Value := .str (Str.ofString x) t
noncomputable def tuO (l : List Value) : Obj := { cls := .type "tuple", data := .seq l.toArray }
noncomputable def fiO (c : String) (l : List Value) : Obj := { cls := .type c, data := .fields l.toArray }
noncomputable def diO (P : Params) (l : List (String × Nat × Value)) (n : Nat) : Obj :=
  { cls := .type "dict", data := .dict (l.map fun e => { hash := PyData.keyHash P (Str.ofString e.1), key := sv e.1 e.2.1, val := e.2.2 }).toArray n }
noncomputable def coO (x q : String) (t line args fl r1 k r2 : Nat) (v1 v2 : Value) (r3 t2 t3 : Nat) : Obj := fiO "code"
  [sv x t, sv q (t + 1), sv "/claim/cut.py" (t + 2), .int line 0, .int args 0, .int 0 0, .int 0 0, .int fl 0, .ref r1, .bool true, .int k 0, .ref r2, .none, v1, v2, .ref r3, .int t2 0, .int line 0, sv "/claim/cut.py" t3]
noncomputable def fnO (s : Stmt) (q : String) (df pm : Value) (c : Nat) : Obj := match s with
  | .FunctionDef n ps b _ _ _ sc _ _ _ => { cls := .type "function", data := .func { name := n, qualname := Str.ofString q, params := ps, body := .stmts b, scope := sc, globals := 3, closure := [], defaults := df, kwdefaults := .none, pyModule := pm, code := .ref c } }
  | _ => { cls := .none, data := .plain }

noncomputable def ko3 (P : Params) : Obj := diO P [("__name__", 165, (sv "law_du0008_02" 376)), ("__doc__", 166, Value.none), ("__package__", 167, Value.none), ("__loader__", 168, Value.builtin "__main__.__loader__#opaque"), ("__spec__", 169, Value.none), ("__annotations__", 170, Value.ref 6), ("__builtins__", 171, Value.ref 4), ("__file__", 173, (sv "/claim/cut.py" 172)), ("__cached__", 174, Value.none), ("_wall", 193, Value.ref 21), ("_NODE_OUT", 198, Value.int (-1) 197), ("_NODE_DONE", 201, Value.int (-2) 200), ("_NodeInfo", 238, Value.ref 40), ("CycleError", 256, Value.ref 55), ("TopologicalSorter", 375, Value.ref 137), ("_law_ring", 383, Value.ref 146), ("_law_graph", 398, Value.ref 153), ("_law_rows", 404, Value.ref 158), ("_law_told", 411, Value.ref 165), ("_law_named", 422, Value.ref 172), ("_law_groups", 432, Value.ref 179), ("_law_rounds", 441, Value.ref 186), ("law", 455, Value.ref 193)] 23
noncomputable def ko20 : Obj := coO "_wall" "_wall" 187 1 1 3 15 181 16 (Value.ref 17) (Value.ref 18) 19 191 192
noncomputable def ko21 : Obj := fnO (topS 0) "_wall" (Value.none) (sv "__main__" 164) 20
noncomputable def ko35 : Obj := coO "__init__" "_NodeInfo.__init__" 218 10 2 3 30 181 31 (Value.ref 32) (Value.ref 33) 34 223 224
noncomputable def ko36 : Obj := fnO (inS 4 1) "_NodeInfo.__init__" (Value.none) (sv "cpy313.graphlib" 194) 35
noncomputable def ko39 (P : Params) : Obj := diO P [("__module__", 209, (sv "cpy313.graphlib" 194)), ("__firstlineno__", 213, Value.int 7 212), ("__slots__", 217, Value.ref 29), ("__init__", 225, Value.ref 36), ("__static_attributes__", 229, Value.ref 37), ("node", 231, Value.ref 41), ("npredecessors", 233, Value.ref 42), ("successors", 235, Value.ref 43), ("__doc__", 236, Value.none)] 5
noncomputable def ko40 : Obj := { cls := Value.type "type", data := Data.cls { name := Str.ofString "_NodeInfo", bases := [Value.type "object"], mro := [Value.ref 40, Value.type "object"], ns := 39, qualname := Str.ofString "_NodeInfo", hasDict := false, slotNames := [Str.ofString "node", Str.ofString "npredecessors", Str.ofString "successors"] }, slots := #[none, none, some ((sv "_NodeInfo" 202)), some ((sv "_NodeInfo" 210)), some (Value.builtin "object.__new__"), some (Value.bool false)] }
noncomputable def ko41 : Obj := fiO "member_descriptor" [(sv "node" 230), Value.ref 40, Value.builtin "proto.slot", Value.builtin "proto.slot#set", Value.int 2 0]
noncomputable def ko42 : Obj := fiO "member_descriptor" [(sv "npredecessors" 232), Value.ref 40, Value.builtin "proto.slot", Value.builtin "proto.slot#set", Value.int 1 0]
noncomputable def ko43 : Obj := fiO "member_descriptor" [(sv "successors" 234), Value.ref 40, Value.builtin "proto.slot", Value.builtin "proto.slot#set", Value.int 0 0]
noncomputable def ko54 (P : Params) : Obj := diO P [("__module__", 246, (sv "cpy313.graphlib" 194)), ("__firstlineno__", 250, Value.int 14 249), ("__static_attributes__", 251, Value.ref 53), ("__weakref__", 253, Value.ref 56), ("__doc__", 254, Value.none)] 3
noncomputable def ko55 : Obj := { cls := Value.type "type", data := Data.cls { name := Str.ofString "CycleError", bases := [Value.type "ValueError"], mro := [Value.ref 55, Value.type "ValueError", Value.type "Exception", Value.type "BaseException", Value.type "object"], ns := 54, qualname := Str.ofString "CycleError" }, slots := #[some (Value.ref 46), none, some ((sv "CycleError" 239)), some ((sv "CycleError" 247)), some (Value.builtin "ValueError.__new__"), some (Value.bool true)] }
noncomputable def ko66 : Obj := tuO [Value.none]
noncomputable def ko72 : Obj := coO "__init__" "TopologicalSorter.__init__" 269 18 2 3 67 181 68 (Value.ref 69) (Value.ref 70) 71 276 277
noncomputable def ko73 : Obj := fnO (inS 6 0) "TopologicalSorter.__init__" (Value.ref 66) (sv "cpy313.graphlib" 194) 72
noncomputable def ko79 : Obj := coO "_get_nodeinfo" "TopologicalSorter._get_nodeinfo" 279 27 2 3 74 181 75 (Value.ref 76) (Value.ref 77) 78 285 286
noncomputable def ko80 : Obj := fnO (inS 6 1) "TopologicalSorter._get_nodeinfo" (Value.none) (sv "cpy313.graphlib" 194) 79
noncomputable def ko86 : Obj := coO "add" "TopologicalSorter.add" 288 32 2 7 81 181 82 (Value.ref 83) (Value.ref 84) 85 297 298
noncomputable def ko87 : Obj := fnO (inS 6 2) "TopologicalSorter.add" (Value.none) (sv "cpy313.graphlib" 194) 86
noncomputable def ko91 : Obj := coO "prepare" "TopologicalSorter.prepare" 300 41 1 3 88 181 89 (Value.none) (Value.none) 90 303 304
noncomputable def ko92 : Obj := fnO (inS 6 3) "TopologicalSorter.prepare" (Value.none) (sv "cpy313.graphlib" 194) 91
noncomputable def ko98 : Obj := coO "get_ready" "TopologicalSorter.get_ready" 306 49 1 3 93 181 94 (Value.ref 95) (Value.ref 96) 97 313 314
noncomputable def ko99 : Obj := fnO (inS 6 4) "TopologicalSorter.get_ready" (Value.none) (sv "cpy313.graphlib" 194) 98
noncomputable def ko105 : Obj := coO "is_active" "TopologicalSorter.is_active" 316 60 1 3 100 181 101 (Value.ref 102) (Value.ref 103) 104 320 321
noncomputable def ko106 : Obj := fnO (inS 6 5) "TopologicalSorter.is_active" (Value.none) (sv "cpy313.graphlib" 194) 105
noncomputable def ko112 : Obj := coO "__bool__" "TopologicalSorter.__bool__" 323 65 1 3 107 181 108 (Value.ref 109) (Value.ref 110) 111 327 328
noncomputable def ko113 : Obj := fnO (inS 6 6) "TopologicalSorter.__bool__" (Value.none) (sv "cpy313.graphlib" 194) 112
noncomputable def ko119 : Obj := coO "done" "TopologicalSorter.done" 330 68 1 7 114 181 115 (Value.ref 116) (Value.ref 117) 118 341 342
noncomputable def ko120 : Obj := fnO (inS 6 7) "TopologicalSorter.done" (Value.none) (sv "cpy313.graphlib" 194) 119
noncomputable def ko126 : Obj := coO "_find_cycle" "TopologicalSorter._find_cycle" 344 91 1 3 121 181 122 (Value.ref 123) (Value.ref 124) 125 354 355
noncomputable def ko127 : Obj := fnO (inS 6 8) "TopologicalSorter._find_cycle" (Value.none) (sv "cpy313.graphlib" 194) 126
noncomputable def ko133 : Obj := coO "static_order" "TopologicalSorter.static_order" 357 120 1 3 128 181 129 (Value.ref 130) (Value.ref 131) 132 361 362
noncomputable def ko134 : Obj := fnO (inS 6 9) "TopologicalSorter.static_order" (Value.none) (sv "cpy313.graphlib" 194) 133
noncomputable def ko136 (P : Params) : Obj := diO P [("__module__", 264, (sv "cpy313.graphlib" 194)), ("__firstlineno__", 268, Value.int 16 267), ("__init__", 278, Value.ref 73), ("_get_nodeinfo", 287, Value.ref 80), ("add", 299, Value.ref 87), ("prepare", 305, Value.ref 92), ("get_ready", 315, Value.ref 99), ("is_active", 322, Value.ref 106), ("__bool__", 329, Value.ref 113), ("done", 343, Value.ref 120), ("_find_cycle", 356, Value.ref 127), ("static_order", 363, Value.ref 134), ("__static_attributes__", 368, Value.ref 135), ("__dict__", 370, Value.ref 138), ("__weakref__", 372, Value.ref 139), ("__doc__", 373, Value.none)] 4
noncomputable def ko137 : Obj := { cls := Value.type "type", data := Data.cls { name := Str.ofString "TopologicalSorter", bases := [Value.type "object"], mro := [Value.ref 137, Value.type "object"], ns := 136, qualname := Str.ofString "TopologicalSorter" }, slots := #[none, none, some ((sv "TopologicalSorter" 257)), some ((sv "TopologicalSorter" 265)), some (Value.builtin "object.__new__"), some (Value.bool true)] }
noncomputable def ko145 : Obj := coO "_law_ring" "_law_ring" 378 123 2 3 142 181 143 (Value.none) (Value.none) 144 381 382
noncomputable def ko146 : Obj := fnO (topS 8) "_law_ring" (Value.none) (sv "law_du0008_02" 376) 145
noncomputable def ko152 : Obj := coO "_law_graph" "_law_graph" 384 138 1 3 147 181 148 (Value.ref 149) (Value.ref 150) 151 396 397
noncomputable def ko153 : Obj := fnO (topS 9) "_law_graph" (Value.none) (sv "law_du0008_02" 376) 152
noncomputable def ko157 : Obj := coO "_law_rows" "_law_rows" 399 157 2 3 154 181 155 (Value.none) (Value.none) 156 402 403
noncomputable def ko158 : Obj := fnO (topS 10) "_law_rows" (Value.none) (sv "law_du0008_02" 376) 157
noncomputable def ko164 : Obj := coO "_law_told" "_law_told" 405 179 1 3 159 181 160 (Value.ref 161) (Value.ref 162) 163 409 410
noncomputable def ko165 : Obj := fnO (topS 11) "_law_told" (Value.none) (sv "law_du0008_02" 376) 164
noncomputable def ko171 : Obj := coO "_law_named" "_law_named" 412 184 1 3 166 181 167 (Value.ref 168) (Value.ref 169) 170 420 421
noncomputable def ko172 : Obj := fnO (topS 12) "_law_named" (Value.none) (sv "law_du0008_02" 376) 171
noncomputable def ko178 : Obj := coO "_law_groups" "_law_groups" 423 196 1 3 173 181 174 (Value.ref 175) (Value.ref 176) 177 430 431
noncomputable def ko179 : Obj := fnO (topS 13) "_law_groups" (Value.none) (sv "law_du0008_02" 376) 178
noncomputable def ko185 : Obj := coO "_law_rounds" "_law_rounds" 433 203 2 3 180 181 181 (Value.ref 182) (Value.ref 183) 184 439 440
noncomputable def ko186 : Obj := fnO (topS 14) "_law_rounds" (Value.none) (sv "law_du0008_02" 376) 185
noncomputable def ko192 : Obj := coO "law" "law" 442 210 1 3 187 181 188 (Value.ref 189) (Value.ref 190) 191 453 454
noncomputable def ko193 : Obj := fnO (topS 15) "law" (Value.none) (sv "law_du0008_02" 376) 192
noncomputable def KF (P : Params) : Frag := [(3, ko3 P), (20, ko20), (21, ko21), (35, ko35), (36, ko36), (39, ko39 P), (40, ko40), (41, ko41), (42, ko42), (43, ko43), (54, ko54 P), (55, ko55), (66, ko66), (72, ko72), (73, ko73), (79, ko79), (80, ko80), (86, ko86), (87, ko87), (91, ko91), (92, ko92), (98, ko98), (99, ko99), (105, ko105), (106, ko106), (112, ko112), (113, ko113), (119, ko119), (120, ko120), (126, ko126), (127, ko127), (133, ko133), (134, ko134), (136, ko136 P), (137, ko137), (145, ko145), (146, ko146), (152, ko152), (153, ko153), (157, ko157), (158, ko158), (164, ko164), (165, ko165), (171, ko171), (172, ko172), (178, ko178), (179, ko179), (185, ko185), (186, ko186), (192, ko192), (193, ko193)]
noncomputable def KA : List Addr := [3, 20, 21, 35, 36, 39, 40, 41, 42, 43, 54, 55, 66, 72, 73, 79, 80, 86, 87, 91, 92, 98, 99, 105, 106, 112, 113, 119, 120, 126, 127, 133, 134, 136, 137, 145, 146, 152, 153, 157, 158, 164, 165, 171, 172, 178, 179, 185, 186, 192, 193]
theorem KA_eq (P : Params) : KA = (KF P).map (·.1) := by kernel_rfl
noncomputable def LO : List Str := ["_wall", "_NODE_OUT", "_NODE_DONE", "_NodeInfo", "CycleError", "TopologicalSorter", "_law_ring", "_law_graph", "_law_rows", "_law_told", "_law_named", "_law_groups", "_law_rounds"].map Str.ofString
noncomputable def VW : Program := view ROW.prog [15]
noncomputable def lawD : DefRec := ((defOf VW ROW.name).get (by kernel_rfl)).1
theorem left : LeftO ROW.prog VW LO (fun s => xlAt VW [] s && recOk [] s) (Hook.obs (kmHook KF KA KA_eq [174])) (Hook.val (kmHook KF KA KA_eq [174])) 4000 := fun w => by
  unfold openEnds fencedOpening topFrom
  rw [Fast.te10274390034422433532, Fast.te14364793385576792824, Fast.te4187177175401517315, Fast.te14289696077712309145, Fast.te14082659384304107361]
  kernel_rfl
theorem said : ROW.wellSaid = true := by
  rw [Fast.te9446332074065402090]
  kernel_rfl
end Mine.Internal

open PySem PySem.W PyProof.Rows
set_option maxRecDepth 100000
namespace Mine.Internal
set_option maxHeartbeats 4000000 in
theorem head (hc : WalkO VW LO (XL VW []) (kmHook KF KA KA_eq [174]).says ROW.row.toRowW lawD [] fun f vs => PySem.call f vs) : ROW.Holds := by
  refine holds_law said fun rs => ?_
  refine holds_open (q := VW) (loose := LO) (Xt := fun s => xlAt VW [] s && recOk [] s) (XP := XL VW []) (Yf := Hook.obs (kmHook KF KA KA_eq [174])) (Ya := Hook.val (kmHook KF KA KA_eq [174])) (YP := Hook.says (kmHook KF KA KA_eq [174])) (d := lawD) (kwd := []) (N := 4000)
    left (Hook.of _) (Hook.keeps _) (fun s e => xl_of s (Bool.and_eq_true_iff.mp e).1) XL.keeps (by kernel_rfl) (by kernel_rfl) (by kernel_rfl) (fun s e => recFacts_of (Bool.and_eq_true_iff.mp e).2) (by rfl) rs (by decide +kernel) ⟨rfl, rfl, rfl, rfl, rfl, by decide +kernel⟩ ?_ hc
  w_witness2
end Mine.Internal

namespace Mine.Internal
open PySem PySem.W PyProof.Rows PySem.Calls

noncomputable abbrev KK (w : World) : Frag := KF w.params

structure Lw (c : Cx) : Prop where
  K : c.K = KK c.w
  len : Glob c "len" (.builtin "len")
  bool : Glob c "bool" (.type "bool")
  tuple : Glob c "tuple" (.type "tuple")
  ValueError : Glob c "ValueError" (.type "ValueError")
  NodeInfo : Glob c "_NodeInfo" (.ref CNI)
  set : Glob c "set" (.type "set")
  iter : Glob c "iter" (.builtin "iter")
  StopIteration : Glob c "StopIteration" (.type "StopIteration")
  NODE_OUT : ∃ t, Glob c "_NODE_OUT" (.int (-1) t)
  NODE_DONE : ∃ t, Glob c "_NODE_DONE" (.int (-2) t)

theorem a_node2info {w : World} : AttrOk (KK w) CTS "_node2info" := ⟨by rfl, by rfl, ⟨none, by rfl, by rfl⟩, by rfl, by rfl, by rfl⟩
theorem a_ready {w : World} : AttrOk (KK w) CTS "_ready_nodes" := ⟨by rfl, by rfl, ⟨none, by rfl, by rfl⟩, by rfl, by rfl, by rfl⟩
theorem a_npass {w : World} : AttrOk (KK w) CTS "_npassedout" := ⟨by rfl, by rfl, ⟨none, by rfl, by rfl⟩, by rfl, by rfl, by rfl⟩
theorem a_nfin {w : World} : AttrOk (KK w) CTS "_nfinished" := ⟨by rfl, by rfl, ⟨none, by rfl, by rfl⟩, by rfl, by rfl, by rfl⟩

theorem sl_node {w : World} : SlotOk (KK w) CNI "node" 0 := ⟨by rfl, by rfl, by rfl, by rfl, ⟨_, by rfl, by rfl, by rfl, by rfl, by rfl, by rfl⟩⟩
theorem sl_np {w : World} : SlotOk (KK w) CNI "npredecessors" 1 := ⟨by rfl, by rfl, by rfl, by rfl, ⟨_, by rfl, by rfl, by rfl, by rfl, by rfl, by rfl⟩⟩
theorem sl_su {w : World} : SlotOk (KK w) CNI "successors" 2 := ⟨by rfl, by rfl, by rfl, by rfl, ⟨_, by rfl, by rfl, by rfl, by rfl, by rfl, by rfl⟩⟩

theorem fn_ninit {w : World} : FnOk (KK w) 36 ["self", "node"] [] [] := ⟨rfl, rfl, rfl, rfl, rfl, rfl, rfl, rfl, rfl, by decide +kernel⟩
theorem fn_getinfo {w : World} : FnOk (KK w) 80 ["self", "node"] ["result"] ["_NodeInfo"] := ⟨rfl, rfl, rfl, rfl, rfl, rfl, rfl, rfl, rfl, by decide +kernel⟩
theorem fn_is_active {w : World} : FnOk (KK w) 106 ["self"] [] ["ValueError", "bool"] := ⟨rfl, rfl, rfl, rfl, rfl, rfl, rfl, rfl, rfl, by decide +kernel⟩
theorem makes_NI {w : World} : makesIn (KK w) CNI = true := by rfl
theorem keep_NI {w : World} : keepIn (KK w) (.ref CNI) = true := by rfl
theorem keep_getinfo {w : World} : keepIn (KK w) (.ref 80) = true := by rfl
theorem init_NI {w : World} : findIn (KK w) (.ref CNI) "__init__" = some (some (.ref 36)) := by rfl
theorem fnt_NI {w : World} : typeIn (KK w) (.ref 36) = some (.type "function") := by rfl

theorem fn_add {w : World} : FnOk (KK w) 87 ["self", "node", "predecessors"] ["nodeinfo", "pred", "pred_info"] ["ValueError", "len"] := ⟨rfl, rfl, rfl, rfl, rfl, rfl, rfl, rfl, rfl, by decide +kernel⟩
theorem bind_add {w : World} {u1 u2 : Value} {rest : List Value} : bindArgs (fdOf (KK w) 87) ⟨[u1, u2] ++ rest, []⟩ = (do let t ← newTuple rest; pure ((["self", "node", "predecessors"] : List Str).zip ([u1, u2] ++ [t]))) := by
  cases rest <;> kernel_rfl
theorem bo_getinfo {w : World} : BindOk (KK w) CTS "_get_nodeinfo" 80 := ⟨rfl, rfl, rfl, rfl, rfl, rfl, by decide +kernel⟩
theorem bo_add {w : World} : BindOk (KK w) CTS "add" 87 := ⟨rfl, rfl, rfl, rfl, rfl, rfl, by decide +kernel⟩
theorem bo_done {w : World} : BindOk (KK w) CTS "done" 120 := ⟨rfl, rfl, rfl, rfl, rfl, rfl, by decide +kernel⟩
theorem no_attr {nd : Addr} {rv : AV} {st : SS} {name : Str} (h : codeOf name ∉ (["_node2info", "_ready_nodes", "_npassedout", "_nfinished"] : List Str).map codeOf) : name ∉ (sAttrs nd rv st).map (·.1) := fun q => h (List.mem_map_of_mem q)
theorem fn_tinit {w : World} : FnOk (KK w) 73 ["self", "graph"] ["node", "predecessors"] [] := ⟨rfl, rfl, rfl, rfl, rfl, rfl, rfl, rfl, rfl, by decide +kernel⟩
theorem makes_TS {w : World} : makesIn (KK w) CTS = true := by rfl
theorem init_TS {w : World} : findIn (KK w) (.ref CTS) "__init__" = some (some (.ref 73)) := by rfl
theorem fnt_TS {w : World} : typeIn (KK w) (.ref 73) = some (.type "function") := by rfl
theorem keep_TS {w : World} : keepIn (KK w) (.ref CTS) = true := by rfl
theorem fn_get_ready {w : World} : FnOk (KK w) 99 ["self"] ["result", "n2i", "node"] ["ValueError", "tuple", "_NODE_OUT", "len"] := ⟨rfl, rfl, rfl, rfl, rfl, rfl, rfl, rfl, rfl, by decide +kernel⟩
theorem fn_done {w : World} : FnOk (KK w) 120 ["self", "nodes"] ["n2i", "node", "nodeinfo", "stat", "successor", "successor_info"] ["ValueError", "_NODE_OUT", "_NODE_DONE"] := ⟨rfl, rfl, rfl, rfl, rfl, rfl, rfl, rfl, rfl, by decide +kernel⟩
theorem bind_done {w : World} {u1 : Value} {rest : List Value} : bindArgs (fdOf (KK w) 120) ⟨[u1] ++ rest, []⟩ = (do let t ← newTuple rest; pure ((["self", "nodes"] : List Str).zip ([u1] ++ [t]))) := by
  cases rest <;> kernel_rfl
theorem fn_find {w : World} : FnOk (KK w) 127 ["self"] ["n2i", "stack", "itstack", "seen", "node2stacki", "node"] ["set", "iter", "len", "StopIteration"] := ⟨rfl, rfl, rfl, rfl, rfl, rfl, rfl, rfl, rfl, by decide +kernel⟩
theorem sAttrs_nd {nd : Addr} {rv : AV} {st : SS} : ((sAttrs nd rv st).map (·.1)).Nodup := nodup_of_codes (by show ((["_node2info", "_ready_nodes", "_npassedout", "_nfinished"] : List Str).map codeOf).Nodup; decide +kernel)

end Mine.Internal

open Mine.Internal PySem PySem.W PyProof.Rows PySem.Calls
local macro_rules | `(tactic| walk_at $s:str) => do
  let i (n : String) : Lean.Ident := Lean.mkIdent n.toName
  let two (a b : String) : Lean.MacroM (Lean.TSyntax `tactic) := `(tactic| first | with_reducible apply $(i a) | (with_reducible apply $(i b); walk_at $s))
  let each (x : String) (f : Lean.Ident → Lean.MacroM (Lean.TSyntax `Lean.Parser.Tactic.tacticSeq)) := (x.splitOn " ").toArray.mapM fun n => f (i n)
  match s.getString with
  | "var" => two "VarAt.here" "VarAt.there"
  | "set" => two "SetVar.here" "SetVar.there"
  | "mem" => two "List.mem_cons_self" "List.mem_cons_of_mem"
  | "st" => do
    let h ← `(_)
    let b ← `(by assumption)
    let us (n : Nat) : Array Lean.Term := (Array.replicate n h)
    let held (x : String) (n : Nat) := each x fun i => `(tacticSeq| refine $i $b $(us n)* ?_)
    let look (x k : String) := each x fun i => `(tacticSeq| refine $i $b (by walk_at $(Lean.Syntax.mkStrLit k)) ?_)
    let as ← each "All.ref All.none All.bool W_nil W_If W_isTrue_Compare1 W_isTrue_Not W_isTrue_BoolOp W_allTrue_and W_allTrue_or W_allTrue_nil W_Compare1 W_BinOp W_And2 W_Or2 W_UnaryOp W_IfExp W_Return_some W_Attribute W_Assign_Name W_Assign_Attr W_NamedExpr W_AugAttr W_Assign_two W_Assign_Sub W_assign_Sub W_assign_Name W_Break W_Continue W_Pass W_Const_none W_Const_bool W_Call_Name W_Call_method W_List W_Tuple W_truthy_bool W_callWith W_args_nil W_args W_spl_nil W_spl W_Subscript W_is_none W_isnot_none W_lt_int W_le_int W_gt_int W_ge_int W_eq_int W_ne_int W_isTrue_any" fun i => `(tacticSeq| refine $i ?_)
    let bs ← each "All.int All.str W_Const_int W_Const_str W_add W_sub W_iadd W_isub W_neg" fun i => `(tacticSeq| (refine $i ?_; intro _))
    let cs := (← look "W_Name" "var") ++ (← look "W_Glob" "mem") ++ (← look "W_storeName" "set") ++ (← held "W_ExprE" 0) ++ as ++ bs ++ (← held "Nx.nx Nx.br Nx.co" 1) ++ (← held "Nx.re" 2) ++ (← held "Fx.nx" 3) ++ (← held "Fx.re" 4)
    `(tactic| with_reducible first | (refine W_consG ?_; intro _ _) | (first $[| $cs]*) | (apply ite_t; · with_unfolding_all rfl) | (apply ite_f; · with_unfolding_all exact Bool.false_ne_true))
  | _ => Lean.Macro.throwUnsupported
namespace Mine.Internal
open PySem PySem.W PyProof.Rows PySem.Calls

section
variable {c : Cx} {A : Around} {E : Value → AS → Prop} {fs : List Frm} {σ : Addr → Option (Nat × Cell)} {g : Array GenState} {d : Nat} {x dx nd : Addr} {rv : AV} {as : List NAd} {ep : Nat} {st : SS}
theorem ninit_spec {u : Value} {k : AV} {y dy : Addr} {R : Result → AS → Prop} (lw : Lw c) (hA : AOk A fs (d + 1)) (hu : er u = k) (hk : k.isKey = true) (hy : σ y = some (1, .inst CNI dy [])) (hdy : σ dy = some (1, .attrs []))
    (h : ∀ s σ', σ s = none → s ≠ y → σ' = upd (upd σ s (some (2, .list []))) y (some (1, .inst CNI dy [some k, some (.int 0), some (.ref s)])) → R (.ok (.ret .none)) ⟨fs, σ', g⟩) : Wk c A (.call (.ref 36) ⟨[.ref y, u], []⟩) R ⟨fs, σ, g⟩ := by
  refine Wk_call_G lw.K (ns := ["self", "node"]) (us := [.ref y, k]) (gs := []) fn_ninit rfl (by kernel_rfl) (by simp [hu]) (.cons (.cons .nil)) (by simp) hA (fun L env B P X hfr hh hL hA' hout hE hF hU => ?_)
  have ne : dy ≠ y := fun q => by rw [q, hy] at hdy; cases hdy
  refine W_consG (fun _ _ => ?_)
  repeat walk_at "st"
  refine All.key hk fun u' e' => ?_
  repeat walk_at "st"
  refine W_setSlot hy hdy (lw.K ▸ sl_node) (by decide) ?_
  repeat walk_at "st"
  refine W_setSlot upd_self (by rw [upd_ne ne]; exact hdy) (lw.K ▸ sl_np) (by decide) ?_
  repeat walk_at "st"
  refine W_newList 2 (by simp) (fun s h0 σ' e => ?_)
  subst e
  repeat walk_at "st"
  have hs : σ s = none ∧ s ≠ y := by
    rw [upd_upd] at h0
    by_cases q : s = y
    · subst q; simp at h0
    · rw [upd_ne q] at h0; exact ⟨h0, q⟩
  refine W_setSlot (by rw [upd_ne (Ne.symm hs.2)]; exact upd_self) (by rw [upd_ne (fun q => by rw [← q, hdy] at hs; cases hs.1), upd_ne ne, upd_ne ne]; exact hdy) (lw.K ▸ sl_su) (by decide) ?_
  repeat walk_at "st"
  refine h s _ hs.1 hs.2 ?_
  subst e'
  funext z
  by_cases q1 : z = y
  · subst q1; simp [upd, padSet]
  · by_cases q2 : z = s
    · subst q2; simp [upd, q1]
    · simp [upd, q1, q2]

theorem getinfo_spec {u : Value} {k : AV} {Q : Value → AS → Prop} (lw : Lw c) (hA : AOk A fs (d + 3)) (S : SAt σ x st dx nd rv as ep) (hu : er u = k) (hk : k.isKey = true) (hz : st.keys.length ≤ 100000)
    (h : ∀ σ' (as' : List NAd) ep' (j : Nat) (p : NAd) st', Ext [1, 2] σ σ' → st' = { st with keys := if k ∈ st.keys then st.keys else st.keys ++ [k] } → SAt σ' x st' dx nd rv as' ep' → st'.keys[j]? = some k → as'[j]? = some p → Q (.ref p.i) ⟨fs, σ', g⟩) :
    W c A (call (.ref 80) [.ref x, u]) Q E ⟨fs, σ, g⟩ := by
  refine W_call_G lw.K (ns := ["self", "node", "result"]) (us := [.ref x, k]) (gs := [("_NodeInfo", .ref CNI)]) fn_getinfo rfl (by kernel_rfl) (by simp [hu]) (.cons (.cons (.rest .nil))) (by simp [lw.NodeInfo]) hA (fun L env B P X hfr hh hL hA' hout hE hF hU => ?_)
  refine W_consG (fun _ _ => ?_)
  repeat walk_at "st"
  refine W_getAttr S.x S.dx (lw.K ▸ a_node2info) sAttrs_nd (by walk_at "mem") ?_
  intro pl
  refine W_meth_dict F.slot_dict_get F.type_dict_get S.nd ?_
  repeat walk_at "st"
  refine All.key hk fun u' e' => ?_
  repeat walk_at "st"
  refine ⟨Kp.builtin, W_dict_get S.nd (by rw [e']; exact hk) ?_⟩
  rw [e']
  by_cases hin : k ∈ st.keys
  · obtain ⟨j, p, hj, hp, hg⟩ := S.find hin
    rw [hg]
    show All (.ref p.i) _
    repeat walk_at "st"
    refine h σ as ep j p _ Ext.refl rfl ?_ ?_ hp
    · rw [if_pos hin]; exact S
    · rw [if_pos hin]; exact hj
  · rw [S.find_none hin]
    show All .none _
    repeat walk_at "st"
    refine All.key hk fun u2 e2 => ?_
    repeat walk_at "st"
    refine ⟨Kp.inK (lw.K ▸ keep_NI), W_make 1 (lw.K ▸ makes_NI) (lw.K ▸ init_NI) (lw.K ▸ fnt_NI) (fun y dy hy hdy hne σ1 e1 => ?_)⟩
    refine ninit_spec lw (d := d) ?_ e2 hk (by rw [e1]; exact upd_self) (by rw [e1, upd_ne (Ne.symm hne)]; exact upd_self) (fun s σ2 hs hsy e3 => ⟨rfl, ?_⟩)
    · exact hA'.vs.underMake
    repeat walk_at "st"
    have s1 : σ s = none ∧ s ≠ dy := by
      rw [e1, upd_ne hsy] at hs
      by_cases q : s = dy
      · rw [q] at hs; simp at hs
      · rw [upd_ne q] at hs; exact ⟨hs, q⟩
    have X1 : Ext [] σ σ2 := by
      rw [e3, e1]
      intro z k' cl' q _
      have n1 : z ≠ y := fun e => by rw [e, hy] at q; cases q
      have n2 : z ≠ dy := fun e => by rw [e, hdy] at q; cases q
      have n3 : z ≠ s := fun e => by rw [e, s1.1] at q; cases q
      simp only [upd_ne n1, upd_ne n2, upd_ne n3]; exact q
    have N : NdAt σ2 ⟨y, dy, s⟩ k 0 [] := by
      rw [e3, e1]
      refine ⟨upd_self, ?_, ?_⟩
      · dsimp only; rw [upd_ne (Ne.symm hne), upd_ne (Ne.symm s1.2), upd_ne (Ne.symm hne)]; exact upd_self
      · dsimp only; rw [upd_ne hsy]; exact upd_self
    have S2 := S.ext X1 (by simp) (by simp)
    refine W_getAttr S2.x S2.dx (lw.K ▸ a_node2info) sAttrs_nd (by walk_at "mem") ?_
    repeat walk_at "st"
    refine All.key hk fun u3 e4 => ?_
    refine W_dict_set S2.nd (by rw [e4]; exact hk) (by simp [S.len]; omega) (fun ep' σ3 e5 => ?_)
    rw [e4, dset_zip (by simp [S.len]) hin] at e5
    repeat walk_at "st"
    have S3 := S.new (p := ⟨y, dy, s⟩) (ep' := ep') hin hk X1 hy s1.1 N
    refine h σ3 (as ++ [⟨y, dy, s⟩]) ep' st.keys.length ⟨y, dy, s⟩ _ ?_ rfl ?_ ?_ ?_
    · rw [e5]; exact X1.nil.trans (Ext.upd_own S2.nd (by simp))
    · rw [if_neg hin, e5]
      have : (as ++ [(⟨y, dy, s⟩ : NAd)]).map (fun p => AV.ref p.i) = as.map (fun p => AV.ref p.i) ++ [er (Value.ref y)] := by simp
      rw [← this]; exact S3
    · rw [if_neg hin]; simp
    · rw [← S.len]; simp

theorem is_active_spec {l : List AV} {Q : Value → AS → Prop} (lw : Lw c) (hA : AOk A fs (d + 1)) (S : SAt σ x st dx nd rv as ep) (hr : st.ready = some l) (hz : l.length ≤ 1000000)
    (h : Q (.bool (decide (st.nfin < st.npass) || !l.isEmpty)) ⟨fs, σ, g⟩) : W c A (call (.ref 106) [.ref x]) Q E ⟨fs, σ, g⟩ := by
  have rd := S.rdy
  rw [hr] at rd
  obtain ⟨b, rfl, hb⟩ := rd
  refine W_call_G lw.K (ns := ["self"]) (us := [.ref x]) (gs := [("ValueError", .type "ValueError"), ("bool", .type "bool")]) fn_is_active rfl (by kernel_rfl) rfl (.cons .nil) (by simp [lw.ValueError, lw.bool]) hA (fun L env B P X hfr hh hL hA' hout hE hF hU => ?_)
  refine W_consG (fun _ _ => ?_)
  repeat walk_at "st"
  refine W_getAttr S.x S.dx (lw.K ▸ a_ready) sAttrs_nd (by walk_at "mem") ?_
  repeat walk_at "st"
  refine W_getAttr S.x S.dx (lw.K ▸ a_nfin) sAttrs_nd (by walk_at "mem") ?_
  repeat walk_at "st"
  refine W_getAttr S.x S.dx (lw.K ▸ a_npass) sAttrs_nd (by walk_at "mem") ?_
  repeat walk_at "st"
  by_cases q : st.nfin < st.npass
  · simp only [q, decide_true, if_true]
    repeat walk_at "st"
    simpa [q] using h
  · simp only [q, decide_false, Bool.false_eq_true, if_false]
    repeat walk_at "st"
    refine W_getAttr S.x S.dx (lw.K ▸ a_ready) sAttrs_nd (by walk_at "mem") ?_
    repeat walk_at "st"
    refine ⟨Kp.type, W_bool_list hb hz ?_⟩
    repeat walk_at "st"
    simpa [q] using h
end
end Mine.Internal

namespace Mine.Internal
open PySem PySem.W PyProof.Rows PySem.Calls

section
variable {c : Cx} {A : Around} {E : Value → AS → Prop} {fs : List Frm} {σ : Addr → Option (Nat × Cell)} {g : Array GenState} {d : Nat} {x dx nd : Addr} {rv : AV} {as : List NAd} {ep : Nat} {st : SS}
theorem add_spec {u : Value} {k : AV} {us : List Value} {ps : List AV} {N : Nat} {R : Result → AS → Prop} (lw : Lw c) (hA : AOk A fs (d + 4)) (S : SAt σ x st dx nd rv as ep) (hr : st.ready = none) (hF : st.Fit N) (hN : N + ps.length + 1 ≤ 100000)
    (hu : er u = k) (hk : k.isKey = true) (hus : us.map er = ps) (hps : ∀ p ∈ ps, p.isKey = true)
    (h : ∀ σ' as' ep', Ext [1, 2] σ σ' → SAt σ' x (st.add k ps) dx nd rv as' ep' → R (.ok (.ret .none)) ⟨fs, σ', g⟩) :
    Wk c A (.call (.ref 87) ⟨.ref x :: u :: us, []⟩) R ⟨fs, σ, g⟩ := by
  have hrv : rv = .none := by have := S.rdy; rw [hr] at this; exact this
  subst hrv
  have hlen : us.length = ps.length := by rw [← hus]; simp
  refine Wk_call_GS (pre := [.ref x, u]) (rest := us) lw.K (ns := ["self", "node", "predecessors", "nodeinfo", "pred", "pred_info"]) (us := [.ref x, k]) (vs := fun t => [some (.ref x), some k, some (.ref t), none, none, none])
    (gs := [("ValueError", .type "ValueError"), ("len", .builtin "len")]) fn_add rfl bind_add (by simp [hu]) (fun t => .cons (.cons (.cons (.rest (.rest (.rest .nil)))))) (by simp [lw.ValueError, lw.len]) hA (by omega) (fun L env t σ1 B P X hfr hh ht e1 hL hA' hout hE hFx hUx => ?_)
  rw [hus] at e1
  have X1 : Ext [] σ σ1 := by rw [e1]; exact Ext.upd_new ht
  have S1 := S.ext X1 (by simp) (by simp)
  have ht1 : σ1 t = some (0, .tuple ps) := by rw [e1]; exact upd_self
  refine W_consG (fun _ _ => ?_)
  repeat walk_at "st"
  refine W_getAttr S1.x S1.dx (lw.K ▸ a_ready) sAttrs_nd (by walk_at "mem") ?_
  repeat walk_at "st"
  intro pl
  refine W_getMethod S1.x S1.dx (lw.K ▸ bo_getinfo.get) (lw.K ▸ bo_getinfo.find) (lw.K ▸ bo_getinfo.fn) (no_attr (by decide +kernel)) ?_
  repeat walk_at "st"
  refine All.key hk fun u2 e2 => ?_
  repeat walk_at "st"
  refine ⟨Kp.inK (lw.K ▸ keep_getinfo), getinfo_spec lw (d := d) hA' S1 e2 hk (by have := hF.keys; omega) (fun σ2 as2 ep2 j p st2 X2 e3 S2 hj hp => ?_)⟩
  repeat walk_at "st"
  have N2 := S2.nds j p k hp hj
  refine W_getSlot N2.i N2.d (lw.K ▸ sl_np) (by rfl) ?_
  repeat walk_at "st"
  have ht2 : σ2 t = some (0, .tuple ps) := X2 _ _ _ ht1 (by simp)
  refine ⟨Kp.builtin, W_len_tuple ht2 (by omega) (fun t2 => ?_)⟩
  repeat walk_at "st"
  refine W_setSlot N2.i N2.d (lw.K ▸ sl_np) (by decide) ?_
  have S3 := S2.setNp (n := st2.np k + ps.length) hj hp
  generalize e4 : upd σ2 p.i _ = σ3
  have e4' : upd σ2 p.i (some (1, .inst CNI p.d [some k, some (.int (st2.np k + ps.length)), some (.ref p.s)])) = σ3 := e4
  rw [e4'] at S3
  have X3 : Ext [1, 2] σ2 σ3 := by rw [← e4']; exact Ext.upd_own N2.i (by simp)
  have ht3 : σ3 t = some (0, .tuple ps) := X3 _ _ _ ht2 (by simp)
  have est : ({ st2 with np := fset st2.np k (st2.np k + ps.length) } : SS) = st.addN k ps.length := by rw [e3]; rfl
  rw [est] at S3
  repeat walk_at "st"
  refine W_For ?_
  repeat walk_at "st"
  refine W_iter_tuple ht3 (fun it h0 σ4 e5 => ?_)
  refine Wk_loopG (IterOf.tuple (k := 0) hh) [1, 2] (by simp) (by simp)
    (fun i vv σ => ∃ b1 b2 as' ep', vv = [some (.ref x), some k, some (.ref t), some (.ref p.i), b1, b2] ∧ SAt σ x ((ps.take i).foldl (fun s p => s.succ k p) (st.addN k ps.length)) dx nd .none as' ep')
    (fun i vv σ σ' ⟨b1, b2, as', ep', hv, S⟩ X => ⟨b1, b2, as', ep', hv, S.ext X (by simp) (by simp)⟩) h0 e5
    (by rw [e5, upd_ne (fun q => by rw [← q, ht3] at h0; cases h0)]; exact ht3) ⟨_, _, as2, ep2, rfl, S3⟩ ?_ ?_
  · rintro i v vv σ5 u5 P5 X5 hP5 hX5 ⟨b1, b2, as5, ep5, rfl, S5⟩ hv eu hsrc Y5
    have hi : i < ps.length := (List.getElem?_eq_some_iff.mp hv).1
    have hvk : v.isKey = true := hps v (List.mem_of_getElem? hv)
    have F5 : ((ps.take i).foldl (fun s p => s.succ k p) (st.addN k ps.length)).Fit (N + 1 + i) := by
      have := (hF.addN (k := k) (n := ps.length)).succs (k := k) (ps := ps.take i)
      rwa [List.length_take, Nat.min_eq_left (by omega)] at this
    repeat walk_at "st"
    intro pl
    refine W_getMethod S5.x S5.dx (lw.K ▸ bo_getinfo.get) (lw.K ▸ bo_getinfo.find) (lw.K ▸ bo_getinfo.fn) (no_attr (by decide +kernel)) ?_
    repeat walk_at "st"
    rw [eu]
    refine All.key hvk fun u6 e6 => ?_
    repeat walk_at "st"
    refine ⟨Kp.inK (lw.K ▸ keep_getinfo), getinfo_spec lw (d := d) hA'.vs S5 e6 hvk (by have := F5.keys; omega) (fun σ6 as6 ep6 j6 p6 st6 X6 e7 S6 hj6 hp6 => ?_)⟩
    repeat walk_at "st"
    have N6 := S6.nds j6 p6 v hp6 hj6
    refine W_getSlot N6.i N6.d (lw.K ▸ sl_su) (by rfl) ?_
    repeat walk_at "st"
    intro pl
    refine W_meth_list F.slot_list_append F.type_list_append N6.s ?_
    repeat walk_at "st"
    refine All.key hk fun u8 e8 => ?_
    repeat walk_at "st"
    refine ⟨Kp.builtin, W_append N6.s ?_ (fun σ7 e9 => ?_)⟩
    · rw [e7]; have := F5.su v; dsimp only; omega
    repeat walk_at "st"
    have S7 := S6.setSu (su := st6.su v ++ [k]) hj6 hp6
    rw [e8] at e9
    rw [← e9] at S7
    refine hP5.nx _ σ7 (X6.trans (by rw [e9]; exact Ext.upd_own N6.s (by simp))) ⟨_, _, as6, ep6, rfl, ?_⟩
    have : (ps.take (i + 1)).foldl (fun s p => s.succ k p) (st.addN k ps.length) = { st6 with su := fset st6.su v (st6.su v ++ [k]) } := by
      rw [List.take_add_one, hv, List.foldl_append, e7]; rfl
    rw [this]; exact S7
  · rintro vv σ5 ⟨b1, b2, as5, ep5, rfl, S5⟩ X5
    repeat walk_at "st"
    rw [List.take_length] at S5
    exact h σ5 as5 ep5 (X1.nil.trans (X2.trans (X3.trans X5))) S5
end
end Mine.Internal

namespace Mine.Internal
open PySem PySem.W PyProof.Rows PySem.Calls

section
variable {c : Cx} {A : Around} {E : Value → AS → Prop} {fs : List Frm} {σ : Addr → Option (Nat × Cell)} {g : Array GenState} {d : Nat} {x dx nd : Addr} {rv : AV} {as : List NAd} {ep : Nat} {st : SS}

theorem get_ready_spec {l : List AV} {Q : Value → AS → Prop} (lw : Lw c) (hA : AOk A fs (d + 1)) (S : SAt σ x st dx nd rv as ep) (hr : st.ready = some l) (hl : ∀ k ∈ l, k ∈ st.keys) (hz : l.length ≤ 100000)
    (h : ∀ t σ', σ t = none → Ext [1] σ σ' → σ' t = some (0, .tuple l) → SAt σ' x (st.getReady l) dx nd rv as ep → Q (.ref t) ⟨fs, σ', g⟩) : W c A (call (.ref 99) [.ref x]) Q E ⟨fs, σ, g⟩ := by
  have rd := S.rdy
  rw [hr] at rd
  obtain ⟨b, rfl, hb⟩ := rd
  obtain ⟨tO, gO⟩ := lw.NODE_OUT
  refine W_call_G lw.K (ns := ["self", "result", "n2i", "node"]) (us := [.ref x]) (gs := [("ValueError", .type "ValueError"), ("tuple", .type "tuple"), ("_NODE_OUT", .int (-1) tO), ("len", .builtin "len")]) fn_get_ready rfl (by kernel_rfl) rfl (.cons (.rest (.rest (.rest .nil)))) (by simp [lw.ValueError, lw.tuple, lw.len, gO]) hA (fun L env B P X hfr hh hL hA' hout hE hFx hUx => ?_)
  refine W_consG (fun _ _ => ?_)
  repeat walk_at "st"
  refine W_getAttr S.x S.dx (lw.K ▸ a_ready) sAttrs_nd (by walk_at "mem") ?_
  repeat walk_at "st"
  refine W_getAttr S.x S.dx (lw.K ▸ a_ready) sAttrs_nd (by walk_at "mem") ?_
  repeat walk_at "st"
  refine ⟨Kp.type, W_tuple_list 0 hb (by omega) (fun t h0 σ1 e1 => ?_)⟩
  have X1 : Ext [] σ σ1 := by rw [e1]; exact Ext.upd_new h0
  have S1 := S.ext X1 (by first | decide | simp) (by first | decide | simp)
  have ht1 : σ1 t = some (0, .tuple l) := by rw [e1]; exact upd_self
  repeat walk_at "st"
  refine W_getAttr S1.x S1.dx (lw.K ▸ a_node2info) sAttrs_nd (by walk_at "mem") ?_
  repeat walk_at "st"
  refine W_For ?_
  repeat walk_at "st"
  refine W_iter_tuple ht1 (fun it h1 σ2 e2 => ?_)
  refine Wk_loopG (IterOf.tuple (k := 0) hh) [1] (by first | decide | simp) (by first | decide | simp)
    (fun i vv σ => ∃ b1, vv = [some (.ref x), some (.ref t), some (.ref nd), b1] ∧ SAt σ x { st with np := SS.out st.np (l.take i) } dx nd (.ref b) as ep)
    (fun i vv σ σ' ⟨b1, hv, S⟩ X => ⟨b1, hv, S.ext X (by first | decide | simp) (by first | decide | simp)⟩) h1 e2
    (by rw [e2, upd_ne (fun q => by rw [← q, ht1] at h1; cases h1)]; exact ht1) ⟨_, rfl, S1⟩ ?_ ?_
  · rintro i v vv σ5 u5 P5 X5 hP5 hX5 ⟨b1, rfl, S5⟩ hv eu hsrc Y5
    have hvk := hl v (List.mem_of_getElem? hv)
    have hkey := S.key v hvk
    obtain ⟨j, p, hj, hp, hg⟩ := S5.find hvk
    have N5 := S5.nds j p v hp hj
    repeat walk_at "st"
    rw [eu]
    refine All.key hkey fun u6 e6 => ?_
    repeat walk_at "st"
    refine ⟨noGet_dict S5.nd, W_dict_item S5.nd (by rw [e6]; exact hkey) (by rw [e6]; exact hg) ?_⟩
    repeat walk_at "st"
    refine W_setSlot N5.i N5.d (lw.K ▸ sl_np) (by decide) ?_
    repeat walk_at "st"
    have S6 := S5.setNp (n := -1) hj hp
    refine hP5.nx _ _ (Ext.upd_own N5.i (by first | decide | simp)) ⟨_, rfl, ?_⟩
    have : SS.out st.np (l.take (i + 1)) = fset (SS.out st.np (l.take i)) v (-1) := by
      unfold SS.out; rw [List.take_add_one, hv, List.foldl_append]; rfl
    rw [this]; exact S6
  · rintro vv σ5 ⟨b1, rfl, S5⟩ X5
    rw [List.take_length] at S5
    have ht5 : σ5 t = some (0, .tuple l) := X5 _ _ _ ht1 (by first | decide | simp)
    repeat walk_at "st"
    refine W_getAttr S5.x S5.dx (lw.K ▸ a_ready) sAttrs_nd (by walk_at "mem") ?_
    repeat walk_at "st"
    intro pl
    have hb5 : σ5 b = some (1, .list l) := by
      have := S5.rdy
      dsimp only at this
      rw [hr] at this
      obtain ⟨b', q1, q2⟩ := this
      cases q1; exact q2
    refine W_meth_list F.slot_list_clear F.type_list_clear hb5 ?_
    repeat walk_at "st"
    refine ⟨Kp.builtin, W_clear hb5 (by omega) (fun σ6 e6 => ?_)⟩
    have S6 := S5.setReady (l' := []) hr rfl
    rw [← e6] at S6
    have X6 : Ext [1] σ5 σ6 := by rw [e6]; exact Ext.upd_own hb5 (by first | decide | simp)
    repeat walk_at "st"
    refine W_getAttr S6.x S6.dx (lw.K ▸ a_npass) sAttrs_nd (by walk_at "mem") ?_
    repeat walk_at "st"
    refine ⟨Kp.builtin, W_len_tuple (X6 _ _ _ ht5 (by first | decide | simp)) (by omega) (fun t2 => ?_)⟩
    repeat walk_at "st"
    refine W_setAttr S6.x S6.dx (lw.K ▸ a_npass) (.there (.there .here)) sAttrs_nd (by first | decide | simp) ?_
    have S7 := S6.setAttrs (st' := st.getReady l) (rv' := .ref b) rfl rfl rfl S6.rdy
    repeat walk_at "st"
    refine h t _ h0 ?_ ?_ S7
    · exact X1.nil.trans (X5.trans (X6.trans (Ext.upd_own S6.dx (by first | decide | simp))))
    · rw [upd_ne (fun q => by have := S6.dx; rw [← q, X6 _ _ _ ht5 (by first | decide | simp)] at this; cases this)]
      exact X6 _ _ _ ht5 (by first | decide | simp)
end
end Mine.Internal

namespace Mine.Internal
open PySem PySem.W PyProof.Rows PySem.Calls

section
variable {c : Cx} {A : Around} {E : Value → AS → Prop} {fs : List Frm} {σ : Addr → Option (Nat × Cell)} {g : Array GenState} {d : Nat} {x dx nd : Addr} {rv : AV} {as : List NAd} {ep : Nat} {st : SS}

set_option maxHeartbeats 4000000 in
theorem done_spec {us : List Value} {l : List AV} {N : Nat} {R : Result → AS → Prop} (lw : Lw c) (hA : AOk A fs (d + 1)) (S : SAt σ x st dx nd rv as ep) (hr : st.ready.isSome = true) (hN : ∀ k, (st.su k).length ≤ N) (hz : st.rl + N * (l.length + 1) ≤ 1000000) (hlz : l.length ≤ 1000000)
    (hus : us.map er = l) (hk : ∀ k ∈ l, k ∈ st.keys) (hsu : ∀ k s, s ∈ st.su k → s ∈ st.keys) (hgood : ∀ i k, l[i]? = some k → (st.done (l.take i)).np k = -1)
    (h : ∀ σ', Ext [1] σ σ' → SAt σ' x (st.done l) dx nd rv as ep → R (.ok (.ret .none)) ⟨fs, σ', g⟩) :
    Wk c A (.call (.ref 120) ⟨.ref x :: us, []⟩) R ⟨fs, σ, g⟩ := by
  obtain ⟨l0, hl0⟩ := Option.isSome_iff_exists.mp hr
  have rd := S.rdy
  rw [hl0] at rd
  obtain ⟨b, rfl, hb⟩ := rd
  obtain ⟨tO, gO⟩ := lw.NODE_OUT
  obtain ⟨tD, gD⟩ := lw.NODE_DONE
  have hlen : us.length = l.length := by rw [← hus]; simp
  refine Wk_call_GS (pre := [.ref x]) (rest := us) lw.K (ns := ["self", "nodes", "n2i", "node", "nodeinfo", "stat", "successor", "successor_info"]) (us := [.ref x]) (vs := fun t => [some (.ref x), some (.ref t), none, none, none, none, none, none])
    (gs := [("ValueError", .type "ValueError"), ("_NODE_OUT", .int (-1) tO), ("_NODE_DONE", .int (-2) tD)]) fn_done rfl bind_done rfl (fun t => .cons (.cons (.rest (.rest (.rest (.rest (.rest (.rest .nil)))))))) (by simp [lw.ValueError, gO, gD]) hA (by rw [hlen]; exact hlz) (fun L env t σ1 B P X hfr hh ht e1 hL hA' hout hE hFx hUx => ?_)
  rw [hus] at e1
  have X1 : Ext [] σ σ1 := by rw [e1]; exact Ext.upd_new ht
  have S1 := S.ext X1 (by simp) (by simp)
  have ht1 : σ1 t = some (0, .tuple l) := by rw [e1]; exact upd_self
  refine W_consG (fun _ _ => ?_)
  repeat walk_at "st"
  refine W_getAttr S1.x S1.dx (lw.K ▸ a_ready) sAttrs_nd (by walk_at "mem") ?_
  repeat walk_at "st"
  refine W_getAttr S1.x S1.dx (lw.K ▸ a_node2info) sAttrs_nd (by walk_at "mem") ?_
  repeat walk_at "st"
  refine W_cutN (fun a' => ∃ vv σ', a' = ⟨⟨L, [], ["self", "nodes", "n2i", "node", "nodeinfo", "stat", "successor", "successor_info"], vv⟩ :: fs, σ', g⟩ ∧ Ext [1] σ1 σ' ∧ SAt σ' x (st.done l) dx nd (.ref b) as ep) ?_ ?_
  rotate_left
  · rintro a' ⟨vv, σ', rfl, X, S⟩
    repeat walk_at "st"
    exact h σ' (X1.nil.trans X) S
  intro Pc hPc
  refine W_For ?_
  repeat walk_at "st"
  refine W_iter_tuple ht1 (fun it h1 σ2 e2 => ?_)
  refine Wk_loopG (IterOf.tuple (k := 0) hh) [1] (by simp) (by simp)
    (fun i vv σ => ∃ b1 b2 b3 b4 b5, vv = [some (.ref x), some (.ref t), some (.ref nd), b1, b2, b3, b4, b5] ∧ SAt σ x (st.done (l.take i)) dx nd (.ref b) as ep)
    (fun i vv σ σ' ⟨b1, b2, b3, b4, b5, hv, S⟩ X => ⟨b1, b2, b3, b4, b5, hv, S.ext X (by simp) (by simp)⟩) h1 e2
    (by rw [e2, upd_ne (fun q => by rw [← q, ht1] at h1; cases h1)]; exact ht1) ⟨_, _, _, _, _, rfl, S1⟩ ?_ ?_
  · rintro i k vv σ5 u5 P5 E5 hP5 hE5 ⟨b1, b2, b3, b4, b5, rfl, S5⟩ hv eu hsrc X5
    obtain ⟨q1, q2, q3, q4, q5, q6⟩ := SS.done_same (l := l.take i) hN
    generalize hst5 : st.done (l.take i) = st5 at *
    have hkm : k ∈ st5.keys := by rw [q1]; exact hk k (List.mem_of_getElem? hv)
    have hkey := S5.key k hkm
    have hnp := hgood i k hv
    rw [hst5] at hnp
    obtain ⟨j, p, hj, hp, hg⟩ := S5.find hkm
    have N5 := S5.nds j p k hp hj
    repeat walk_at "st"
    intro pl
    refine W_meth_dict F.slot_dict_get F.type_dict_get S5.nd ?_
    repeat walk_at "st"
    rw [eu]
    refine All.key hkey fun u6 e6 => ?_
    repeat walk_at "st"
    refine ⟨Kp.builtin, W_dict_get S5.nd (by rw [e6]; exact hkey) ?_⟩
    rw [e6, hg]
    show All (.ref p.i) _
    repeat walk_at "st"
    refine W_getSlot N5.i N5.d (lw.K ▸ sl_np) (by rfl) ?_
    rw [hnp]
    repeat walk_at "st"
    refine W_setSlot N5.i N5.d (lw.K ▸ sl_np) (by decide) ?_
    have S6 := S5.setNp (n := -2) hj hp
    have X6 : Ext [1] σ5 (upd σ5 p.i (some (1, .inst CNI p.d [some k, some (.int (-2)), some (.ref p.s)]))) := Ext.upd_own N5.i (by simp)
    generalize e7 : upd σ5 p.i _ = σ6
    have e7' : upd σ5 p.i (some (1, .inst CNI p.d [some k, some (.int (-2)), some (.ref p.s)])) = σ6 := e7
    rw [e7'] at S6 X6
    have N6 := S6.nds j p k hp hj
    dsimp only at N6
    repeat walk_at "st"
    refine W_cutN (fun a' => ∃ b4 b5 σ', a' = ⟨⟨L, [], ["self", "nodes", "n2i", "node", "nodeinfo", "stat", "successor", "successor_info"], [some (.ref x), some (.ref t), some (.ref nd), some k, some (.ref p.i), some (.int (-1)), b4, b5]⟩ :: fs, σ', g⟩ ∧ Ext [1] σ6 σ' ∧ SAt σ' x ((st5.su k).foldl (fun s p => s.dec p) { st5 with np := fset st5.np k (-2) }) dx nd (.ref b) as ep) ?_ ?_
    rotate_left
    · rintro a' ⟨b4', b5', σ7, rfl, X7, S7⟩
      repeat walk_at "st"
      refine W_getAttr S7.x S7.dx (lw.K ▸ a_nfin) sAttrs_nd (by walk_at "mem") ?_
      repeat walk_at "st"
      refine W_setAttr S7.x S7.dx (lw.K ▸ a_nfin) (.there (.there (.there .here))) sAttrs_nd (by simp) ?_
      repeat walk_at "st"
      have S8 := S7.setAttrs (st' := st5.done1 k) (rv' := .ref b) rfl rfl rfl S7.rdy
      refine hP5.nx _ _ (X6.trans (X7.trans (Ext.upd_own S7.dx (by simp)))) ⟨_, _, _, _, _, rfl, ?_⟩
      have : st.done (l.take (i + 1)) = st5.done1 k := by rw [List.take_add_one, hv, ← hst5]; exact SS.done_snoc
      rw [this]; exact S8
    intro Pd hPd
    refine W_For ?_
    repeat walk_at "st"
    refine W_getSlot N6.i N6.d (lw.K ▸ sl_su) (by rfl) ?_
    repeat walk_at "st"
    refine W_iter_list N6.s (fun it6 h6 σ7 e8 => ?_)
    refine Wk_loopG (IterOf.list (k := 2) hh) [1] (by simp) (by simp)
      (fun i vv σ => ∃ b4 b5, vv = [some (.ref x), some (.ref t), some (.ref nd), some k, some (.ref p.i), some (.int (-1)), b4, b5] ∧ SAt σ x (((st5.su k).take i).foldl (fun s p => s.dec p) { st5 with np := fset st5.np k (-2) }) dx nd (.ref b) as ep)
      (fun i vv σ σ' ⟨b4, b5, hv, S⟩ X => ⟨b4, b5, hv, S.ext X (by simp) (by simp)⟩) h6 e8
      (by rw [e8, upd_ne (fun q => by rw [← q, N6.s] at h6; cases h6)]; exact N6.s) ⟨_, _, rfl, S6⟩ ?_ ?_
    · rintro i7 v vv σ8 u8 P8 E8 hP8 hE8 ⟨b4', b5', rfl, S8⟩ hv8 eu8 hsrc8 X8
      have hvm := List.mem_of_getElem? hv8
      obtain ⟨r1, r2, r3, r4, r5⟩ := SS.decs_same (l := (st5.su k).take i7) (st := { st5 with np := fset st5.np k (-2) })
      have rrl := SS.decs_rl (l := (st5.su k).take i7) (st := { st5 with np := fset st5.np k (-2) })
      generalize hst8 : ((st5.su k).take i7).foldl (fun s p => s.dec p) { st5 with np := fset st5.np k (-2) } = st8 at *
      have hvk : v ∈ st8.keys := by rw [r1]; dsimp only; rw [q1]; exact hsu k v (by rw [← q2]; exact hvm)
      have hvkey := S8.key v hvk
      obtain ⟨j8, p8, hj8, hp8, hg8⟩ := S8.find hvk
      have N8 := S8.nds j8 p8 v hp8 hj8
      repeat walk_at "st"
      rw [eu8]
      refine All.key hvkey fun u9 e9 => ?_
      repeat walk_at "st"
      refine ⟨noGet_dict S8.nd, W_dict_item S8.nd (by rw [e9]; exact hvkey) (by rw [e9]; exact hg8) ?_⟩
      repeat walk_at "st"
      refine W_getSlot N8.i N8.d (lw.K ▸ sl_np) (by rfl) ?_
      repeat walk_at "st"
      refine W_setSlot N8.i N8.d (lw.K ▸ sl_np) (by decide) ?_
      have S9 := S8.setNp (n := st8.np v - 1) hj8 hp8
      have X9 : Ext [1] σ8 (upd σ8 p8.i (some (1, .inst CNI p8.d [some v, some (.int (st8.np v - 1)), some (.ref p8.s)]))) := Ext.upd_own N8.i (by simp)
      generalize e10 : upd σ8 p8.i _ = σ9
      have e10' : upd σ8 p8.i (some (1, .inst CNI p8.d [some v, some (.int (st8.np v - 1)), some (.ref p8.s)])) = σ9 := e10
      rw [e10'] at S9 X9
      have N9 := S9.nds j8 p8 v hp8 hj8
      dsimp only at N9
      rw [fset_self] at N9
      repeat walk_at "st"
      refine W_getSlot N9.i N9.d (lw.K ▸ sl_np) (by rfl) ?_
      repeat walk_at "st"
      have fin : ∀ σ', Ext [1] σ9 σ' → SAt σ' x (st8.dec v) dx nd (.ref b) as ep → P8 .next ⟨⟨L, [], ["self", "nodes", "n2i", "node", "nodeinfo", "stat", "successor", "successor_info"], [some (.ref x), some (.ref t), some (.ref nd), some k, some (.ref p.i), some (.int (-1)), some v, some (.ref p8.i)]⟩ :: fs, σ', g⟩ := fun σ' X S => by
        refine hP8.nx _ _ (X9.trans X) ⟨_, _, rfl, ?_⟩
        rw [List.take_add_one, hv8, List.foldl_append, hst8]; exact S
      by_cases hz0 : st8.np v - 1 = 0
      · have : (st8.np v - 1 == 0) = true := by simp [hz0]
        simp only [this, if_true]
        have hrs : st8.ready.isSome = true := by
          rcases r3 with r3 | r3
          · rw [r3]; exact q3 hr
          · exact r3
        obtain ⟨l8, hl8⟩ := Option.isSome_iff_exists.mp hrs
        have hb9 : σ9 b = some (1, .list l8) := by
          have := S9.rdy
          dsimp only at this
          rw [hl8] at this
          obtain ⟨b', w1, w2⟩ := this
          cases w1; exact w2
        have hlen8 : l8.length ≤ 1000000 := by
          have e1 : st8.rl = l8.length := by unfold SS.rl; rw [hl8]; rfl
          have e2 : ({ st5 with np := fset st5.np k (-2) } : SS).rl = st5.rl := rfl
          have e3 := hN k
          have e4 : ((st5.su k).take i7).length ≤ N := by rw [q2]; exact Nat.le_trans (by rw [List.length_take]; exact Nat.min_le_right ..) e3
          have e5 : (l.take i).length ≤ l.length := by rw [List.length_take]; exact Nat.min_le_right ..
          have e6 := Nat.mul_le_mul_left N e5
          rw [Nat.mul_succ] at hz
          omega
        repeat walk_at "st"
        refine W_getAttr S9.x S9.dx (lw.K ▸ a_ready) sAttrs_nd (by walk_at "mem") ?_
        repeat walk_at "st"
        intro pl
        refine W_meth_list F.slot_list_append F.type_list_append hb9 ?_
        repeat walk_at "st"
        refine All.key hvkey fun ua ea => ?_
        repeat walk_at "st"
        refine ⟨Kp.builtin, W_append hb9 hlen8 (fun σa ea2 => ?_)⟩
        rw [ea] at ea2
        repeat walk_at "st"
        have Sa := S9.setReady (l' := l8 ++ [v]) hl8 rfl
        rw [← ea2] at Sa
        refine fin σa (by rw [ea2]; exact Ext.upd_own hb9 (by simp)) ?_
        have : st8.dec v = { st8 with np := fset st8.np v (st8.np v - 1), ready := some (l8 ++ [v]) } := by unfold SS.dec; rw [if_pos hz0, hl8]; rfl
        rw [this]; exact Sa
      · have : (st8.np v - 1 == 0) = false := by simp [hz0]
        simp only [this, Bool.false_eq_true, if_false]
        repeat walk_at "st"
        refine fin σ9 Ext.refl ?_
        have : st8.dec v = { st8 with np := fset st8.np v (st8.np v - 1) } := by unfold SS.dec; rw [if_neg hz0]
        rw [this]; exact S9
    · rintro vv σ8 ⟨b4', b5', rfl, S8⟩ X8
      rw [List.take_length] at S8
      exact hPd _ ⟨_, _, σ8, rfl, X8, S8⟩
  · rintro vv σ5 ⟨b1, b2, b3, b4, b5, rfl, S5⟩ X5
    rw [List.take_length] at S5
    exact hPc _ ⟨_, σ5, rfl, X5, S5⟩
end
end Mine.Internal

namespace Mine.Internal
open PySem PySem.W PyProof.Rows PySem.Calls

@[reducible] noncomputable def fcF (L x nd K I N D : Addr) (b : Option AV) : Frm := ⟨L, [], ["self", "n2i", "stack", "itstack", "seen", "node2stacki", "node"], [some (.ref x), some (.ref nd), some (.ref K), some (.ref I), some (.ref N), some (.ref D), b]⟩

/-- the ring given back -/
noncomputable def FcRet (L x nd K I N D : Addr) (fs : List Frm) (g : Array GenState) (st : SS) (σ : Addr → Option (Nat × Cell)) (v : Value) (a' : AS) : Prop :=
  ∃ b r l σ', a' = ⟨fcF L x nd K I N D b :: fs, σ', g⟩ ∧ v = .ref l ∧ RingRes st.keys st.su (some r) ∧ r.length ≤ st.keys.length + 1 ∧ Ext [3, 4, 8] σ σ' ∧ σ' l = some (0, .list r)

section
variable {c : Cx} {A : Around} {E : Value → AS → Prop} {fs : List Frm} {σ : Addr → Option (Nat × Cell)} {g : Array GenState} {d : Nat} {x dx nd : Addr} {rv : AV} {as : List NAd} {ep : Nat} {st : SS}

set_option maxHeartbeats 4000000 in
theorem find_cycle_spec {Q : Value → AS → Prop} (lw : Lw c) (hA : AOk A fs (d + 1)) (S : SAt σ x st dx nd rv as ep) (hsu : ∀ k s, s ∈ st.su k → s ∈ st.keys) (hz : st.keys.length < 4000) (hzs : ∀ k, (st.su k).length ≤ 100000)
    (hN : ∀ σ', RingRes st.keys st.su none → Ext [3, 4, 8] σ σ' → Q .none ⟨fs, σ', g⟩)
    (hS : ∀ r l σ', RingRes st.keys st.su (some r) → r.length ≤ st.keys.length + 1 → Ext [3, 4, 8] σ σ' → σ' l = some (0, .list r) → Q (.ref l) ⟨fs, σ', g⟩) :
    W c A (call (.ref 127) [.ref x]) Q E ⟨fs, σ, g⟩ := by
  refine W_call_G lw.K (ns := ["self", "n2i", "stack", "itstack", "seen", "node2stacki", "node"]) (us := [.ref x]) (gs := [("set", .type "set"), ("iter", .builtin "iter"), ("len", .builtin "len"), ("StopIteration", .type "StopIteration")]) fn_find rfl (by kernel_rfl) rfl (.cons (.rest (.rest (.rest (.rest (.rest (.rest .nil))))))) (by simp [lw.set, lw.iter, lw.len, lw.StopIteration]) hA (fun L env B P X0 hfr hh hL hA' hout hE hFx hUx => ?_)
  refine W_consG (fun _ _ => ?_)
  repeat walk_at "st"
  refine W_getAttr S.x S.dx (lw.K ▸ a_node2info) sAttrs_nd (by walk_at "mem") ?_
  repeat walk_at "st"
  refine W_newList 3 (by first | decide | simp) (fun K hK σ1 e1 => ?_)
  repeat walk_at "st"
  refine W_newList 3 (by first | decide | simp) (fun I hI σ2 e2 => ?_)
  repeat walk_at "st"
  refine ⟨Kp.type, W_set0 3 (fun N hNn σ3 e3 => ?_)⟩
  repeat walk_at "st"
  refine W_Dict_nil (W_newDict 3 (fun D hD σ4 e4 => ?_))
  repeat walk_at "st"
  have X1 : Ext [] σ σ1 := by rw [e1]; exact Ext.upd_new hK
  have X2 : Ext [] σ1 σ2 := by rw [e2]; exact Ext.upd_new hI
  have X3 : Ext [] σ2 σ3 := by rw [e3]; exact Ext.upd_new hNn
  have X4 : Ext [] σ3 σ4 := by rw [e4]; exact Ext.upd_new hD
  have X : Ext [] σ σ4 := X1.trans (X2.trans (X3.trans X4))
  have DA : DAt σ4 st.su K I D N [] (fun _ => false) 0 0 := by
    refine ⟨X4 _ _ _ (X3 _ _ _ (X2 _ _ _ (by rw [e1]; exact upd_self) (by first | decide | simp)) (by first | decide | simp)) (by first | decide | simp), X4 _ _ _ (X3 _ _ _ (by rw [e2]; exact upd_self) (by first | decide | simp)) (by first | decide | simp), by rw [e4]; exact upd_self, X4 _ _ _ (by rw [e3]; exact upd_self) (by first | decide | simp), by simp, by simp, by simp, .nil, fun q => ?_⟩
    rw [← q, e1, upd_self] at hI; cases hI
  have S4 := S.ext X (by first | decide | simp) (by first | decide | simp)
  have F0 : ∀ key, FC σ4 x st dx nd rv as ep K I D N (st.keys.take 0) key [] (fun _ => false) 0 0 := fun key =>
    ⟨S4, DA, ⟨fun v q => (by cases q), fun v q => (by cases q), fun v q => (by cases q), .nil, .inl rfl⟩, (by rw [List.filter_eq_nil_iff.mpr (fun _ _ q => by cases q)]; rfl), fun v q => (by cases q)⟩
  clear e1 e2 e3 e4 hK hI hNn hD X1 X2 X3 X4
  refine W_cutG (fun f a' => match f with
    | .next => ∃ b σ', a' = ⟨fcF L x nd K I N D b :: fs, σ', g⟩ ∧ Ext [3, 4, 8] σ4 σ' ∧ RingRes st.keys st.su none
    | .ret v => FcRet L x nd K I N D fs g st σ4 v a'
    | _ => False) ?_ ?_
  rotate_left
  · intro f a' hf
    cases f with
    | next =>
      obtain ⟨b, σ', rfl, X', r⟩ := hf
      repeat walk_at "st"
      exact hN σ' r (X.nil.trans X')
    | ret v =>
      obtain ⟨b, r, l, σ', rfl, rfl, hr, hrl, X', hl'⟩ := hf
      repeat walk_at "st"
      exact hS r l σ' hr hrl (X.nil.trans X') hl'
    | brk => exact hf.elim
    | cont => exact hf.elim
  intro P1 hP1
  refine W_For ?_
  repeat walk_at "st"
  refine W_iter_dict S4.nd (fun it h0 σ5 e5 => ?_)
  refine Wk_loopG (IterOf.dictKeys (k := 1) hh (fun p hp => S.key p.1 (List.of_mem_zip hp).1)) [3, 4, 8] (by first | decide | simp) (by first | decide | simp)
    (fun i vv σ' => ∃ b seen cnt ep', vv = [some (.ref x), some (.ref nd), some (.ref K), some (.ref I), some (.ref N), some (.ref D), b] ∧ ∀ key, FC σ' x st dx nd rv as ep K I D N (st.keys.take i) key [] seen cnt ep')
    (fun i vv σ σ' ⟨b, seen, cnt, ep', hv, F⟩ X => ⟨b, seen, cnt, ep', hv, fun key => (F key).ext X (by first | decide | simp) (by first | decide | simp) (by first | decide | simp) (by first | decide | simp)⟩) h0 e5
    (by rw [e5, upd_ne (fun q => by rw [← q, S4.nd] at h0; cases h0)]; exact S4.nd) ⟨_, fun _ => false, 0, 0, rfl, F0⟩ ?_ ?_
  · rintro i key vv σ6 u6 P6 E6 hP6 hE6 ⟨b, seen, cnt, ep', rfl, F⟩ hv eu hsrc X6
    have hlz : (st.keys.zip (as.map fun p => AV.ref p.i)).map (·.1) = st.keys := by
      rw [List.map_fst_zip]; simp [S.len]
    rw [hlz] at hv
    have hkm : key ∈ st.keys := List.mem_of_getElem? hv
    have hkey := S.key key hkm
    obtain ⟨hil, hie⟩ := List.getElem?_eq_some_iff.mp hv
    have htk : st.keys.take (i + 1) = st.keys.take i ++ [key] := by rw [List.take_add_one, hv]; rfl
    have hsplit : st.keys = st.keys.take i ++ key :: st.keys.drop (i + 1) := by
      rw [← hie, List.getElem_cons_drop, List.take_append_drop]
    have F6 := F key
    repeat walk_at "st"
    rw [eu]
    refine All.key hkey fun u7 e7 => ?_
    repeat walk_at "st"
    refine W_in_set F6.D.hN (by have := F6.lt hz; omega) (by rw [e7]; exact hkey) ?_
    rw [e7]
    have next : ∀ seen cnt ep' (σ7 : Addr → Option (Nat × Cell)), FC σ7 x st dx nd rv as ep K I D N (st.keys.take i) key [] seen cnt ep' → ¬ Stay st.su key →
        ∀ key', FC σ7 x st dx nd rv as ep K I D N (st.keys.take (i + 1)) key' [] seen cnt ep' := fun seen cnt ep' σ7 F7 hn key' =>
      ⟨F7.S, F7.D, ⟨F7.dfs.fin, F7.dfs.on, fun k hk => by
        rw [htk] at hk
        rcases List.mem_append.mp hk with hk | hk
        · exact F7.dfs.pre k hk
        · rw [List.mem_singleton.mp hk]; exact hn, .nil, .inl rfl⟩, F7.cnt, F7.sk⟩
    cases hsk : seen key
    · repeat walk_at "st"
      refine W_cutG (fun f a' => match f with
        | .next => ∃ b seen cnt ep' σ', a' = ⟨fcF L x nd K I N D b :: fs, σ', g⟩ ∧ Ext [3, 4, 8] σ6 σ' ∧ FC σ' x st dx nd rv as ep K I D N (st.keys.take i) key [] seen cnt ep' ∧ ¬ Stay st.su key
        | .ret v => FcRet L x nd K I N D fs g st σ6 v a'
        | _ => False) ?_ ?_
      rotate_left
      · intro f a' hf
        cases f with
        | next =>
          obtain ⟨b, seen, cnt, ep', σ', rfl, X', F', hn⟩ := hf
          repeat walk_at "st"
          exact hP6.nx _ σ' X' ⟨b, seen, cnt, ep', rfl, next _ _ _ _ F' hn⟩
        | ret v =>
          obtain ⟨b, r, l, σ', rfl, rfl, hr, hrl, X', hl'⟩ := hf
          repeat walk_at "st"
          exact hP6.re _ _ (hP1 (.ret _) _ ⟨b, r, l, σ', rfl, rfl, hr, hrl, X6.trans X', hl'⟩)
        | brk => exact hf.elim
        | cont => exact hf.elim
      intro P2 hP2
      refine W_WhileG (fun n a => ∃ v es seen cnt ep' σ', a = ⟨fcF L x nd K I N D (some v) :: fs, σ', g⟩ ∧ n = meas st es seen ∧ Ext [3, 4, 8] σ6 σ' ∧ FC σ' x st dx nd rv as ep K I D N (st.keys.take i) key es seen cnt ep' ∧
        TopIs st.su key (es.map fun e => (e.v, e.n)) v ∧ v ∈ st.keys ∧ (es = [] → seen v = false)) ?_ (meas st [] seen) ⟨key, [], seen, cnt, ep', σ6, rfl, rfl, Ext.refl, F6, rfl, hkm, fun _ => hsk⟩
      clear next hsk F6 F hsrc
      rintro n a P7 E7 hP7 hE7 ⟨v, es, seen, cnt, ep', σ7, rfl, rfl, X7, F7, T7, hvm, hnil⟩
      have hvk := S.key v hvm
      refine W_isTrue_any (W_Const_bool (W_truthy_bool (ite_t rfl ?_)))
      refine W_consG (fun P8 hP8 => W_cutG (fun f a' => match f with
        | .next => ∃ es' seen' cnt' ep'' σ', a' = ⟨fcF L x nd K I N D (some v) :: fs, σ', g⟩ ∧ meas st es' seen' ≤ meas st es seen ∧ Ext [3, 4, 8] σ6 σ' ∧ FC σ' x st dx nd rv as ep K I D N (st.keys.take i) key es' seen' cnt' ep'' ∧ RestIs st.su (es'.map fun e => (e.v, e.n)) ∧ es' ≠ []
        | .ret v => FcRet L x nd K I N D fs g st σ6 v a'
        | _ => False) ?_ ?_)
      · intro P9 hP9
        have hlt := F7.lt hz
        have hel := F7.len
        have N7 := F7.D
        repeat walk_at "st"
        refine All.key hvk fun u8 e8 => ?_
        repeat walk_at "st"
        refine W_in_set N7.hN (by omega) (by rw [e8]; exact hvk) ?_
        rw [e8]
        cases hsv : seen v
        · repeat walk_at "st"
          intro pl
          refine W_meth_set_add N7.hN (by omega) ?_
          repeat walk_at "st"
          refine All.key hvk fun u9 e9 => ?_
          repeat walk_at "st"
          refine ⟨Kp.builtin, W_set_add N7.hN (by omega) (by rw [e9]; exact hvk) (fun σ8 e10 => ?_)⟩
          rw [e9, hsv] at e10
          have hKN : K ≠ N := fun z => by have := N7.hK; rw [z, N7.hN] at this; cases this
          have hIN : I ≠ N := fun z => by have := N7.hI; rw [z, N7.hN] at this; cases this
          have hDN : D ≠ N := fun z => by have := N7.hD; rw [z, N7.hN] at this; cases this
          have hDK : D ≠ K := fun z => by have := N7.hD; rw [z, N7.hK] at this; cases this
          have hDI : D ≠ I := fun z => by have := N7.hD; rw [z, N7.hI] at this; cases this
          have hI8 : σ8 I = some (3, .list (es.map fun e => AV.ref e.m).reverse) := by rw [e10, upd_ne hIN]; exact N7.hI
          have X8 : Ext [3] σ7 σ8 := by rw [e10]; exact Ext.upd_own N7.hN (by first | decide | simp)
          have S8 := F7.S.ext X8 (by first | decide | simp) (by first | decide | simp)
          obtain ⟨j, p, hj, hp, hg⟩ := S8.find hvm
          have N8 := S8.nds j p v hp hj
          repeat walk_at "st"
          intro pl2
          refine W_meth_list F.slot_list_append F.type_list_append hI8 ?_
          repeat walk_at "st"
          refine All.key hvk fun u10 e11 => ?_
          refine ⟨noGet_dict S8.nd, W_dict_item S8.nd (by rw [e11]; exact hvk) (by rw [e11]; exact hg) ?_⟩
          repeat walk_at "st"
          refine W_getSlot N8.i N8.d (lw.K ▸ sl_su) (by rfl) ?_
          repeat walk_at "st"
          refine ⟨Kp.builtin, W_iter_call 4 N8.s (fun it8 h9 σ9 e12 => ?_)⟩
          refine W_next_attr 3 (by rw [e12]; exact upd_self) (fun m hm9 hmit σ10 e13 => ?_)
          repeat walk_at "st"
          have X10 : ∀ y q, σ8 y = some q → σ10 y = some q := fun y q hq => by
            have n1 : y ≠ it8 := fun z => by rw [z, h9] at hq; cases hq
            have n2 : y ≠ m := fun z => by rw [z] at hq n1; rw [e12, upd_ne n1, hq] at hm9; cases hm9
            rw [e13, upd_ne n2, upd_ne n1, e12, upd_ne n1]; exact hq
          have hI10 := X10 _ _ hI8
          have hpl : (es.map fun e => AV.ref e.m).reverse.length ≤ 4000 := by simp; omega
          have hpl2 : (es.map (·.v)).reverse.length ≤ 4000 := by simp; omega
          refine ⟨Kp.builtin, W_append hI10 (by omega) (fun σ11 e14 => ?_)⟩
          have hK11 : σ11 K = some (3, .list (es.map (·.v)).reverse) := by rw [e14, upd_ne N7.KI]; exact X10 _ _ (by rw [e10, upd_ne hKN]; exact N7.hK)
          have hD11 : σ11 D = some (3, .dict (idxs (es.map (·.v)).reverse) ep') := by rw [e14, upd_ne hDI]; exact X10 _ _ (by rw [e10, upd_ne hDN]; exact N7.hD)
          repeat walk_at "st"
          refine ⟨Kp.builtin, W_len_list hK11 (by omega) ?_⟩
          intro t11
          repeat walk_at "st"
          refine All.key hvk fun u12 e15 => ?_
          refine W_dict_set hD11 (by rw [e15]; exact hvk) (by unfold idxs; rw [idxsFrom_len]; omega) (fun ep2 σ12 e16 => ?_)
          have hnon : v ∉ (es.map (·.v)).reverse := fun z => by
            have := F7.dfs.on v (by rw [List.map_map]; simpa using z)
            rw [hsv] at this; cases this
          rw [e15, show er (Value.int ((es.map (·.v)).reverse.length : Nat) t11) = AV.int ((es.map (·.v)).reverse.length : Nat) from rfl, dset_idxs hnon] at e16
          have hK12 : σ12 K = some (3, .list (es.map (·.v)).reverse) := by rw [e16, upd_ne (Ne.symm hDK)]; exact hK11
          repeat walk_at "st"
          intro pl3
          refine W_meth_list F.slot_list_append F.type_list_append hK12 ?_
          repeat walk_at "st"
          refine All.key hvk fun u13 e17 => ?_
          repeat walk_at "st"
          refine ⟨Kp.builtin, W_append hK12 (by omega) (fun σ13 e18 => ?_)⟩
          rw [e17] at e18
          repeat walk_at "st"
          have X13 : Ext [3] σ7 σ13 := by
            refine X8.trans (Ext.trans (σ' := σ10) (fun y k cl h _ => X10 y _ h) ?_)
            rw [e18]
            refine Ext.trans ?_ (Ext.upd_own hK12 (by first | decide | simp))
            rw [e16]
            refine Ext.trans ?_ (Ext.upd_own hD11 (by first | decide | simp))
            rw [e14]; exact Ext.upd_own hI10 (by first | decide | simp)
          have hit8 : σ13 it8 = some (4, iterCell "list_iterator" p.s 0) := by
            have n : ∀ {y c' cl}, σ8 y = some (c', cl) → it8 ≠ y := fun hy z => by rw [← z, h9] at hy; cases hy
            rw [e18, upd_ne (n (y := K) (by rw [e10, upd_ne hKN]; exact N7.hK)), e16, upd_ne (n (y := D) (by rw [e10, upd_ne hDN]; exact N7.hD)), e14, upd_ne (n hI8), e13, upd_ne (Ne.symm hmit)]; exact upd_self
          have hm13 : σ13 m = some (3, wrapCell it8) := by
            have n : ∀ {y q}, σ8 y = some q → m ≠ y := fun {y q} hy z => by
              have n1 : y ≠ it8 := fun z => by rw [z, h9] at hy; cases hy
              rw [z, e12, upd_ne n1, hy] at hm9; cases hm9
            rw [e18, upd_ne (n (y := K) (by rw [e10, upd_ne hKN]; exact N7.hK)), e16, upd_ne (n (y := D) (by rw [e10, upd_ne hDN]; exact N7.hD)), e14, upd_ne (n hI8), e13]; exact upd_self
          have P := F7.dfs.push T7 hsv
          have hcnt := (filter_mark (fun _ => 0) F7.S.knd hvm hsv).2
          refine hP9 .next _ ⟨⟨v, 0, m, it8, p.s⟩ :: es, _, _, ep2, σ13, rfl, Nat.le_of_lt (meas_push (e := ⟨v, 0, m, it8, p.s⟩) F7.S.knd hvm hsv rfl), X7.trans (X13.mono (by first | decide | simp)), ⟨F7.S.ext X13 (by first | decide | simp) (by first | decide | simp), ?_, P.1, hcnt.symm ▸ congrArg (· + 1) F7.cnt, ?_⟩, P.2, by simp⟩
          · refine N7.push (e := ⟨v, 0, m, it8, p.s⟩) (fun y q n1 n2 n3 n4 hy => ?_) (by rw [e18]; exact upd_self) ?_ ?_ ?_ hm13 hit8 ?_ ?_
            · rw [e18, upd_ne n1, e16, upd_ne n3, e14, upd_ne n2]
              exact X10 _ _ (by rw [e10, upd_ne n4]; exact hy)
            · rw [e18, upd_ne (Ne.symm N7.KI), e16, upd_ne (Ne.symm hDI), e14]; exact upd_self
            · rw [e18, upd_ne hDK, e16]; exact upd_self
            · rw [e18, upd_ne (Ne.symm hKN), e16, upd_ne (Ne.symm hDN), e14, upd_ne (Ne.symm hIN)]
              exact X10 _ _ (by rw [e10]; exact upd_self)
            · exact X13 _ _ _ (F7.S.nds j p v hp hj).s (by first | decide | simp)
            · cases q : σ7 it8 with
              | none => rfl
              | some r =>
                exfalso
                by_cases z : it8 = N
                · rw [z, e10, upd_self] at h9; cases h9
                · rw [e10, upd_ne z, q] at h9; cases h9
          · intro y hy
            simp only [Bool.or_eq_true, decide_eq_true_eq] at hy
            rcases hy with hy | rfl
            · exact F7.sk y hy
            · exact hvm
        · repeat walk_at "st"
          refine All.key hvk fun u9 e9 => ?_
          repeat walk_at "st"
          refine W_in_dict N7.hD (by rw [e9]; exact hvk) ?_
          rw [e9]
          by_cases hon : v ∈ (es.map (·.v)).reverse
          · obtain ⟨p, q, hpq⟩ := List.append_of_mem hon
            have hnp : v ∉ p := fun w => by
              have h1 := F7.dfs.nd
              rw [List.map_map] at h1
              have h2 : (es.map (·.v)).reverse.Nodup := (List.reverse_perm _).nodup_iff.mpr h1
              rw [hpq] at h2
              exact (List.nodup_append.mp h2).2.2 v w v (List.mem_cons_self ..) rfl
            have hdg := dget_idxs hpq hnp
            rw [hdg]
            refine W_truthy_bool (ite_t rfl (W_consG fun _ _ => W_Return_some (W_BinOp (W_slice_from 9 ?_))))
            repeat walk_at "st"
            refine All.key hvk fun u10 e10 => ?_
            refine ⟨noGet_dict N7.hD, W_dict_item N7.hD (by rw [e10]; exact hvk) (by rw [e10]; exact hdg) ?_⟩
            intro t10
            have hpl : (es.map (·.v)).reverse.length ≤ 4000 := by simp; omega
            refine ⟨K, 3, _, _, _, rfl, rfl, N7.hK, by omega, by omega, by rw [hpq]; simp, fun l hl σ8 e11 => ?_⟩
            repeat walk_at "st"
            refine All.key hvk fun u11 e12 => ?_
            repeat walk_at "st"
            refine W_newList 9 (by first | decide | simp) (fun l2 hl2 σ9 e13 => ?_)
            have hll : l ≠ l2 := fun z => by rw [← z, e11, upd_self] at hl2; cases hl2
            refine W_list_add 0 (by rw [e13, upd_ne hll, e11]; exact upd_self) (by rw [e13]; exact upd_self) (by simp; omega) (fun l3 hl3 σ10 e14 => ?_)
            repeat walk_at "st"
            refine hP9 (.ret _) _ ⟨some v, _, l3, σ10, rfl, rfl, F7.dfs.ring T7 (by rw [List.map_map]; simpa using hon) hsplit (by rw [List.map_map]; exact hpq), ?_, X7.trans ?_, ?_⟩
            · have := congrArg List.length hpq
              simp at this ⊢; omega
            · rw [e14]
              refine Ext.trans ?_ (Ext.upd_new hl3)
              rw [e13]
              refine Ext.trans ?_ (Ext.upd_new hl2)
              rw [e11]; exact Ext.upd_new hl
            · rw [e14, upd_self, hpq]
              simp [e12]
          · rw [dget_idxs_none hon]
            repeat walk_at "st"
            exact hP9 .next _ ⟨es, seen, cnt, ep', σ7, rfl, Nat.le_refl _, X7, F7, F7.dfs.skip T7 hsv (by rw [List.map_map]; simpa using hon), fun q => by rw [hnil q] at hsv; cases hsv⟩
      · intro f a' hf
        cases f with
        | next =>
          obtain ⟨es', seen', cnt', ep'', σ', rfl, hme, X', F', R', hne⟩ := hf
          refine hP8.nx _ (W_consG fun P10 hP10 => W_cutG (fun f a' => match f with
            | .next => ∃ v' es' seen' cnt' ep'' σ', a' = ⟨fcF L x nd K I N D (some v') :: fs, σ', g⟩ ∧ meas st es' seen' < meas st es seen ∧ Ext [3, 4, 8] σ6 σ' ∧ FC σ' x st dx nd rv as ep K I D N (st.keys.take i) key es' seen' cnt' ep'' ∧ TopIs st.su key (es'.map fun e => (e.v, e.n)) v' ∧ v' ∈ st.keys ∧ es' ≠ []
            | .brk => ∃ b seen cnt ep' σ', a' = ⟨fcF L x nd K I N D b :: fs, σ', g⟩ ∧ Ext [3, 4, 8] σ6 σ' ∧ FC σ' x st dx nd rv as ep K I D N (st.keys.take i) key [] seen cnt ep' ∧ ¬ Stay st.su key
            | _ => False) ?_ ?_)
          rotate_left
          · intro f a' hf
            cases f with
            | next =>
              obtain ⟨v', es'', seen'', cnt'', ep3, σ'', rfl, hme', X'', F'', T'', hvm', hne'⟩ := hf
              repeat walk_at "st"
              exact hP7.nx _ ⟨_, hme', v', es'', seen'', cnt'', ep3, σ'', rfl, rfl, X'', F'', T'', hvm', fun q => absurd q hne'⟩
            | ret v => exact hf.elim
            | brk => exact hP10.br _ (hP7.br _ (hP2 .next _ hf))
            | cont => exact hf.elim
          intro P11 hP11
          refine W_WhileG (fun n a => ∃ es' seen' cnt' ep'' σ', a = ⟨fcF L x nd K I N D (some v) :: fs, σ', g⟩ ∧ n = es'.length ∧ meas st es' seen' ≤ meas st es seen ∧ Ext [3, 4, 8] σ6 σ' ∧ FC σ' x st dx nd rv as ep K I D N (st.keys.take i) key es' seen' cnt' ep'' ∧ RestIs st.su (es'.map fun e => (e.v, e.n)) ∧ (es' = [] → ¬ Stay st.su key)) ?_ es'.length
            ⟨es', seen', cnt', ep'', σ', rfl, rfl, hme, X', F', R', fun q => absurd q hne⟩
          clear hme X' F' R' hne T7 F7 hnil X7
          clear es' seen' cnt' ep'' σ'
          rintro n a P12 E12 hP12 hE12 ⟨es', seen', cnt', ep'', σ8, rfl, rfl, hme, X8, F8, R8, hnil⟩
          have hel := F8.len
          have N8 := F8.D
          repeat walk_at "st"
          refine W_truthy_list N8.hK (by simp; omega) ?_
          cases es' with
          | nil =>
            repeat walk_at "st"
            exact hP11 .brk _ ⟨some v, seen', cnt', ep'', σ8, rfl, X8, F8, hnil rfl⟩
          | cons e es' =>
            have hemp : (!(List.map (fun x => x.v) (e :: es')).reverse.isEmpty) = true := by simp
            rw [hemp]
            refine ite_t rfl (W_consG fun P13 hP13 => W_Try ?_)
            have hI8 : σ8 I = some (3, .list ((es'.map fun e => AV.ref e.m).reverse ++ [.ref e.m])) := by rw [N8.hI]; simp
            have hm8 := N8.hm e (List.mem_cons_self ..)
            have hit8 := N8.hit e (List.mem_cons_self ..)
            have hs8 := N8.hs e (List.mem_cons_self ..)
            repeat walk_at "st"
            refine W_Call_Sub ?_
            repeat walk_at "st"
            refine ⟨noGet_list N8.hI, W_last_list hI8 (by simp at hel ⊢; omega) ?_⟩
            repeat walk_at "st"
            refine ⟨Kp.wrap hm8, ?_⟩
            by_cases hi : e.n < (st.su e.v).length
            · have hx : (st.su e.v)[e.n]? = some (st.su e.v)[e.n] := by simp [hi]
              have hxm : (st.su e.v)[e.n] ∈ st.keys := hsu e.v _ (List.getElem_mem hi)
              refine W_wrap_item hm8 hit8 hs8 hx (fun σ9 u9 e9 eu9 => ?_)
              repeat walk_at "st"
              rw [eu9]
              obtain ⟨D1, T1⟩ := F8.dfs.item R8 hx
              refine hP12.br _ (hP11 .next _ ⟨_, { e with n := e.n + 1 } :: es', seen', cnt', ep'', σ9, rfl, Nat.lt_of_lt_of_le (meas_item hi) hme, X8.trans (by rw [e9]; exact Ext.upd_own hit8 (by first | decide | simp)), ⟨F8.S.ext (C := [4]) (by rw [e9]; exact Ext.upd_own hit8 (by first | decide | simp)) (by first | decide | simp) (by first | decide | simp), by rw [e9]; exact N8.item, D1, F8.cnt, F8.sk⟩, T1, hxm, by simp⟩)
            · obtain ⟨D1, R1, Z1⟩ := F8.dfs.pop R8 (Nat.le_of_not_lt hi)
              obtain ⟨outer, hout⟩ := hout
              refine W_wrap_end hh hm8 hit8 hs8 (Nat.le_of_not_lt hi) (fun σ9 ex tx h9 hex9 hX9 => ?_)
              refine W_noteFrame hA'.vs.link hout hfr hX9 (fun σ10 T X10 hX10 => W_setFlight hX10 (W_handle_hit ?_))
              have g10 : ∀ {y c' cl}, σ8 y = some (c', cl) → y ≠ e.it → c' ≠ 8 → σ10 y = some (c', cl) := fun h1 h2 h3 => X10 _ _ _ (h9 _ _ h2 h1) (by simpa using h3)
              have n4 : ∀ {y c' cl}, σ8 y = some (c', cl) → c' ≠ 4 → y ≠ e.it := fun q1 q2 z => by rw [z, hit8] at q1; cases q1; exact q2 rfl
              have hK10 : σ10 K = some (3, .list ((es'.map (·.v)).reverse ++ [e.v])) := g10 (by rw [N8.hK]; simp) (n4 N8.hK (by decide)) (by decide)
              have hI10 : σ10 I = some (3, .list ((es'.map fun e => AV.ref e.m).reverse ++ [.ref e.m])) := g10 hI8 (n4 N8.hI (by decide)) (by decide)
              have hD10 : σ10 D = some (3, .dict (idxs ((es'.map (·.v)).reverse ++ [e.v])) ep'') := g10 (by rw [N8.hD]; simp) (n4 N8.hD (by decide)) (by decide)
              have hem : e.v ∈ st.keys := F8.sk _ (F8.dfs.on _ (by first | decide | simp))
              have hek := S.key e.v hem
              have hnon : e.v ∉ (es'.map (·.v)).reverse := fun z => by
                have := F8.dfs.nd
                rw [List.map_cons, List.map_cons, List.nodup_cons] at this
                exact this.1 (by rw [List.map_map]; simpa using z)
              refine W_Glob hE (by walk_at "mem") ⟨hX10.m (by rw [lw.K]; rfl), W_setFlight hX10 ?_⟩
              repeat walk_at "st"
              refine W_Delete_Sub ?_
              repeat walk_at "st"
              intro pl
              refine W_meth_list F.slot_list_pop F.type_list_pop hK10 ?_
              repeat walk_at "st"
              refine ⟨Kp.builtin, W_pop hK10 (by simp at hel ⊢; omega) (fun σ11 e11 => All.key hek fun u11 eu11 => ?_)⟩
              have hKD : K ≠ D := fun z => by rw [z, hD10] at hK10; cases hK10
              have hID : I ≠ D := fun z => by rw [z, hD10] at hI10; cases hI10
              have hD11 : σ11 D = some (3, .dict (idxs ((es'.map (·.v)).reverse ++ [e.v])) ep'') := by rw [e11, upd_ne (Ne.symm hKD)]; exact hD10
              refine W_dict_del hD11 (by rw [eu11]; exact hek) ?_ (by unfold idxs; rw [idxsFrom_len]; simp at hel ⊢; omega) (fun ep3 σ12 e12 => ?_)
              · rw [eu11, dget_idxs (p := (es'.map (·.v)).reverse) (q := []) rfl hnon]; rfl
              rw [eu11, ddel_idxs hnon] at e12
              have hI12 : σ12 I = some (3, .list ((es'.map fun e => AV.ref e.m).reverse ++ [.ref e.m])) := by rw [e12, upd_ne hID, e11, upd_ne (Ne.symm N8.KI)]; exact hI10
              repeat walk_at "st"
              intro pl2
              refine W_meth_list F.slot_list_pop F.type_list_pop hI12 ?_
              repeat walk_at "st"
              refine ⟨Kp.builtin, W_pop hI12 (by simp at hel ⊢; omega) (fun σ13 e13 => ?_)⟩
              repeat walk_at "st"
              have X13 : Ext [3, 4, 8] σ8 σ13 := fun y k' cl' h1 h2 => by
                simp only [List.mem_cons, List.not_mem_nil, or_false, not_or] at h2
                have q1 := g10 h1 (n4 h1 h2.2.1) h2.2.2
                rw [e13, upd_ne (fun z => by rw [z, hI10] at q1; cases q1; exact h2.1 rfl), e12, upd_ne (fun z => by rw [z, hD10] at q1; cases q1; exact h2.1 rfl), e11, upd_ne (fun z => by rw [z, hK10] at q1; cases q1; exact h2.1 rfl)]
                exact q1
              refine hP12.nx _ ⟨es'.length, by simp, es', seen', cnt', ep3, σ13, rfl, rfl, Nat.le_trans meas_pop hme, X8.trans X13, ⟨F8.S.ext X13 (by first | decide | simp) (by first | decide | simp), ?_, D1, F8.cnt, F8.sk⟩, R1, fun q => (Z1 (by rw [q]; rfl)).2⟩
              refine N8.pop (fun y p n0 n1 n2 n3 n5 hy => ?_) ?_ ?_ ?_
              · rw [e13, upd_ne n2, e12, upd_ne n3, e11, upd_ne n1]
                exact g10 hy n5 n0
              · rw [e13, upd_ne N8.KI, e12, upd_ne hKD, e11]; exact upd_self
              · rw [e13]; exact upd_self
              · rw [e13, upd_ne (Ne.symm hID), e12]; exact upd_self
        | ret v => exact hP8.re _ _ (hP7.re _ _ (hP2 (.ret _) _ hf))
        | brk => exact hf.elim
        | cont => exact hf.elim
    · repeat walk_at "st"
      exact hP6.co _ σ6 Ext.refl ⟨some key, seen, cnt, ep', rfl, next _ _ _ _ F6 (F6.dfs.fin key hsk (by first | decide | simp))⟩
  · rintro vv σ6 ⟨b, seen, cnt, ep', rfl, F⟩ X6
    refine hP1 .next _ ⟨b, σ6, rfl, X6, .no fun k hk => (F k).dfs.pre k ?_⟩
    have : ((st.keys.zip (as.map fun p => AV.ref p.i)).map (·.1)).length = st.keys.length := by simp [S.len]
    rw [this, List.take_length]; exact hk
end
end Mine.Internal

namespace Mine.Internal
open PySem PySem.W PyProof.Rows PySem.Calls

theorem fn_prepare {w : World} : FnOk (KK w) 92 ["self"] ["cycle"] ["ValueError", "CycleError"] := ⟨rfl, rfl, rfl, rfl, rfl, rfl, rfl, rfl, rfl, by decide +kernel⟩
theorem bo_find {w : World} : BindOk (KK w) CTS "_find_cycle" 127 := ⟨rfl, rfl, rfl, rfl, rfl, rfl, by decide +kernel⟩
theorem keep_find {w : World} : keepIn (KK w) (.ref 127) = true := by rfl
theorem cyc_cls {w : World} : ∃ nm q bs hdct sn sub ab col dd k0 k1 k2 k3 k5, (KK w).lookup 55 = some (excClassObj nm q 55 54 bs [.type "ValueError", .type "Exception", .type "BaseException", .type "object"] hdct sn sub ab col dd k0 k1 k2 k3 k5 "ValueError.__new__") :=
  ⟨_, _, _, _, _, _, _, _, _, _, _, _, _, _, rfl⟩
theorem cyc_ns {w : World} : nsOkIn (KK w) 54 = true ∧ nsIn (KK w) 54 "__init__" = some none := ⟨by kernel_rfl, by kernel_rfl⟩

section
variable {c : Cx} {A : Around} {E : Value → AS → Prop} {fs : List Frm} {σ : Addr → Option (Nat × Cell)} {g : Array GenState} {d : Nat} {x dx nd : Addr} {rv : AV} {as : List NAd} {ep : Nat} {st : SS}

noncomputable def SS.prep (st : SS) : SS := { st with ready := some (st.keys.filter fun k => decide (st.np k = 0)) }

theorem prepare_spec {R : Result → AS → Prop} (lw : Lw c) (hcy : Glob c "CycleError" (.ref 55)) (hA : AOk A fs (d + 2)) (S : SAt σ x st dx nd rv as ep) (hr : st.ready = none) (hsu : ∀ k s, s ∈ st.su k → s ∈ st.keys) (hz : st.keys.length < 4000) (hzs : ∀ k, (st.su k).length ≤ 100000)
    (hN : ∀ σ' b, RingRes st.keys st.su none → Ext [1, 3, 4, 8] σ σ' → SAt σ' x st.prep dx nd (.ref b) as ep → R (.ok (.ret .none)) ⟨fs, σ', g⟩)
    (hS : ∀ r e t args T σ' b, RingRes st.keys st.su (some r) → Ext [1, 3, 4, 8] σ σ' → SAt σ' x st.prep dx nd (.ref b) as ep → Exc σ' e t (.ref 55) args (some T) → R (.error (.ref e)) ⟨fs, σ', g⟩) :
    Wk c A (.call (.ref 92) ⟨[.ref x], []⟩) R ⟨fs, σ, g⟩ := by
  have hrv : rv = .none := by have := S.rdy; rw [hr] at this; exact this
  subst hrv
  refine Wk_call_G lw.K (ns := ["self", "cycle"]) (us := [.ref x]) (gs := [("ValueError", .type "ValueError"), ("CycleError", .ref 55)]) fn_prepare rfl (by kernel_rfl) rfl (.cons (.rest .nil)) (by simp [lw.ValueError, hcy]) hA (fun L env B P X hfr hh hL hA' hout hE hFx hUx => ?_)
  refine W_consG (fun _ _ => ?_)
  repeat walk_at "st"
  refine W_getAttr S.x S.dx (lw.K ▸ a_ready) sAttrs_nd (by walk_at "mem") ?_
  repeat walk_at "st"
  refine W_ListComp (x := "i") (gls := []) (caps := []) ⟨rfl, rfl, by decide +kernel⟩ (CapOk.nil (cl := []) hE.kind) ?_
  repeat walk_at "st"
  refine W_getAttr S.x S.dx (lw.K ▸ a_node2info) sAttrs_nd (by walk_at "mem") ?_
  intro pl
  refine W_meth_dict F.slot_dict_values F.type_dict_values S.nd ?_
  repeat walk_at "st"
  refine ⟨Kp.builtin, W_dict_values S.nd (fun vw h1 σ1 e1 => ?_)⟩
  have X1 : Ext [] σ σ1 := by rw [e1]; exact Ext.upd_new h1
  have S1 := S.ext X1 (by simp) (by simp)
  refine W_iter_values (by rw [e1]; exact upd_self) S1.nd (fun it h2 σ2 e2 => ?_)
  have hvs : (st.keys.zip (as.map fun p => AV.ref p.i)).map (·.2) = as.map fun p => AV.ref p.i := by
    rw [List.map_snd_zip]; simp [S.len]
  refine CompK_loop (k := 1) (gs := []) ⟨rfl, rfl, by decide +kernel⟩ (CapOk.nil (cl := []) hE.kind) rfl (by simp) hE.gl hE.bl (IterOf.dictValues hh) IterSelf.dictValues [] (by simp) (by simp) (by decide) 1
    (fun i ys σ => ys = (st.keys.take i).filter (fun k => decide (st.np k = 0)) ∧ SAt σ x st dx nd .none as ep)
    (fun i ys σ σ' h e => ⟨h.1, h.2.ext e (by simp) (by simp)⟩) h2 e2 (by rw [e2, upd_ne (fun q => by rw [← q, S1.nd] at h2; cases h2)]; exact S1.nd) ⟨rfl, S1⟩ (fun i ys σ h => ?_) ?_ ?_
  · rw [h.1]
    have h1 := List.length_filter_le (fun k => decide (st.np k = 0)) (st.keys.take i)
    have h2 : (st.keys.take i).length ≤ st.keys.length := by rw [List.length_take]; exact Nat.min_le_right ..
    omega
  · rintro C cenv i v σ3 ys hCE hCC hg hb ⟨rfl, S3⟩ hv hsrc Y3
    rw [hvs] at hv
    obtain ⟨p, hp, rfl⟩ := map_some_of ((List.getElem?_map ..).symm.trans hv)
    have hi : i < st.keys.length := by rw [← S.len]; exact (List.getElem?_eq_some_iff.mp hp).1
    have hk : st.keys[i]? = some st.keys[i] := by simp [hi]
    have N3 := S3.nds i p _ hp hk
    have hkey := S.key _ (List.getElem_mem hi)
    refine W_tests_one ?_
    repeat walk_at "st"
    refine W_getSlot N3.i N3.d (lw.K ▸ sl_np) (by rfl) ?_
    repeat walk_at "st"
    have htk : st.keys.take (i + 1) = st.keys.take i ++ [st.keys[i]] := by rw [List.take_add_one, hk]; rfl
    by_cases hz0 : st.np st.keys[i] = 0
    · have : (st.np st.keys[i] == 0) = true := by simp [hz0]
      rw [this]
      repeat walk_at "st"
      refine W_getSlot N3.i N3.d (lw.K ▸ sl_node) (by rfl) (All.key hkey fun u4 e4 => ?_) (by cases q : st.keys[i] <;> simp_all [AV.plain, AV.isKey])
      refine ⟨σ3, rfl, Ext.refl, ?_, S3⟩
      rw [htk, List.filter_append, e4]; simp [hz0]
    · have : (st.np st.keys[i] == 0) = false := by simp [hz0]
      rw [this]
      repeat walk_at "st"
      refine ⟨σ3, rfl, Ext.refl, ?_, S3⟩
      rw [htk, List.filter_append]; simp [hz0]
  · rintro D C vx ys σ3 ⟨rfl, S3⟩ Y3 hD hD3
    rw [hvs, List.length_map, S.len, List.take_length] at hD3
    repeat walk_at "st"
    refine W_setAttr S3.x S3.dx (lw.K ▸ a_ready) (.there .here) sAttrs_nd (by simp) ?_
    have S4 := S3.setAttrs (st' := st.prep) (rv' := .ref D) rfl rfl rfl ⟨D, rfl, hD3⟩
    generalize e4 : upd σ3 dx _ = σ4
    have e4' : upd σ3 dx (some (1, .attrs (sAttrs nd (.ref D) st.prep))) = σ4 := e4
    rw [e4'] at S4
    have X4 : Ext [1, 3, 4, 8] σ σ4 := X1.nil.trans (Y3.nil.trans (by rw [← e4']; exact Ext.upd_own S3.dx (by simp)))
    repeat walk_at "st"
    intro pl2
    refine W_getMethod S4.x S4.dx (lw.K ▸ bo_find.get) (lw.K ▸ bo_find.find) (lw.K ▸ bo_find.fn) (no_attr (by decide +kernel)) ?_
    repeat walk_at "st"
    refine ⟨Kp.inK (lw.K ▸ keep_find), find_cycle_spec lw (d := d) hA' S4 hsu hz hzs (fun σ5 hr5 X5 => ?_) (fun r l σ5 hr5 hrl X5 hl5 => ?_)⟩
    · repeat walk_at "st"
      refine W_truthy_none ?_
      repeat walk_at "st"
      exact hN σ5 D hr5 (X4.trans (X5.mono (by simp))) (S4.ext X5 (by simp) (by simp))
    · repeat walk_at "st"
      refine W_truthy_list hl5 (by have : st.prep.keys.length = st.keys.length := rfl; omega) ?_
      have : (!r.isEmpty) = true := by
        cases hr5; simp
      rw [this]
      refine ite_t rfl (W_consG fun _ _ => ?_)
      obtain ⟨nm, q, bs, hdct, sn, sub, ab, col, dd, k0, k1, k2, k3, k5, hcls⟩ := cyc_cls (w := c.w)
      refine W_RaiseOwn (C := 55) (N := 54) F.excBase_ValueError hh (c.inK _ _ (lw.K ▸ hcls)) (.of_isNs (isNs_of_in c.inK (lw.K ▸ cyc_ns.1))) (nsMap_none_of_in c.inK (lw.K ▸ cyc_ns.1) (lw.K ▸ cyc_ns.2)) ?_
      repeat walk_at "st"
      refine ⟨rfl, ?_⟩
      repeat walk_at "st"
      refine W_Joined1 ?_
      repeat walk_at "st"
      refine ⟨rfl, by simp, fun e t σ6 X6 he6 hx6 => ?_⟩
      exact hUx.ex _ _ _ _ _ _ _ _ _ _ hx6 fun σ7 T X7 hx7 => hS r e t _ T σ7 D hr5 (X4.trans ((X5.mono (by simp)).trans (X6.nil.trans (X7.mono (by simp))))) (S4.ext (X5.mono (D := [3, 4, 8]) (by simp) |>.trans (X6.nil.trans (X7.mono (by simp)))) (by simp) (by simp)) hx7
end
end Mine.Internal

namespace Mine.Internal
open PySem PySem.W PyProof.Rows PySem.Calls PySem.F PySem.AutoSeq1 PySem.MeetsSeq PySem.MeetsSeq3 PySem.SeqAt

/-- Python's order on rows of ints -/
noncomputable def ltL : List Int → List Int → Bool
  | [], [] => false
  | [], _ :: _ => true
  | _ :: _, [] => false
  | x :: xs, y :: ys => if x = y then ltL xs ys else decide (x < y)
/-- by the loop's word: less (0) or greater (4) -/
noncomputable def ordB (c : Nat) (xs ys : List Int) : Bool := if c = 0 then ltL xs ys else ltL ys xs
noncomputable def ordOp (c : Nat) : CmpOp := if c = 0 then .Lt else .Gt

theorem ints_get {items : Array Value} {is : List Int} (h : items.toList.map er = is.map AV.int) {i : Nat} (hi : i < is.length) : ∃ t, items[i]? = some (.int is[i] t) := by
  have h1 : (items.toList.map er)[i]? = some (.int is[i]) := by rw [h]; simp [hi]
  rw [List.getElem?_map] at h1
  obtain ⟨u, hu, eu⟩ := map_some_of h1
  obtain ⟨t, rfl⟩ := er_int eu
  exact ⟨t, by simpa using hu⟩
theorem ints_len {items : Array Value} {is : List Int} (h : items.toList.map er = is.map AV.int) : items.size = is.length := by
  have := congrArg List.length h; simpa using this

set_option maxHeartbeats 2000000 in
theorem ord_loop {c : Nat} (hc : c = 0 ∨ c = 4) (l b : Addr) (items items2 : Array Value) (n n2 : Nat) (is js : List Int) (h1 : items.toList.map er = is.map AV.int) (h2 : items2.toList.map er = js.map AV.int) (k : Nat) :
    ∀ i : Nat, is.length - i = k → i ≤ is.length → i ≤ js.length → Meets (Builtin.«list.__eq__.loop» ⟨[.ref l, .ref b, rawInt i, rawInt c], []⟩)
      (fun A R s => s.heap.get? l = some { cls := .type "list", dict := none, data := .seq items n, slots := #[] } ∧ s.heap.get? b = some { cls := .type "list", dict := none, data := .seq items2 n2, slots := #[] } ∧
        R (.ok (.ret (.bool (ordB c (is.drop i) (js.drop i))))) s) := by
  have z1 := ints_len h1
  have z2 := ints_len h2
  induction k with
  | zero =>
    intro i hk hi1 hi2 prog w A R s h
    obtain ⟨hp, g, d, tk, os⟩ := s; obtain ⟨hl, hb, h⟩ := h
    have e1 : items[((i : Nat) : Int).toNat]? = none := by simp; omega
    have hd : is.drop i = [] := by simp; omega
    rw [hd] at h
    have go : ∀ {v : Bool}, v = ordB c [] (js.drop i) → R (.ok (.ret (.bool v))) ⟨hp, g, d, tk, os⟩ := fun e => by rw [e]; exact h
    rcases hc with rfl | rfl
    · wp_walk using wpAny_loadPart' hl, wpAny_loadPart' hb
      rw [e1]
      wp_walk using wpAny_loadPart' hl, wpAny_loadPart' hb
      refine go (v := decide (items.size < items2.size)) ?_
      unfold ordB
      cases hj : js.drop i with
      | nil => simp [ltL]; have := List.drop_eq_nil_iff.mp hj; omega
      | cons => simp [ltL]; have : ¬ js.length ≤ i := fun q => by rw [List.drop_eq_nil_of_le q] at hj; cases hj
                omega
    · wp_walk using wpAny_loadPart' hl, wpAny_loadPart' hb
      rw [e1]
      wp_walk using wpAny_loadPart' hl, wpAny_loadPart' hb
      refine go (v := decide (items.size > items2.size)) ?_
      unfold ordB
      cases hj : js.drop i with
      | nil => simp [ltL]; have := List.drop_eq_nil_iff.mp hj; omega
      | cons => simp [ltL]; omega
  | succ k ih =>
    intro i hk hi1 hi2 prog w A R s h
    obtain ⟨hp, g, d, tk, os⟩ := s; obtain ⟨hl, hb, h⟩ := h
    have hlt : i < is.length := by omega
    obtain ⟨t, e1'⟩ := ints_get h1 hlt
    have e1 : items[((i : Nat) : Int).toNat]? = some (.int is[i] t) := by simpa using e1'
    have hd1 : is.drop i = is[i] :: is.drop (i + 1) := List.drop_eq_getElem_cons hlt
    rw [hd1] at h
    by_cases hlt2 : i < js.length
    · obtain ⟨u, e2'⟩ := ints_get h2 hlt2
      have e2 : items2[((i : Nat) : Int).toNat]? = some (.int js[i] u) := by simpa using e2'
      have hd2 : js.drop i = js[i] :: js.drop (i + 1) := List.drop_eq_getElem_cons hlt2
      rw [hd2] at h
      have hcc : ((i : Int) + 1) = ((i + 1 : Nat) : Int) := by push_cast; rfl
      by_cases hxy : is[i] = js[i]
      · have hR : R (.ok (.ret (.bool (ordB c (is.drop (i + 1)) (js.drop (i + 1)))))) ⟨hp, g, d, tk, os⟩ := by
          unfold ordB at h ⊢
          simpa [ltL, hxy] using h
        have eb : (is[i] == js[i]) = true := beq_iff_eq.mpr hxy
        rcases hc with rfl | rfl
        · wp_walk using wpAny_loadPart' hl, wpAny_loadPart' hb
          rw [e1, e2]
          refine wpAny_bind (EqAt.int_int _ _ _ _ prog w _ _ ?_)
          rw [eb]
          wp_walk
          rw [hcc]
          exact ⟨plainId_quiet plain_eq_loop _, codeAny_builtin entry_eq_loop (by
            rw [Around.under_plainId plain_eq_loop _]
            exact ih (i + 1) (by omega) hlt hlt2 prog w A R _ ⟨hl, hb, hR⟩)⟩
        · wp_walk using wpAny_loadPart' hl, wpAny_loadPart' hb
          rw [e1, e2]
          refine wpAny_bind (EqAt.int_int _ _ _ _ prog w _ _ ?_)
          rw [eb]
          wp_walk
          rw [hcc]
          exact ⟨plainId_quiet plain_eq_loop _, codeAny_builtin entry_eq_loop (by
            rw [Around.under_plainId plain_eq_loop _]
            exact ih (i + 1) (by omega) hlt hlt2 prog w A R _ ⟨hl, hb, hR⟩)⟩
      · have eb : (is[i] == js[i]) = false := beq_eq_false_iff_ne.mpr hxy
        rcases hc with rfl | rfl
        · have hR : R (.ok (.ret (.bool (decide (is[i] < js[i]))))) ⟨hp, g, d, tk, os⟩ := by
            simpa [ordB, ltL, hxy] using h
          wp_walk using wpAny_loadPart' hl, wpAny_loadPart' hb
          rw [e1, e2]
          refine wpAny_bind (EqAt.int_int _ _ _ _ prog w _ _ ?_)
          rw [eb]
          wp_walk using wpAny_loadPart' hl, wpAny_loadPart' hb
          rw [e1, e2]
          refine wpAny_bind (show wpAny (model prog w) A.in1 (compareOp .Lt _ _) _ _ _ from P.lt_int ?_)
          wp_walk
          exact hR
        · have hR : R (.ok (.ret (.bool (decide (is[i] > js[i]))))) ⟨hp, g, d, tk, os⟩ := by
            have : ¬ js[i] = is[i] := fun q => hxy q.symm
            simpa [ordB, ltL, this] using h
          wp_walk using wpAny_loadPart' hl, wpAny_loadPart' hb
          rw [e1, e2]
          refine wpAny_bind (EqAt.int_int _ _ _ _ prog w _ _ ?_)
          rw [eb]
          wp_walk using wpAny_loadPart' hl, wpAny_loadPart' hb
          rw [e1, e2]
          refine wpAny_bind (show wpAny (model prog w) A.in1 (compareOp .Gt _ _) _ _ _ from P.gt_int ?_)
          wp_walk
          exact hR
    · have e2 : items2[((i : Nat) : Int).toNat]? = none := by simp; omega
      have hd2 : js.drop i = [] := by simp; omega
      rw [hd2] at h
      rcases hc with rfl | rfl
      · wp_walk using wpAny_loadPart' hl, wpAny_loadPart' hb
        rw [e1, e2]
        wp_walk using wpAny_loadPart' hl, wpAny_loadPart' hb
        have : ordB 0 (is[i] :: is.drop (i + 1)) [] = decide (items.size < items2.size) := by simp [ordB, ltL]; omega
        rw [this] at h
        exact h
      · wp_walk using wpAny_loadPart' hl, wpAny_loadPart' hb
        rw [e1, e2]
        wp_walk using wpAny_loadPart' hl, wpAny_loadPart' hb
        have : ordB 4 (is[i] :: is.drop (i + 1)) [] = decide (items.size > items2.size) := by simp [ordB, ltL]; omega
        rw [this] at h
        exact h
end Mine.Internal

namespace Mine.Internal
open PySem PySem.W PyProof.Rows PySem.Calls PySem.F PySem.AutoSeq1 PySem.MeetsSeq PySem.MeetsSeq3 PySem.SeqAt

theorem slot_list_gt : PySem.Slot "list" (cmpInfo .Gt).2.1 "list.__gt__" :=
  .of (owner := "list") (n := "__gt__") (by rw [typeLookup_type, builtinLookup_eq_fast]; kernel_rfl) (by decide +kernel) (by decide +kernel) (by decide +kernel)
    (by first | exact .inl (by decide +kernel) | exact .inr (by decide +kernel)) (by rw [isSubtype_type]; kernel_rfl)
theorem entry_list_gt : entryFor table "list.__gt__" = some Builtin.«list.__gt__» := entryFor_of_tree (by kernel_rfl)
theorem args_list_gt_2 (a b : Value) : argsOk "list.__gt__" ⟨[a, b], []⟩ := by
  unfold argsOk; rw [signature?_of (id := "list.__gt__") (n := ['_', '_', 't', 'g', '_', '_']) (o := ['t', 's', 'i', 'l']) (by kernel_rfl) owner_list]; kernel_rfl

section
variable (l b : Addr) (items items2 : Array Value) (n n2 : Nat) (is js : List Int) (h1 : items.toList.map er = is.map AV.int) (h2 : items2.toList.map er = js.map AV.int)
include h1 h2
theorem list_ltAt : Meets (Builtin.«list.__lt__» ⟨[.ref l, .ref b], []⟩)
      (fun A R s => s.heap.get? l = some { cls := .type "list", dict := none, data := .seq items n, slots := #[] } ∧ s.heap.get? b = some { cls := .type "list", dict := none, data := .seq items2 n2, slots := #[] } ∧ R (.ok (.ret (.bool (ltL is js)))) s) := by
  intro prog w A R s h
  obtain ⟨hp, g, d, tk, os⟩ := s; obtain ⟨hl, hb, h⟩ := h
  have f3 := AutoSeq1.sub_list_list
  wp_walk using wpAny_loadPart' hl, wpAny_loadPart' hb
  exact ⟨plainId_quiet plain_eq_loop _, codeAny_builtin entry_eq_loop (by
    rw [Around.under_plainId plain_eq_loop _]
    exact ord_loop (.inl rfl) l b items items2 n n2 is js h1 h2 _ 0 rfl (Nat.zero_le _) (Nat.zero_le _) prog w A R _ ⟨hl, hb, by simpa [ordB] using h⟩)⟩
theorem list_gtAt : Meets (Builtin.«list.__gt__» ⟨[.ref l, .ref b], []⟩)
      (fun A R s => s.heap.get? l = some { cls := .type "list", dict := none, data := .seq items n, slots := #[] } ∧ s.heap.get? b = some { cls := .type "list", dict := none, data := .seq items2 n2, slots := #[] } ∧ R (.ok (.ret (.bool (ltL js is)))) s) := by
  intro prog w A R s h
  obtain ⟨hp, g, d, tk, os⟩ := s; obtain ⟨hl, hb, h⟩ := h
  have f3 := AutoSeq1.sub_list_list
  wp_walk using wpAny_loadPart' hl, wpAny_loadPart' hb
  exact ⟨plainId_quiet plain_eq_loop _, codeAny_builtin entry_eq_loop (by
    rw [Around.under_plainId plain_eq_loop _]
    exact ord_loop (c := 4) (.inr rfl) l b items items2 n n2 is js h1 h2 _ 0 rfl (Nat.zero_le _) (Nat.zero_le _) prog w A R _ ⟨hl, hb, by simpa [ordB] using h⟩)⟩
end
section
variable {prog : Program} {w : World} {A : Around} {E : Value → Shared → Prop} {s : Shared}
theorem gt_rows {l b : Addr} {items items2 : Array Value} {n n2 : Nat} {is js : List Int} {Q : Value → Shared → Prop} (ho : s.heap.get? l = some (listOf items n)) (ho2 : s.heap.get? b = some (listOf items2 n2)) (h1 : items.toList.map er = is.map AV.int) (h2 : items2.toList.map er = js.map AV.int) (hu : A.units < cLine)
    (h : Q (.bool (ltL js is)) s) : wpAny (model prog w) A (compareOp .Gt (.ref l) (.ref b)) Q E s :=
  richCompare_meets_room (op := .Gt) ⟨_, ho, rfl⟩ ⟨_, ho2, rfl⟩ slot_list_gt entry_list_gt (args_list_gt_2 _ _) (list_gtAt l b items items2 n n2 is js h1 h2)
    ⟨ho, ho2, show Value.bool (ltL js is) ≠ Value.notImplemented ∧ Q (.bool (ltL js is)) s from ⟨(fun x => nomatch x), h⟩⟩ hu
end
end Mine.Internal

namespace Mine.Internal
open PySem PySem.W PyProof.Rows PySem.Calls PySem.AutoSeq1 PySem.MeetsSeq PySem.MeetsSeq3 PySem.SeqAt

section
variable {c : Cx} {A : Around} {E : Value → AS → Prop} {fs : List Frm} {σ : Addr → Option (Nat × Cell)} {g : Array GenState} {k : Nat}

theorem W_updateSeq {S : Addr} {vs : List AV} {us : List Value} {Q : Unit → AS → Prop} (hS : σ S = some (k, .list vs)) (hz : vs.length ≤ 1000) (hz' : us.length ≤ 1000) (h : ∀ σ', σ' = upd σ S (some (k, .list (us.map er))) → Q () ⟨fs, σ', g⟩) : W c A (updateSeq S (fun _ => us.toArray)) Q E ⟨fs, σ, g⟩ := fun s hs => by
  obtain ⟨ws, n, ho, e⟩ := own_list hs hS
  refine wpAny_updateSeq ho rfl ?_ (by rw [size_of e]; exact sizeLine_big (by omega)) (Nat.le_succ_of_le (by simp; exact sizeLine_big (by omega)))
  exact ⟨_, hs.put hS upd_keeps (Heap.get?_update_self _ ho rfl) (cl' := .list (us.map er)) ⟨us.toArray, _, rfl, by simp⟩, h _ rfl⟩
theorem W_gt_rows {a b : Addr} {ka kb : Nat} {is js : List Int} {a' : AS} {Q : Value → AS → Prop} (ha : a'.σ a = some (ka, .list (is.map AV.int))) (hb : a'.σ b = some (kb, .list (js.map AV.int))) (hu : A.units < cLine) (h : Q (.bool (ltL js is)) a') : W c A (richCompare .Gt (.ref a) (.ref b)) Q E a' := fun s hs => by
  obtain ⟨us, n, ho, e⟩ := own_list hs ha
  obtain ⟨us2, n2, ho2, e2⟩ := own_list hs hb
  exact gt_rows ho ho2 e e2 hu ⟨a', hs, h⟩
/-- the greatest of some rows, the first of like ones -/
noncomputable def bestR (rs : List (List Int)) : Nat → Nat
  | 0 => 0
  | j + 1 => if ltL (rs.getD (bestR rs j) []) (rs.getD (j + 1) []) then j + 1 else bestR rs j

/-- rows behind a list's items -/
noncomputable def RwAt (σ : Addr → Option (Nat × Cell)) (ws : List AV) (rs : List (List Int)) : Prop := ws.length = rs.length ∧ ∀ (i : Nat) (v : AV), ws[i]? = some v → ∃ a k, v = .ref a ∧ σ a = some (k, .list ((rs.getD i []).map AV.int)) ∧ k ≠ 9

/-- what the loop of max needs -/
structure MaxAt (σ : Addr → Option (Nat × Cell)) (l it S : Addr) (kc : Nat) (ws : List AV) (rs : List (List Int)) (j b : Nat) : Prop where
  hit : σ it = some (9, iterCell "list_iterator" l (j + 1))
  hl : σ l = some (kc, .list ws)
  hrw : RwAt σ ws rs
  hS : ∃ v, ws[b]? = some v ∧ σ S = some (9, .list [v, v])
  hne : l ≠ it ∧ l ≠ S ∧ it ≠ S
theorem two_of {us : Array Value} {v : AV} (e : us.toList.map er = [v, v]) : ∃ u1 u2, us = #[u1, u2] ∧ er u1 = v ∧ er u2 = v := by
  obtain ⟨us⟩ := us
  rcases us with _ | ⟨u1, _ | ⟨u2, _ | ⟨u3, r⟩⟩⟩ <;> simp at e
  exact ⟨u1, u2, rfl, e.1, e.2⟩
theorem RwAt.upd {ws : List AV} {rs : List (List Int)} {x : Addr} {y : Cell} {z : Option (Nat × Cell)} (h : RwAt σ ws rs) (hx : σ x = some (9, y)) : RwAt (upd σ x z) ws rs :=
  ⟨h.1, fun i v hv => by
    obtain ⟨a, k, e, ha, hk⟩ := h.2 i v hv
    refine ⟨a, k, e, ?_, hk⟩
    rw [upd_ne (fun q => by rw [q, hx] at ha; cases ha; exact hk rfl)]
    exact ha⟩

theorem max_loop {l it S : Addr} {kc : Nat} {ws : List AV} {rs : List (List Int)} {R : Result → AS → Prop} (hh : A.in1.handled = none) (hu : A.in1.units < cLine) (hkc : kc ≠ 9) :
    ∀ (n j : Nat) (σ : Addr → Option (Nat × Cell)), ws.length - (j + 1) = n → j + 1 ≤ ws.length → MaxAt σ l it S kc ws rs j (bestR rs j) →
    (∀ v σ', ws[bestR rs (ws.length - 1)]? = some (er v) → (∀ x, x ≠ it → x ≠ S → σ' x = σ x) → R (.ok (.ret v)) ⟨fs, σ', g⟩) →
    Wk c A (.builtin "max.loop" ⟨[.ref it, .none, .ref S], []⟩) R ⟨fs, σ, g⟩ := by
  have hname : (toString "max" ++ toString ".loop" : String) = "max.loop" := by decide
  intro n
  induction n with
  | zero =>
    intro j σ hn hj M hR s hs
    have hin : j + 1 = ws.length := by omega
    obtain ⟨v0, hv0, hS⟩ := M.hS
    obtain ⟨us, nn, ho, e⟩ := own_list hs hS
    obtain ⟨u1, u2, rfl, e1, e2⟩ := two_of e
    refine codeAny_builtin F.entry_max_loop ?_
    rw [Around.under_plainId F.plain_max_loop _]
    show wpAny _ A.in1 (seqItems? (.ref S) >>= _) _ _ s
    refine wpAny_bind (wpAny_seqItems ho rfl ?_)
    show wpAny _ A.in1 (tryCatch (pyNext (.ref it)) _ >>= _) _ _ s
    refine wpAny_bind (wpAny_tryCatch ((IterOf.list (k := kc) hh).fin M.hit M.hl hin (Q := fun r a => r = none ∧ a = ⟨fs, upd σ it none, g⟩) (E := fun _ _ => False) (fun σ' e' => ⟨rfl, by rw [e']⟩) s hs |> fun h => wpAny_mono h (fun r s1 q => ?_) fun _ _ ⟨_, _, x⟩ => x.elim))
    obtain ⟨_, hs1, rfl, rfl⟩ := q
    show wpAny _ A.in1 (updateSeq S (fun _ => #[]) >>= _) _ _ _
    have hS1 : upd σ it none S = some (9, .list [v0, v0]) := by rw [upd_ne (Ne.symm M.hne.2.2)]; exact hS
    refine wpAny_bind (wpAny_mono (W_updateSeq (E := fun _ _ => False) (us := []) hS1 (by simp) (by simp) (Q := fun _ a => a = ⟨fs, upd (upd σ it none) S (some (9, .list [])), g⟩) (fun σ' e' => by rw [e']; rfl) s1 hs1) (fun _ s2 q => ?_) fun _ _ ⟨_, _, x⟩ => x.elim)
    obtain ⟨_, hs2, rfl⟩ := q
    refine wpAny_bind (wpAny_letGo (wpAny_pure ?_))
    refine ⟨_, hs2, hR u1 _ ?_ fun x h1 h2 => by rw [upd_ne h2, upd_ne h1]⟩
    rw [← hin, e1]; exact hv0
  | succ n ih =>
    intro j σ hn hj M hR s hs
    have hlt : j + 1 < ws.length := by omega
    obtain ⟨v0, hv0, hS⟩ := M.hS
    obtain ⟨us, nn, ho, e⟩ := own_list hs hS
    obtain ⟨u1, u2, rfl, e1, e2⟩ := two_of e
    obtain ⟨v, hv⟩ : ∃ v, ws[j + 1]? = some v := ⟨_, List.getElem?_eq_getElem hlt⟩
    obtain ⟨a1, k1, rfl, ha1, hk1⟩ := M.hrw.2 _ _ hv
    obtain ⟨a0, k0, rfl, ha0, hk0⟩ := M.hrw.2 _ _ hv0
    refine codeAny_builtin F.entry_max_loop ?_
    rw [Around.under_plainId F.plain_max_loop _]
    show wpAny _ A.in1 (seqItems? (.ref S) >>= _) _ _ s
    refine wpAny_bind (wpAny_seqItems ho rfl ?_)
    show wpAny _ A.in1 (tryCatch (pyNext (.ref it)) _ >>= _) _ _ s
    refine wpAny_bind (wpAny_tryCatch ((IterOf.list (k := kc) hh).item M.hit M.hl hv (Q := fun r a => r = some (.ref a1) ∧ a = ⟨fs, upd σ it (some (9, iterCell "list_iterator" l (j + 1 + 1))), g⟩) (E := fun _ _ => False) (fun σ' u e' eu => ⟨by rw [er_ref eu], by rw [e']⟩) s hs |> fun h => wpAny_mono h (fun r s1 q => ?_) fun _ _ ⟨_, _, x⟩ => x.elim))
    obtain ⟨_, hs1, rfl, rfl⟩ := q
    have hS1 : upd σ it (some (9, iterCell "list_iterator" l (j + 1 + 1))) S = some (9, .list [.ref a0, .ref a0]) := by rw [upd_ne (Ne.symm M.hne.2.2)]; exact hS
    have keep : ∀ {x : Addr} {kk : Nat} {cl : Cell}, σ x = some (kk, cl) → kk ≠ 9 → upd σ it (some (9, iterCell "list_iterator" l (j + 1 + 1))) x = some (kk, cl) := fun {x kk cl} h q => by
      rw [upd_ne (fun z => by rw [z, M.hit] at h; cases h; exact q rfl)]; exact h
    show wpAny _ A.in1 (tryCatch (holding [.ref a1, .ref a1] (richCompare .Gt (.ref a1) u2 >>= _)) _ >>= _) _ _ _
    rw [er_ref e2, er_ref e1]
    refine wpAny_bind (wpAny_tryCatch (wpAny_holding (wpAny_bind ?_)))
    refine wpAny_mono (W_gt_rows (E := fun _ _ => False) (Q := fun v a => v = .bool (ltL (rs.getD (bestR rs j) []) (rs.getD (j + 1) [])) ∧ a = ⟨fs, upd σ it (some (9, iterCell "list_iterator" l (j + 1 + 1))), g⟩) (keep ha1 hk1) (keep ha0 hk0) hu ⟨rfl, rfl⟩ s1 hs1) (fun v s2 q => ?_) fun _ _ ⟨_, _, x⟩ => x.elim
    obtain ⟨_, hs2, rfl, rfl⟩ := q
    refine wpAny_bind (wpAny_holding (wpAny_truthy_bool ?_))
    refine wpAny_bind (wpAny_letGo (wpAny_pure ?_))
    cases hb : ltL (rs.getD (bestR rs j) []) (rs.getD (j + 1) []) with
    | true =>
      have hbest : bestR rs (j + 1) = j + 1 := by simp only [bestR, hb, if_true]
      simp only [if_true]
      refine wpAny_bind (wpAny_mono (W_updateSeq (E := fun _ _ => False) (us := [.ref a1, .ref a1]) hS1 (by simp) (by simp) (Q := fun _ a => a = ⟨fs, upd (upd σ it (some (9, iterCell "list_iterator" l (j + 1 + 1)))) S (some (9, .list [.ref a1, .ref a1])), g⟩) (fun σ' e' => by rw [e']; rfl) s2 hs2) (fun _ s3 q => ?_) fun _ _ ⟨_, _, x⟩ => x.elim)
      obtain ⟨_, hs3, rfl⟩ := q
      refine wpAny_bind (wpAny_letGo ?_)
      rw [hname]
      refine wpAny_pure ⟨plainId_quiet F.plain_max_loop _, ih (j + 1) _ (by omega) hlt ⟨?_, ?_, (M.hrw.upd M.hit).upd hS1, ⟨_, by rw [hbest]; exact hv, upd_self⟩, M.hne⟩ (fun v σ' h1 h2 => hR v σ' h1 fun x q1 q2 => by rw [h2 x q1 q2, upd_ne q2, upd_ne q1]) s3 hs3⟩
      · rw [upd_ne M.hne.2.2]; exact upd_self
      · rw [upd_ne M.hne.2.1]; exact keep M.hl hkc
    | false =>
      have hbest : bestR rs (j + 1) = bestR rs j := by simp only [bestR, hb, Bool.false_eq_true, if_false]
      simp only [Bool.false_eq_true, if_false]
      refine wpAny_bind (wpAny_letGo ?_)
      rw [hname]
      refine wpAny_pure ⟨plainId_quiet F.plain_max_loop _, ih (j + 1) _ (by omega) hlt ⟨upd_self, keep M.hl hkc, M.hrw.upd M.hit, ⟨_, by rw [hbest]; exact hv0, hS1⟩, M.hne⟩ (fun v σ' h1 h2 => hR v σ' h1 fun x q1 q2 => by rw [h2 x q1 q2, upd_ne q1]) s2 hs2⟩

theorem max_first {l it S : Addr} {kc : Nat} {ws : List AV} {rs : List (List Int)} {R : Result → AS → Prop} (hh : A.in1.handled = none) (hu : A.in1.units < cLine) (hkc : kc ≠ 9) (hn : 0 < ws.length)
    (hit : σ it = some (9, iterCell "list_iterator" l 0)) (hl : σ l = some (kc, .list ws)) (hrw : RwAt σ ws rs) (hS : σ S = some (9, .list [])) (hne : l ≠ it ∧ l ≠ S ∧ it ≠ S)
    (hR : ∀ v σ', ws[bestR rs (ws.length - 1)]? = some (er v) → (∀ x, x ≠ it → x ≠ S → σ' x = σ x) → R (.ok (.ret v)) ⟨fs, σ', g⟩) :
    Wk c A (.builtin "max.loop" ⟨[.ref it, .none, .ref S], []⟩) R ⟨fs, σ, g⟩ := by
  have hname : (toString "max" ++ toString ".loop" : String) = "max.loop" := by decide
  intro s hs
  obtain ⟨us, nn, ho, e⟩ := own_list hs hS
  obtain rfl : us = #[] := by
    obtain ⟨us⟩ := us
    cases us with
    | nil => rfl
    | cons => simp at e
  obtain ⟨v, hv⟩ : ∃ v, ws[0]? = some v := ⟨_, List.getElem?_eq_getElem hn⟩
  obtain ⟨a1, k1, rfl, ha1, hk1⟩ := hrw.2 _ _ hv
  refine codeAny_builtin F.entry_max_loop ?_
  rw [Around.under_plainId F.plain_max_loop _]
  show wpAny _ A.in1 (seqItems? (.ref S) >>= _) _ _ s
  refine wpAny_bind (wpAny_seqItems ho rfl ?_)
  show wpAny _ A.in1 (tryCatch (pyNext (.ref it)) _ >>= _) _ _ s
  refine wpAny_bind (wpAny_tryCatch ((IterOf.list (k := kc) hh).item hit hl hv (Q := fun r a => r = some (.ref a1) ∧ a = ⟨fs, upd σ it (some (9, iterCell "list_iterator" l (0 + 1))), g⟩) (E := fun _ _ => False) (fun σ' u e' eu => ⟨by rw [er_ref eu], by rw [e']⟩) s hs |> fun h => wpAny_mono h (fun r s1 q => ?_) fun _ _ ⟨_, _, x⟩ => x.elim))
  obtain ⟨_, hs1, rfl, rfl⟩ := q
  have hS1 : upd σ it (some (9, iterCell "list_iterator" l (0 + 1))) S = some (9, .list []) := by rw [upd_ne (Ne.symm hne.2.2)]; exact hS
  show wpAny _ A.in1 (updateSeq S (fun _ => #[.ref a1, .ref a1]) >>= _) _ _ _
  refine wpAny_bind (wpAny_mono (W_updateSeq (E := fun _ _ => False) (us := [.ref a1, .ref a1]) hS1 (by simp) (by simp) (Q := fun _ a => a = ⟨fs, upd (upd σ it (some (9, iterCell "list_iterator" l (0 + 1)))) S (some (9, .list [.ref a1, .ref a1])), g⟩) (fun σ' e' => by rw [e']; rfl) s1 hs1) (fun _ s3 q => ?_) fun _ _ ⟨_, _, x⟩ => x.elim)
  obtain ⟨_, hs3, rfl⟩ := q
  rw [hname]
  refine wpAny_pure ⟨plainId_quiet F.plain_max_loop _, max_loop hh hu hkc (ws.length - 1) 0 _ rfl hn ⟨?_, ?_, (hrw.upd hit).upd hS1, ⟨_, hv, upd_self⟩, hne⟩ (fun v σ' h1 h2 => hR v σ' h1 fun x q1 q2 => by rw [h2 x q1 q2, upd_ne q2, upd_ne q1]) s3 hs3⟩
  · rw [upd_ne hne.2.2]; exact upd_self
  · rw [upd_ne hne.2.1, upd_ne hne.1]; exact hl
/-- max of a list of rows -/
theorem W_max {l : Addr} {kc : Nat} {ws : List AV} {rs : List (List Int)} {Q : Value → AS → Prop} (hh : A.in1.handled = none) (hu : A.in1.units < cLine) (hkc : kc ≠ 9) (hn : 0 < ws.length) (hl : σ l = some (kc, .list ws)) (hrw : RwAt σ ws rs)
    (h : ∀ v σ', ws[bestR rs (ws.length - 1)]? = some (er v) → Ext [] σ σ' → Q v ⟨fs, σ', g⟩) : W c A (call (.builtin "max") [.ref l]) Q E ⟨fs, σ, g⟩ := fun s hs => by
  have hname : (toString "max" ++ toString ".loop" : String) = "max.loop" := by decide
  refine call_function_tree F.kind_max F.plain_max F.entry_max (F.args_max1 _) ?_
  show wpAny _ A.in1 (Builtin.Builtins.bindParams "max" ["key", "default"] 0 ⟨[], []⟩ >>= _) _ _ s
  refine wpAny_bind (wpAny_of_eq (show Builtin.Builtins.bindParams "max" ["key", "default"] 0 ⟨[], []⟩ = pure [none, none] from rfl) ?_)
  refine wpAny_bind (wpAny_pure ?_)
  refine wpAny_bind (wpAny_mono (W_iter_list (E := fun _ _ => False) (Q := fun it a => ∃ i, it = .ref i ∧ σ i = none ∧ a = ⟨fs, upd σ i (some (9, iterCell "list_iterator" l 0)), g⟩) hl (fun i hi σ' e' => ⟨i, rfl, hi, by rw [e']⟩) s hs) (fun it s1 q => ?_) fun _ _ ⟨_, _, x⟩ => x.elim)
  obtain ⟨_, hs1, i, rfl, hi, rfl⟩ := q
  refine wpAny_bind (wpAny_mono (W_newList (E := fun _ _ => False) (us := []) (Q := fun v a => ∃ S, v = .ref S ∧ upd σ i (some (9, iterCell "list_iterator" l 0)) S = none ∧ a = ⟨fs, upd (upd σ i (some (9, iterCell "list_iterator" l 0))) S (some (9, .list [])), g⟩) 9 (by simp) (fun S hS σ' e' => ⟨S, rfl, hS, by rw [e']; rfl⟩) s1 hs1) (fun v s2 q => ?_) fun _ _ ⟨_, _, x⟩ => x.elim)
  obtain ⟨_, hs2, S, rfl, hS, rfl⟩ := q
  have hiS : i ≠ S := fun z => by rw [← z, upd_self] at hS; cases hS
  have hS0 : σ S = none := by rw [upd_ne (Ne.symm hiS)] at hS; exact hS
  have hli : l ≠ i := fun z => by rw [← z, hl] at hi; cases hi
  have hlS : l ≠ S := fun z => by rw [← z, hl] at hS0; cases hS0
  have keep : ∀ {x : Addr} {kk : Nat} {cl : Cell}, σ x = some (kk, cl) → upd (upd σ i (some (9, iterCell "list_iterator" l 0))) S (some (9, .list [])) x = some (kk, cl) := fun {x kk cl} q => by
    rw [upd_ne (fun z => by rw [z, hS0] at q; cases q), upd_ne (fun z => by rw [z, hi] at q; cases q)]; exact q
  rw [hname]
  refine wpAny_pure ⟨plainId_quiet F.plain_max_loop _, codeAny_mono (max_first (R := fun r a => ∃ v, r = .ok (.ret v) ∧ Q v a) (fs := fs) (g := g) (S := S) (it := i) hh hu hkc hn ?_ (keep hl) ⟨hrw.1, fun j v hv => ?_⟩ upd_self ⟨hli, hlS, hiS⟩ (fun v σ' h1 h2 => ⟨v, rfl, h v σ' h1 fun x kk cl q _ => ?_⟩) s2 hs2) fun r s' ⟨a', h1, v, e, q⟩ => ?_⟩
  · rw [upd_ne hiS]; exact upd_self
  · obtain ⟨a, kk, e, ha, hk⟩ := hrw.2 j v hv
    exact ⟨a, kk, e, keep ha, hk⟩
  · rw [h2 x (fun z => by rw [z, hi] at q; cases q) (fun z => by rw [z, hS0] at q; cases q)]
    exact keep q
  · subst e; exact ⟨a', h1, q⟩
end
end Mine.Internal

namespace Mine.Internal
open PySem PySem.W PyProof.Rows PySem.Calls PySem.AutoSeq1 PySem.MeetsSeq PySem.MeetsSeq3 PySem.SeqAt

section
variable {c : Cx} {A : Around} {E : Value → AS → Prop} {a : AS} {fs₀ : List Frm} {d : Nat}

/-- two like data are equal -/
theorem W_eqBool {x y : Addr} {p : PyData} {n : Nat} {Q : Bool → AS → Prop} (hA : AOk A fs₀ d) (ru : RdV a.σ (.ref x) p) (rv : RdV a.σ (.ref y) p) (hp : Sh n p) (hn : n ≤ 64) (h : Q true a) : W c A (eqBool (.ref x) (.ref y)) Q E a := by
  unfold eqBool
  refine W_holding ?_
  intro s hs
  refine wpAny_ite_split (fun _ => wpAny_bind (wpAny_rule (wpAny_pure ⟨a, hs, h⟩))) fun _ => ?_
  show wpAny _ _ (compareOp .Eq (.ref x) (.ref y) >>= _) _ _ _
  refine wpAny_bind (W_eqD (Q := fun r a' => r = .bool true ∧ a' = a) (E := E) hA ru rv (hp.ok hn) (hp.ok hn) ⟨by rw [eqv_self hp], rfl⟩ s hs |> fun h' => wpAny_mono h' (fun r s' q => ?_) fun _ _ x => x)
  obtain ⟨_, hs', rfl, rfl⟩ := q
  exact wpAny_truthy_bool ⟨_, hs', h⟩

theorem ers_of {prog : Program} {w : World} {es : Array DictEntry} {kvs : List (AV × Value)} {ws : List (AV × AV)} (h : Pairs (avKind prog w) es.toList kvs) (e : ws = kvs.map fun p => (p.1, er p.2)) :
    es.toList.map (fun e => er e.key) = ws.map (·.1) ∧ es.toList.map (fun e => er e.val) = ws.map (·.2) := by
  obtain ⟨p1, p2⟩ := pairs_er h
  rw [List.map_map] at p1 p2
  exact ⟨by rw [e, List.map_map]; exact p1, by rw [e, List.map_map]; exact p2⟩

theorem RdL.nth {σ : Addr → Option (Nat × Cell)} {vs : List AV} {ds : List PyData} {i : Nat} {v : AV} (h : RdL σ vs ds) (hv : vs[i]? = some v) : ∃ p, ds[i]? = some p ∧ RdV σ v p := by
  induction ds generalizing vs i with
  | nil => cases h; simp at hv
  | cons q ps ih => cases h with | @cons w vs _ _ h1 h2 =>
    cases i with
    | zero => simp only [List.getElem?_cons_zero, Option.some.injEq] at hv; subst hv; exact ⟨q, rfl, h1⟩
    | succ i => simp only [List.getElem?_cons_succ] at hv ⊢; exact ih h2 hv
theorem find_at {prog : Program} {w : World} {es : Array DictEntry} {ks : List AV} {i : Nat} {k : AV} (h : es.toList.map (fun e => er e.key) = ks) (hn : ks.Nodup) (hi : ks[i]? = some k) (hk : k.isKey = true) : es.findIdx? (fun e => (avKind prog w).is k e.key) = some i := by
  have hlt : i < es.size := by have := (List.getElem?_eq_some_iff.mp hi).1; rw [← h] at this; simpa using this
  have key : ∀ j (hj : j < es.size), er es[j].key = ks[j]'(by rw [← h]; simpa using hj) := fun j hj => by subst h; simp
  rw [Array.findIdx?_eq_some_iff_getElem]
  refine ⟨hlt, ?_, fun j hj => ?_⟩
  · refine avKind_is.mpr ⟨?_, hk⟩
    rw [key i hlt]; exact (List.getElem?_eq_some_iff.mp hi).2
  · intro q
    have e1 := (avKind_is.mp q).1
    rw [key j (by omega)] at e1
    have e2 := (List.getElem?_eq_some_iff.mp hi).2
    have := nodup_idx' hn (i := j) (j := i) (a := k) (List.getElem?_eq_some_iff.mpr ⟨_, e1⟩) hi
    omega

theorem W_pairTurn {x y : Addr} {kx ky : Nat} {ws ws2 : List (AV × AV)} {ep ep2 : Nat} {ds : List PyData} {n : Nat} {id : String} {i : Nat} {Q : ForInStep (Option Bool × Unit) → Shared → Prop} {E' : Value → Shared → Prop} {s : Shared} (hs : St c a s) (hA : AOk A fs₀ d) (hx : a.σ x = some (kx, .dict ws ep)) (hy : a.σ y = some (ky, .dict ws2 ep2)) (hk : ws.map (·.1) = ws2.map (·.1))
    (hv : RdL a.σ (ws.map (·.2)) ds) (hv2 : RdL a.σ (ws2.map (·.2)) ds) (hl : ∀ p ∈ ds, ∃ l, p = .list l) (hsh : ∀ p ∈ ds, Sh n p) (hn : n ≤ 64) (hi : i < ws.length) (h : ∀ s', St c a s' → Q (.yield (none, ())) s') : wpAny (model c.prog c.w) A (do
          let __do_lift ← dictEntries x
          match __do_lift[i]? with
            | some e => do
              let same ← holding [e.key, e.val] do
                    let __x ← dictFind y e.key e.hash
                    match __x with
                      | some j => do
                        let __do_lift ← dictEntries y
                        match __do_lift[j]? with
                          | some f => holding [f.val] (eqBool e.val f.val)
                          | x => unsupported "internal:dict-equal"
                      | x => pure false
              if (!same) = true then pure (ForInStep.done (some false, ()))
                else do
                  let __do_lift ← dictEpoch x
                  if (__do_lift != ep) = true then do
                      unsupported (toString id ++ toString ":changed-during-callback")
                      pure (ForInStep.yield (none, ()))
                    else pure (ForInStep.yield (none, ()))
            | x => do
              unsupported "internal:dict-equal"
              pure (ForInStep.yield (none, ()))) Q E' s := by
  obtain ⟨⟨ox, hox, X1, es, kvs, X2, X3, X4, X5, X6⟩, _⟩ := hs.own _ _ _ hx
  obtain ⟨⟨oy, hoy, Y1, es2, kvs2, Y2, Y3, Y4, Y5, Y6⟩, _⟩ := hs.own _ _ _ hy
  obtain ⟨ex1, ex2⟩ := ers_of X4 X5
  obtain ⟨ey1, ey2⟩ := ers_of Y4 Y5
  have hlt : i < es.size := by have := congrArg List.length ex1; simp at this; omega
  have hlt2 : i < es2.size := by have := congrArg List.length ey1; have h3 := congrArg List.length hk; simp at this h3; omega
  refine wpAny_bind (wpAny_dictEntries hox X2 ?_)
  rw [Array.getElem?_eq_getElem hlt]
  obtain ⟨k, hkk, hh⟩ := X3 es[i] (Array.getElem_mem hlt)
  have ki : (ws.map (·.1))[i]? = some k := by
    rw [← ex1]; simp [hlt, (avKind_is.mp hkk).1]
  have fi := find_at (prog := c.prog) (w := c.w) ey1 Y6 (by rw [← hk]; exact ki) (avKind_is.mp hkk).2
  show wpAny _ _ (holding _ _ >>= _) _ _ _
  rw [hh]
  refine wpAny_bind (wpAny_holding (wpAny_bind (wpAny_dictFind_of hkk hoy Y2 Y3 ?_)))
  rw [fi]
  refine wpAny_bind (wpAny_dictEntries hoy Y2 ?_)
  rw [Array.getElem?_eq_getElem hlt2]
  refine wpAny_holding ?_
  have v1 : (ws.map (·.2))[i]? = some (er es[i].val) := by rw [← ex2]; simp [hlt]
  have v2 : (ws2.map (·.2))[i]? = some (er es2[i].val) := by rw [← ey2]; simp [hlt2]
  obtain ⟨p, hp, r1⟩ := hv.nth v1
  obtain ⟨p', hp', r2⟩ := hv2.nth v2
  obtain rfl : p = p' := Option.some.inj (hp.symm.trans hp')
  have hm := List.mem_of_getElem? hp
  obtain ⟨l, rfl⟩ := hl p hm
  obtain ⟨b1, e1⟩ : ∃ b, er es[i].val = .ref b := by generalize er es[i].val = z at r1; cases r1; exact ⟨_, rfl⟩
  obtain ⟨b2, e2⟩ : ∃ b, er es2[i].val = .ref b := by generalize er es2[i].val = z at r2; cases r2; exact ⟨_, rfl⟩
  rw [er_ref e1, er_ref e2]
  rw [e1] at r1
  rw [e2] at r2
  refine wpAny_mono (W_eqBool (E := fun _ _ => False) (Q := fun b a' => b = true ∧ a' = a) hA r1 r2 (hsh _ hm) hn ⟨rfl, rfl⟩ s hs) (fun b s2 q => ?_) fun _ _ ⟨_, _, z⟩ => z.elim
  obtain ⟨_, hs2, rfl, rfl⟩ := q
  obtain ⟨⟨ox2, hox2, _, es3, _, Z2, _⟩, _⟩ := hs2.own _ _ _ hx
  simp only [Bool.not_true, Bool.false_eq_true, if_false]
  refine wpAny_bind (wpAny_dictEpoch hox2 Z2 ?_)
  rw [if_neg (by simp)]
  exact wpAny_pure (h s2 hs2)
theorem same_pairs {x y : Addr} {kx ky : Nat} {ws ws2 : List (AV × AV)} {ep ep2 : Nat} {ds : List PyData} {n : Nat} {id : String} {Q : Bool → Shared → Prop} {E' : Value → Shared → Prop} {s : Shared} (hs : St c a s) (hA : AOk A fs₀ d) (hx : a.σ x = some (kx, .dict ws ep)) (hy : a.σ y = some (ky, .dict ws2 ep2)) (hk : ws.map (·.1) = ws2.map (·.1))
    (hv : RdL a.σ (ws.map (·.2)) ds) (hv2 : RdL a.σ (ws2.map (·.2)) ds) (hl : ∀ p ∈ ds, ∃ l, p = .list l) (hsh : ∀ p ∈ ds, Sh n p) (hn : n ≤ 64) (h : ∀ s', St c a s' → Q true s') : wpAny (model c.prog c.w) A (Builtin.Dict.samePairs id x y) Q E' s := by
  obtain ⟨⟨ox, hox, X1, es, kvs, X2, X3, X4, X5, X6⟩, _⟩ := hs.own _ _ _ hx
  obtain ⟨⟨oy, hoy, Y1, es2, kvs2, Y2, Y3, Y4, Y5, Y6⟩, _⟩ := hs.own _ _ _ hy
  have f0 := notSys hs hx
  have f1 := notSys hs hy
  obtain ⟨ex1, ex2⟩ := ers_of X4 X5
  obtain ⟨ey1, ey2⟩ := ers_of Y4 Y5
  have hsz : es.size = es2.size := by
    have h1 := congrArg List.length ex1
    have h2 := congrArg List.length ey1
    have h3 := congrArg List.length hk
    simp at h1 h2 h3; omega
  unfold Builtin.Dict.samePairs Builtin.Dict.showsAll
  refine wpAny_bind ?_
  rw [if_neg (by simp [f0])]
  refine wpAny_pure (wpAny_bind ?_)
  rw [if_neg (by simp [f1])]
  refine wpAny_pure (wpAny_bind (wpAny_dictEntries hox X2 (wpAny_bind (wpAny_dictEntries hoy Y2 ?_))))
  rw [if_neg (by simp [hsz])]
  refine wpAny_bind (wpAny_dictEpoch hox X2 ?_)
  rw [Std.Legacy.Range.forIn_eq_forIn_range']
  have hwl : es.size = ws.length := by have h1 := congrArg List.length ex1; simpa using h1
  refine wpAny_bind (wpAny_forIn_list _ (fun l b s' => b = (none, ()) ∧ St c a s' ∧ ∀ i ∈ l, i < ws.length) _ ?_ ?_ _ _ ⟨rfl, hs, ?_⟩)
  · rintro i rest b s' ⟨rfl, hs', hi⟩
    exact W_pairTurn hs' hA hx hy hk hv hv2 hl hsh hn (hi i (by simp)) fun s2 hs2 => ⟨rfl, hs2, fun j hj => hi j (List.mem_cons_of_mem _ hj)⟩
  · rintro b s' ⟨rfl, hs', _⟩
    exact wpAny_pure (h s' hs')
  · intro i hi
    simp [Std.Legacy.Range.size] at hi
    omega

theorem W_dict_eq {x y : Addr} {kx ky : Nat} {ws ws2 : List (AV × AV)} {ep ep2 : Nat} {ds : List PyData} {n : Nat} {Q : Value → AS → Prop} (hA : AOk A fs₀ (d + 1)) (hx : a.σ x = some (kx, .dict ws ep)) (hy : a.σ y = some (ky, .dict ws2 ep2)) (hk : ws.map (·.1) = ws2.map (·.1))
    (hv : RdL a.σ (ws.map (·.2)) ds) (hv2 : RdL a.σ (ws2.map (·.2)) ds) (hl : ∀ p ∈ ds, ∃ l, p = .list l) (hsh : ∀ p ∈ ds, Sh n p) (hn : n ≤ 64) (h : Q (.bool true) a) : W c A (compareOp .Eq (.ref x) (.ref y)) Q E a := fun s hs => by
  obtain ⟨⟨ox, hox, X1, _⟩, _⟩ := hs.own _ _ _ hx
  obtain ⟨⟨oy, hoy, Y1, _⟩, _⟩ := hs.own _ _ _ hy
  show wpAny _ _ (richCompare .Eq (.ref x) (.ref y)) _ _ s
  refine wpAny_richCompare_same_room (T := "dict") ⟨ox, hox, X1.1⟩ ⟨oy, hoy, Y1.1⟩ F.slot_dict_eq (wpAny_call (codeAny_call_builtin F.slot_dict_eq.plain F.entry_dict_eq (F.slot_dict_eq.check _ _ _ _ _ _ _ _ ⟨ox, hox, X1.1⟩ (F.args_dict_eq_2 _ _) ?_))) hA.lt
  obtain ⟨hp, g, dd, tk, os⟩ := s
  wp_walk using wpAny_loadPart' hox, wpAny_loadPart' hoy
  rw [Y1.1, F.sub_dict_dict]
  refine wpAny_pure ?_
  rw [if_neg (by simp)]
  refine wpAny_bind (wpAny_pure (wpAny_bind (wpAny_pure (wpAny_bind (same_pairs hs hA.in1 hx hy hk hv hv2 hl hsh hn fun s' hs' => wpAny_pure ?_)))))
  exact ⟨(fun z => nomatch z), a, hs', h⟩
end
end Mine.Internal

namespace Mine.Internal
open PySem PySem.W PyProof.Rows PySem.Calls PySem.AutoSeq1 PySem.MeetsSeq PySem.MeetsSeq3 PySem.SeqAt

section
variable {c : Cx} {A : Around} {E : Value → AS → Prop} {a : AS} {k : Nat} {D : Addr} {vs : List AV}
theorem W_index {u : Value} {j : Nat} {Q : Value → AS → Prop} (hl : a.σ D = some (k, .list vs)) (hz : vs.length ≤ 1000000) (hu : (er u).isKey = true) (hk : ∀ v ∈ vs, v.isKey = true) (hj : vs[j]? = some (er u)) (hno : ∀ m : Nat, m < j → vs[m]? ≠ some (er u)) (h : ∀ t, Q (.int j t) a) :
    W c A (call (.builtin "list.index") [.ref D, u]) Q E a := fun s hs => by
  obtain ⟨us, n, ho, e⟩ := own_list hs hl
  have he : ∀ y, y ∈ us → EqGives y u (decide (er y = er u)) := fun y hy => eqGives_key (hk _ (by rw [← e]; exact List.mem_map_of_mem (Array.mem_toList_iff.mpr hy))) hu
  have hlt : j < us.size := by rw [size_of e]; exact (List.getElem?_eq_some_iff.mp hj).1
  have at_ : ∀ m (hm : m < us.size), vs[m]? = some (er us[m]) := fun m hm => by rw [← e]; simp [hm]
  refine call_meets F.slot_list_index ⟨_, ho, rfl⟩ F.entry_list_index (F.args_list_index_2 _ _) (MeetsSeq.list_index D us n u (fun y => decide (er y = er u)) he j hlt (by have := size_of e; omega) ?_ ?_) ⟨ho, ?_⟩
  · have := (at_ j hlt).symm.trans hj
    simpa using this
  · intro m hm hmj
    have := hno m hmj
    rw [at_ m hm] at this
    simpa using this
  · exact ⟨a, hs.of_eq, h _⟩
theorem W_item_str {x : Str} {t u : Tok} {j : Nat} {ch : Nat} {Q : Value → AS → Prop} (hj : x.cps[j]? = some ch) (hz : j < 1000000) (h : ∀ t, Q (.str ⟨#[ch]⟩ t) a) : W c A (getItem (.str x t) (.int j u)) Q E a := fun s hs => by
  refine P.getItem_str (c := ch) (by simp; omega) ?_ ⟨a, hs.of_eq, h _⟩
  have hlt : j < x.length := by
    have := (Array.getElem?_eq_some_iff.mp hj).1
    exact this
  have : seqIndex? (j : Int) x.length = some j := by
    have h0 : ¬ ((j : Int) < 0) := by omega
    unfold seqIndex?
    simp [h0, hlt]
  rw [this]; exact hj
end
end Mine.Internal

namespace Mine.Internal
open PySem PySem.W PyProof.Rows PySem.Calls

/-- the sort's questions answered by a plain order -/
noncomputable def CmpOk (cmp : Nat → Nat → (Bool → Shared → Prop) → Shared → Prop) (I : Shared → Prop) (o : Nat → Nat → Bool) (n : Nat) : Prop := ∀ i j C s, i < n → j < n → I s → (∀ s', I s' → C (o i j) s') → cmp i j C s

/-- a strict order of the numbers below n in which no two are alike -/
structure Tot (o : Nat → Nat → Bool) (n : Nat) : Prop where
  irr : ∀ i, i < n → o i i = false
  tr : ∀ i j k, i < n → j < n → k < n → o i j = true → o j k = true → o i k = true
  tot : ∀ i j, i < n → j < n → i ≠ j → o i j = true ∨ o j i = true

/-- p lies in the order up to m -/
noncomputable def Up (o : Nat → Nat → Bool) (p : Array Nat) (m : Nat) : Prop := ∀ i j, i < j → j < m → o (p.getD i 0) (p.getD j 0) = true
structure Pm (p : Array Nat) (n : Nat) : Prop where
  sz : p.size = n
  lt : ∀ i, i < n → p.getD i 0 < n
  inj : ∀ i j, i < n → j < n → p.getD i 0 = p.getD j 0 → i = j

section
variable {o : Nat → Nat → Bool} {n : Nat} {p : Array Nat}
theorem Tot.of_not (T : Tot o n) {i j : Nat} (hi : i < n) (hj : j < n) (hne : i ≠ j) (h : o i j = false) : o j i = true := by
  rcases T.tot i j hi hj hne with q | q
  · rw [h] at q; cases q
  · exact q
theorem pred_lt {a b : Nat} (h : a < b) : a - 1 < b := Nat.lt_of_le_of_lt (Nat.sub_le a 1) h
theorem lt_fuel {m f n : Nat} (h : m + (f + 1) ≤ n) : m < n := Nat.lt_of_lt_of_le (Nat.lt_add_of_pos_right (Nat.succ_pos f)) h
theorem le_fuel {m f n : Nat} (h : m + (f + 1) ≤ n) : m + 1 + f ≤ n := Nat.le_trans (Nat.le_of_eq (Nat.succ_add m f)) h
theorem fuel_le {m f n : Nat} (h : n ≤ m + 1 + f) : n ≤ m + (f + 1) := Nat.le_trans h (Nat.le_of_eq (Nat.succ_add m f))
theorem Tot.flip (T : Tot o n) : Tot (fun i j => o j i) n := ⟨T.irr, fun i j k hi hj hk a b => T.tr k j i hk hj hi b a, fun i j hi hj h => (T.tot i j hi hj h).symm⟩
/-- one more item at the end -/
theorem Up.snoc (T : Tot o n) (P : Pm p n) {m : Nat} (h : Up o p m) (hm : m < n) (h1 : 1 ≤ m) (q : o (p.getD (m - 1) 0) (p.getD m 0) = true) : Up o p (m + 1) := fun i j hij hj => by
  by_cases e : j = m
  · subst e
    by_cases e2 : i = j - 1
    · rw [e2]; exact q
    · exact T.tr _ _ _ (P.lt i (Nat.lt_trans hij hm)) (P.lt (j - 1) (pred_lt hm)) (P.lt j hm) (h i (j - 1) (Nat.lt_of_le_of_ne (Nat.le_sub_one_of_lt hij) e2) (Nat.sub_lt h1 Nat.one_pos)) q
  · exact h i j hij (Nat.lt_of_le_of_ne (Nat.le_of_lt_succ hj) e)
variable {cmp : Nat → Nat → (Bool → Shared → Prop) → Shared → Prop} {I : Shared → Prop}
theorem Pm.prev (P : Pm p n) {m : Nat} (h1 : 1 ≤ m) (hm : m < n) : p.getD m 0 ≠ p.getD (m - 1) 0 := fun e => Nat.ne_of_gt (Nat.sub_lt h1 Nat.one_pos) (P.inj m (m - 1) hm (pred_lt hm) e)
theorem asc_wp (H : CmpOk cmp I o n) (T : Tot o n) (P : Pm p n) {G : Nat → Shared → Prop} : ∀ (f m : Nat) (s : Shared), 1 ≤ m → m + f ≤ n → Up o p m → I s → (∀ r s', I s' → m ≤ r → r ≤ m + f → Up o p r → (r < m + f → o (p.getD r 0) (p.getD (r - 1) 0) = true) → G r s') → (kas_asc p f m).kasWp cmp G s
  | 0, m, s, h1, h2, h, hs, q => q m s hs (Nat.le_refl _) (Nat.le_refl _) h fun z => absurd z (Nat.lt_irrefl _)
  | f + 1, m, s, h1, h2, h, hs, q => H _ _ _ s (P.lt m (lt_fuel h2)) (P.lt (m - 1) (pred_lt (lt_fuel h2))) hs fun s' hs' => by
    have hm := lt_fuel h2
    cases c : o (p.getD m 0) (p.getD (m - 1) 0) with
    | true => exact q m s' hs' (Nat.le_refl _) (Nat.le_add_right _ _) h fun _ => c
    | false => exact asc_wp H T P f (m + 1) s' (Nat.le_add_left 1 m) (le_fuel h2) (h.snoc T P hm h1 (T.of_not (P.lt m hm) (P.lt (m - 1) (pred_lt hm)) (P.prev h1 hm) c)) hs' fun r s'' a1 a2 a3 a4 a5 => q r s'' a1 (Nat.le_of_succ_le a2) (fuel_le a3) a4 fun z => a5 (Nat.lt_of_lt_of_eq z (Nat.succ_add m f).symm)
/-- a falling row -/
noncomputable def Down (o : Nat → Nat → Bool) (p : Array Nat) (m : Nat) : Prop := ∀ i j, i < j → j < m → o (p.getD j 0) (p.getD i 0) = true
theorem desc_wp (H : CmpOk cmp I o n) (T : Tot o n) (P : Pm p n) {G : Array Nat × Nat × Nat → Shared → Prop} : ∀ (f m : Nat) (s : Shared), 1 ≤ m → m + f ≤ n → Down o p m → I s → (∀ m' s', I s' → m ≤ m' → m' ≤ m + f → Down o p m' → G (p, m', 0) s') → (kas_desc f p m 0).kasWp cmp G s
  | 0, m, s, h1, h2, h, hs, q => q m s hs (Nat.le_refl _) (Nat.le_refl _) h
  | f + 1, m, s, h1, h2, h, hs, q => H _ _ _ s (P.lt m (lt_fuel h2)) (P.lt (m - 1) (pred_lt (lt_fuel h2))) hs fun s' hs' => by
    have hm := lt_fuel h2
    cases c : o (p.getD m 0) (p.getD (m - 1) 0) with
    | true => exact desc_wp H T P f (m + 1) s' (Nat.le_add_left 1 m) (le_fuel h2) (Up.snoc T.flip P h hm h1 c) hs' fun m' s'' a1 a2 a3 a4 => q m' s'' a1 (Nat.le_of_succ_le a2) (fuel_le a3) a4
    | false =>
      refine H _ _ _ s' (P.lt (m - 1) (pred_lt hm)) (P.lt m hm) hs' fun s'' hs'' => ?_
      rw [T.of_not (P.lt m hm) (P.lt (m - 1) (pred_lt hm)) (P.prev h1 hm) c]
      exact q m s'' hs'' (Nat.le_refl _) (Nat.le_add_right _ _) h
theorem getD_of {q : Array Nat} {i v : Nat} (h : q[i]? = some v) : q.getD i 0 = v := by
  rw [Array.getD_eq_getD_getElem?, h]; rfl
/-- items moved -/
theorem Pm.comp {q : Array Nat} {r : Nat → Nat} (P : Pm p n) (sz : q.size = n) (g : ∀ i, i < n → q.getD i 0 = p.getD (r i) 0) (h1 : ∀ i, i < n → r i < n) (h2 : ∀ i j, r i = r j → i = j) : Pm q n :=
  ⟨sz, fun i hi => (g i hi).symm ▸ P.lt _ (h1 i hi), fun i j hi hj e => h2 i j (P.inj _ _ (h1 i hi) (h1 j hj) ((g i hi).symm.trans (e.trans (g j hj))))⟩
/-- the first m items turned round -/
noncomputable def rvI (m i : Nat) : Nat := if i < m then m - 1 - i else i
theorem rvI_lt {m i : Nat} (hm : m ≤ n) (hi : i < n) : rvI m i < n := by
  unfold rvI
  split
  · rename_i h; exact Nat.lt_of_lt_of_le (Nat.lt_of_le_of_lt (Nat.sub_le _ _) (Nat.sub_lt (Nat.zero_lt_of_lt h) Nat.one_pos)) hm
  · exact hi
theorem rvI_inj {m i j : Nat} (h : rvI m i = rvI m j) : i = j := by
  unfold rvI at h
  split at h <;> split at h <;> omega
theorem rev_get {m i : Nat} (P : Pm p n) (hm : m ≤ n) : (kas_rev p 0 m).getD i 0 = p.getD (rvI m i) 0 := by
  unfold kas_rev rvI
  have h := getElem?_mirror_all (xs := p) (i := 0) (j := m) (by rw [P.sz]; exact hm) i
  rw [Array.getD_eq_getD_getElem?, h]
  by_cases c : i < m
  · rw [if_pos ⟨Nat.zero_le _, c⟩, if_pos c, Array.getD_eq_getD_getElem?, Nat.zero_add]
  · rw [if_neg (fun q => c q.2), if_neg c, Array.getD_eq_getD_getElem?]
theorem rev_pm {m : Nat} (P : Pm p n) (hm : m ≤ n) : Pm (kas_rev p 0 m) n :=
  P.comp (by unfold kas_rev; rw [mirror_size, P.sz]) (fun i _ => rev_get P hm) (fun i hi => rvI_lt hm hi) fun i j e => rvI_inj e
theorem rev_up {m : Nat} (P : Pm p n) (hm : m ≤ n) (h : Down o p m) : Up o (kas_rev p 0 m) m := fun i j hij hj => by
  rw [rev_get P hm, rev_get P hm]
  unfold rvI
  rw [if_pos (Nat.lt_trans hij hj), if_pos hj]
  have hi : i < m - 1 := Nat.lt_of_lt_of_le hij (Nat.le_sub_one_of_lt hj)
  exact h _ _ (Nat.sub_lt_sub_left hi hij) (Nat.lt_of_le_of_lt (Nat.sub_le _ _) (Nat.sub_lt (Nat.zero_lt_of_lt hj) Nat.one_pos))
theorem count_wp (H : CmpOk cmp I o n) (T : Tot o n) (P : Pm p n) (hn : 1 ≤ n) {G : Nat × Array Nat → Shared → Prop} {s : Shared} (hs : I s) (q : ∀ m p' s', I s' → 1 ≤ m → m ≤ n → Pm p' n → Up o p' m → G (m, p') s') : (kas_count n p).kasWp cmp G s := by
  unfold kas_count
  rw [KasT.kasWp_bind]
  have en : 1 + (n - 1) = n := Nat.add_sub_cancel' hn
  refine asc_wp H T P (n - 1) 1 s (Nat.le_refl _) (Nat.le_of_eq en) (fun i j hij hj => absurd hij (by rw [Nat.lt_one_iff.mp hj]; exact Nat.not_lt_zero i)) hs fun m s1 hs1 a1 a2 a3 a4 => ?_
  rw [en] at a2 a4
  cases c : m == n with
  | true => exact q m p s1 hs1 a1 a2 P a3
  | false =>
    have hmn : m < n := Nat.lt_of_le_of_ne a2 (beq_eq_false_iff_ne.mp c)
    simp only [Bool.false_eq_true, if_false]
    by_cases h1 : m > 1
    · rw [if_pos h1]
      refine H _ _ _ s1 (P.lt 0 hn) (P.lt (m - 1) (pred_lt hmn)) hs1 fun s2 hs2 => ?_
      rw [a3 0 (m - 1) (Nat.sub_pos_of_lt h1) (Nat.sub_lt a1 Nat.one_pos)]
      exact q m p s2 hs2 a1 a2 P a3
    · rw [if_neg h1]
      have hm1 : m = 1 := Nat.le_antisymm (Nat.le_of_not_lt h1) a1
      subst hm1
      unfold kas_descPart
      rw [KasT.kasWp_bind]
      have e2 : 1 + 1 + (n - (1 + 1)) = n := Nat.add_sub_cancel' hmn
      refine desc_wp H T P (n - (1 + 1)) (1 + 1) s1 (Nat.le_succ 1) (Nat.le_of_eq e2) (fun i j hij hj => ?_) hs1 fun m' s2 hs2 b1 b2 b3 => ?_
      · have ej : j = 1 := Nat.le_antisymm (Nat.le_of_lt_succ hj) (Nat.zero_lt_of_lt hij)
        subst ej
        rw [Nat.lt_one_iff.mp hij]; exact a4 hmn
      · show (if 0 > 0 then _ else kas_tail3 m' n p).kasWp cmp G s2
        rw [if_neg (Nat.lt_irrefl 0)]
        unfold kas_tail3
        rw [KasT.kasWp_bind]
        rw [e2] at b2
        have P' := rev_pm (m := m') P b2
        have h1' := Nat.le_of_succ_le b1
        refine asc_wp H T P' (n - m') m' s2 h1' (Nat.le_of_eq (Nat.add_sub_cancel' b2)) (rev_up P b2 b3) hs2 fun r s3 hs3 d1 d2 d3 _ => q r _ s3 hs3 (Nat.le_trans h1' d1) ?_ P' d3
        rwa [Nat.add_sub_cancel' b2] at d2
theorem place_wp (H : CmpOk cmp I o n) (T : Tot o n) (P : Pm p n) {k : Nat} (hk : k < n) (hu : Up o p k) {G : Nat → Shared → Prop} (q : ∀ x s', I s' → x ≤ k → (∀ i, i < x → o (p.getD i 0) (p.getD k 0) = true) → (∀ i, x ≤ i → i < k → o (p.getD k 0) (p.getD i 0) = true) → G x s') :
    ∀ (f l r : Nat) (s : Shared), r ≤ l + f → l ≤ r → r ≤ k → (∀ i, i < l → o (p.getD i 0) (p.getD k 0) = true) → (∀ i, r ≤ i → i < k → o (p.getD k 0) (p.getD i 0) = true) → I s → (kas_place p k f l r).kasWp cmp G s
  | 0, l, r, s, hf, hlr, hrk, h1, h2, hs => by
    have : l = r := Nat.le_antisymm hlr hf
    subst this
    exact q l s hs hrk h1 h2
  | f + 1, l, r, s, hf, hlr, hrk, h1, h2, hs => by
    unfold kas_place
    by_cases c : l ≥ r
    · rw [if_pos c]
      have : l = r := Nat.le_antisymm hlr c
      subst this
      exact q l s hs hrk h1 h2
    · rw [if_neg c]
      obtain ⟨m1, m2⟩ : l ≤ (l + r) / 2 ∧ (l + r) / 2 < r := by omega
      generalize (l + r) / 2 = t at *
      have tk := Nat.lt_of_lt_of_le m2 hrk
      have tn := Nat.lt_trans tk hk
      refine H _ _ _ s (P.lt k hk) (P.lt _ tn) hs fun s' hs' => ?_
      cases z : o (p.getD k 0) (p.getD t 0) with
      | true =>
        refine place_wp H T P hk hu q f l t s' (Nat.le_of_lt_succ (Nat.lt_of_lt_of_le m2 hf)) m1 (Nat.le_of_lt tk) h1 (fun i hi hik => ?_) hs'
        by_cases e : t = i
        · rw [← e]; exact z
        · exact T.tr _ _ _ (P.lt k hk) (P.lt t tn) (P.lt i (Nat.lt_trans hik hk)) z (hu _ _ (Nat.lt_of_le_of_ne hi e) hik)
      | false =>
        have q' := T.of_not (P.lt k hk) (P.lt _ tn) (fun e => Nat.ne_of_gt tk (P.inj _ _ hk tn e)) z
        refine place_wp H T P hk hu q f (t + 1) r s' (Nat.le_trans hf (Nat.le_trans (Nat.add_le_add_right m1 _) (Nat.le_of_eq (Nat.succ_add t f).symm))) m2 hrk (fun i hi => ?_) h2 hs'
        by_cases e : i = t
        · rw [e]; exact q'
        · have hit := Nat.lt_of_le_of_ne (Nat.le_of_lt_succ hi) e
          exact T.tr _ _ _ (P.lt i (Nat.lt_trans hit tn)) (P.lt t tn) (P.lt k hk) (hu _ _ hit tk) q'
noncomputable def bbI (l k i : Nat) : Nat := if i = l then k else if l < i ∧ i ≤ k then i - 1 else i
theorem bbI_lt {l k i : Nat} (hk : k < n) (hi : i < n) : bbI l k i < n := by
  unfold bbI
  split
  · exact hk
  · split
    · exact pred_lt hi
    · exact hi
theorem bbI_inj {l k i j : Nat} (hl : l ≤ k) (h : bbI l k i = bbI l k j) : i = j := by
  unfold bbI at h
  split at h <;> split at h <;> (try split at h) <;> (try split at h) <;> omega
theorem bub_get {k l i : Nat} (P : Pm p n) (hk : k < n) (hl : l ≤ k) : (bubble p k (k - l)).getD i 0 = p.getD (bbI l k i) 0 := by
  have h := getElem?_bubble (xs := p) (src := k) (by rw [P.sz]; exact hk) (k - l) (Nat.sub_le _ _) i
  rw [Nat.sub_sub_self hl] at h
  rw [Array.getD_eq_getD_getElem?, h]
  unfold bbI
  by_cases c : i = l
  · rw [if_pos c, if_pos c, Array.getD_eq_getD_getElem?]
  · rw [if_neg c, if_neg c]
    by_cases c2 : l < i ∧ i ≤ k
    · rw [if_pos c2, if_pos c2, Array.getD_eq_getD_getElem?]
    · rw [if_neg c2, if_neg c2, Array.getD_eq_getD_getElem?]
theorem bub_pm {k l : Nat} (P : Pm p n) (hk : k < n) (hl : l ≤ k) : Pm (bubble p k (k - l)) n :=
  P.comp (by rw [bubble_size, P.sz]) (fun i _ => bub_get P hk hl) (fun i hi => bbI_lt hk hi) fun i j e => bbI_inj hl e
/-- where an item lies up to k once the k-th has been put to l -/
theorem bbI_up {l k i : Nat} (hl : l ≤ k) (hi : i ≤ k) : (i < l ∧ bbI l k i = i) ∨ (i = l ∧ bbI l k i = k) ∨ (l < i ∧ bbI l k i = i - 1) := by
  unfold bbI
  rcases Nat.lt_trichotomy i l with h | h | h
  · exact .inl ⟨h, by rw [if_neg (Nat.ne_of_lt h), if_neg fun z => Nat.lt_asymm h z.1]⟩
  · exact .inr (.inl ⟨h, if_pos h⟩)
  · exact .inr (.inr ⟨h, by rw [if_neg (Nat.ne_of_gt h), if_pos ⟨h, hi⟩]⟩)
theorem bin_wp (H : CmpOk cmp I o n) (T : Tot o n) {G : Array Nat → Shared → Prop} (q : ∀ p s', I s' → Pm p n → Up o p n → G p s') : ∀ (f : Nat) (p : Array Nat) (k : Nat) (s : Shared), k + f = n → Pm p n → Up o p k → I s → (kas_bin f p k).kasWp cmp G s
  | 0, p, k, s, e, P, h, hs => by
    subst e
    exact q p s hs P h
  | f + 1, p, k, s, e, P, h, hs => by
    unfold kas_bin
    rw [KasT.kasWp_bind]
    have hk : k < n := lt_fuel (Nat.le_of_eq e)
    refine place_wp H T P hk h (fun l s' hs' a1 a2 a3 => ?_) k 0 k s (Nat.le_add_left _ _) (Nat.zero_le _) (Nat.le_refl _) (fun i hi => absurd hi (Nat.not_lt_zero i)) (fun i h1 h2 => absurd h2 (Nat.not_lt_of_le h1)) hs
    refine bin_wp H T q f _ (k + 1) s' ((Nat.succ_add k f).trans e) (bub_pm P hk a1) (fun i j hij hj => ?_) hs'
    have hj := Nat.le_of_lt_succ hj
    have hi := Nat.le_trans (Nat.le_of_lt hij) hj
    rw [bub_get P hk a1, bub_get P hk a1]
    rcases bbI_up a1 hj with ⟨c, e2⟩ | ⟨c, e2⟩ | ⟨c, e2⟩
    · rcases bbI_up a1 hi with ⟨c', e1⟩ | ⟨c', e1⟩ | ⟨c', e1⟩
      · rw [e1, e2]; exact h _ _ hij (Nat.lt_of_lt_of_le c a1)
      · exact absurd (Nat.lt_trans hij c) (by rw [c']; exact Nat.lt_irrefl l)
      · exact absurd (Nat.lt_trans hij c) (Nat.lt_asymm c')
    · rw [c] at hij
      rcases bbI_up a1 hi with ⟨c', e1⟩ | ⟨c', e1⟩ | ⟨c', e1⟩
      · rw [e1, e2]; exact a2 _ c'
      · exact absurd hij (by rw [c']; exact Nat.lt_irrefl l)
      · exact absurd hij (Nat.lt_asymm c')
    · have j1 : j - 1 < k := Nat.lt_of_lt_of_le (Nat.sub_lt (Nat.zero_lt_of_lt c) Nat.one_pos) hj
      rcases bbI_up a1 hi with ⟨c', e1⟩ | ⟨c', e1⟩ | ⟨c', e1⟩
      · rw [e1, e2]; exact h _ _ (Nat.lt_of_lt_of_le c' (Nat.le_sub_one_of_lt c)) j1
      · rw [e1, e2]; exact a3 _ (Nat.le_sub_one_of_lt c) j1
      · rw [e1, e2]; exact h _ _ (Nat.sub_lt_sub_right (Nat.zero_lt_of_lt c') hij) j1
/-- the sort sorts -/
theorem sort_wp (H : CmpOk cmp I o n) (T : Tot o n) (hn : 1 ≤ n) {G : Array Nat → Shared → Prop} {s : Shared} (hs : I s) (q : ∀ p s', I s' → Pm p n → Up o p n → G p s') : (kas_sort n).kasWp cmp G s := by
  have P0 : Pm (List.toArray (List.range n)) n := by
    have g : ∀ i, i < n → (List.toArray (List.range n)).getD i 0 = i := fun i hi => getD_of (by simp [hi])
    exact ⟨by simp, fun i hi => by rw [g i hi]; exact hi, fun i j hi hj e => by rw [g i hi, g j hj] at e; exact e⟩
  unfold kas_sort
  rw [KasT.kasWp_bind]
  refine count_wp H T P0 hn hs fun m p' s1 hs1 b1 b2 P u => ?_
  dsimp only
  by_cases c : m < n
  · rw [if_pos c]
    exact bin_wp H T q _ p' (max m 1) s1 (by omega) P (by rw [show max m 1 = m by omega]; exact u) hs1
  · rw [if_neg c]
    have : m = n := by omega
    subst this
    exact q p' s1 hs1 P u
end
end Mine.Internal

namespace Mine.Internal
open PySem PySem.W PyProof.Rows PySem.Calls PySem.F

/-! items() of a dict, gone over by pairs -/
noncomputable def itemIt (D : Addr) (n ep : Nat) (i : Nat) : Cell := .raw fun o => ∃ ok ov : Value, o = { cls := .type "dict_itemiterator", dict := none, data := .fields #[.none, .bool false, .ref D, .int i 0, .int n 0, .int ep 0, ok, ov], slots := #[] }
noncomputable def itemOut (D : Addr) (n ep : Nat) (T : Addr) (i : Nat) : Cell := .raw fun o => ∃ ok ov : Value, o = { cls := .type "dict_itemiterator", dict := none, data := .fields #[rawInt T, .bool false, .ref D, .int i 0, .int n 0, .int ep 0, ok, ov], slots := #[] }

section
variable {c : Cx} {A : Around} {E : Value → AS → Prop} {a : AS} {env : Env} {fs : List Frm} {σ : Addr → Option (Nat × Cell)} {g : Array GenState} {k : Nat} {D : Addr} {kvs : List (AV × AV)} {ep : Nat}

theorem W_dict_items {Q : Value → AS → Prop} (hl : σ D = some (k, .dict kvs ep)) (h : ∀ v, σ v = none → ∀ σ', σ' = upd σ v (some (9, viewCell "dict_items" D)) → Q (.ref v) ⟨fs, σ', g⟩) : W c A (call (.builtin "dict.items") [.ref D]) Q E ⟨fs, σ, g⟩ := fun s hs => by
  obtain ⟨kvs', hd, e⟩ := own_dict hs hl
  refine call_meetsIn slot_dict_items hd.dictOf.mapOf.typeIs entry_dict_items (args_dict_items_1 _) (meets_dict_items (avKind c.prog c.w) D (notSys hs hl)) ⟨⟨_, hd.dictOf⟩, ?_⟩
  exact ⟨_, hs.alloc (k := 9) (cl := viewCell "dict_items" D) ⟨rfl, rfl⟩ rfl, h _ hs.fresh.1 _ rfl⟩
theorem W_iter_items {v : Addr} {k' : Nat} {Q : Value → AS → Prop} (hv : σ v = some (k', viewCell "dict_items" D)) (hl : σ D = some (k, .dict kvs ep)) (h : ∀ it, σ it = none → ∀ σ', σ' = upd σ it (some (9, itemIt D kvs.length ep 0)) → Q (.ref it) ⟨fs, σ', g⟩) : W c A (pyIter (.ref v)) Q E ⟨fs, σ, g⟩ := fun s hs => by
  obtain ⟨kvs', hd, e⟩ := own_dict hs hl
  have hlen : kvs'.length = kvs.length := by rw [e]; simp
  obtain ⟨⟨o, ho, hc, hdd⟩, _⟩ := hs.own v k' _ hv
  exact wpAny_pyIter_items ⟨o, ho, hc, hdd⟩ hd ⟨_, hs.alloc (k := 9) (cl := itemIt D kvs.length ep 0) ⟨.none, .none, by rw [hlen]; rfl⟩ rfl, h _ hs.fresh.1 _ rfl⟩

theorem W_next_items {it : Addr} {i : Nat} {q : AV × AV} {Q : Option Value → AS → Prop} (hit : σ it = some (9, itemIt D kvs.length ep i)) (hl : σ D = some (k, .dict kvs ep)) (hq : kvs[i]? = some q)
    (h : ∀ T, σ T = none → ∀ σ', σ' = upd (upd σ it (some (9, itemOut D kvs.length ep T (i + 1)))) T (some (9, .tuple [q.1, q.2])) → Q (some (.ref T)) ⟨fs, σ', g⟩) : W c A (pyNext (.ref it)) Q E ⟨fs, σ, g⟩ := fun s hs => by
  obtain ⟨kvs', hd, e⟩ := own_dict hs hl
  have hlen : kvs'.length = kvs.length := by rw [e]; simp
  obtain ⟨u, hu, eu⟩ := get_erP e hq
  obtain ⟨⟨o, ho, ok, ov, rfl⟩, _⟩ := hs.own it 9 _ hit
  rw [← hlen] at ho
  refine wpAny_pyNext_items_item ho hd hu fun key h' hkk hi hT hsz hk => ?_
  obtain ⟨f1, f2, f3⟩ := hs.fresh
  have S1 := hs.put (k' := 9) (cl' := itemOut D kvs.length ep s.heap.objs.size (i + 1)) hit hk hi ⟨key, u, by rw [hlen]⟩
  exact ⟨_, S1.take (cl := .tuple [q.1, q.2]) 9 f3 f2 hT ⟨#[key, u], 0, rfl, by show [er key, er u] = _; rw [(avKind_is.mp hkk).1, eu]⟩, h _ f1 _ rfl⟩
theorem W_go_items {it T : Addr} {i n : Nat} {elts : List Expr} {kk : Nat} {p : Pos} {Q : Unit → AS → Prop} (hit : σ it = some (9, itemOut D n ep T i)) (h : ∀ σ', σ' = upd σ it (some (9, itemIt D n ep i)) → Q () ⟨fs, σ', g⟩) :
    W c A (letOwnedTupleGo (.Tuple elts kk p) (.ref it) (.ref T)) Q E ⟨fs, σ, g⟩ := fun s hs => by
  obtain ⟨⟨o, ho, ok, ov, rfl⟩, _⟩ := hs.own it 9 _ hit
  refine wpAny_letOwnedTupleGo_items ho fun h' he hsb => ?_
  exact ⟨_, hs.put (k' := 9) (cl' := itemIt D n ep i) hit (fun b o q z => (hsb.2 b q).trans z) he ⟨ok, ov, rfl⟩, h _ rfl⟩
theorem W_end_items {it : Addr} {Q : Option Value → AS → Prop} (hh : A.handled = none) (hit : σ it = some (9, itemIt D kvs.length ep kvs.length)) (hl : σ D = some (k, .dict kvs ep)) (h : ∀ σ', σ' = upd σ it none → Q none ⟨fs, σ', g⟩) : W c A (pyNext (.ref it)) Q E ⟨fs, σ, g⟩ := fun s hs => by
  obtain ⟨kvs', hd, e⟩ := own_dict hs hl
  have hlen : kvs'.length = kvs.length := by rw [e]; simp
  obtain ⟨⟨o, ho, ok, ov, rfl⟩, _⟩ := hs.own it 9 _ hit
  rw [← hlen] at ho
  exact wpAny_pyNext_items_end hh ho hd (List.getElem?_eq_none (Nat.le_refl _)) fun h' hx => ⟨_, hs.drop hit (fun b o q z => hx b o q z), h _ rfl⟩

inductive ItemI (L : Addr) (cl : List (Str × Addr)) (ns : List Str) (fs : List Frm) (g : Array GenState) (C : List Nat) (J : Nat → List (Option AV) → (Addr → Option (Nat × Cell)) → Prop) (σ₀ : Addr → Option (Nat × Cell)) (it D : Addr) (k : Nat) (kvs : List (AV × AV)) (ep : Nat) (n : Nat) (a : AS) : Prop
  | mk (i : Nat) (vv : List (Option AV)) (σ : Addr → Option (Nat × Cell)) : a = ⟨⟨L, cl, ns, vv⟩ :: fs, σ, g⟩ → n + i = kvs.length → σ it = some (9, itemIt D kvs.length ep i) → σ D = some (k, .dict kvs ep) → J i vv σ → Ext C σ₀ σ → ItemI L cl ns fs g C J σ₀ it D k kvs ep n a

theorem Wk_items {L : Addr} {cl : List (Str × Addr)} {ns : List Str} {elts : List Expr} {kk : Nat} {p : Pos} {it : Addr} {body : List Stmt} {vv₀ : List (Option AV)} {σ₀ σ₁ : Addr → Option (Nat × Cell)} {R : Result → AS → Prop}
    (hh : A.handled = none) (C : List Nat) (h9 : 9 ∉ C) (hk : k ∉ C) (J : Nat → List (Option AV) → (Addr → Option (Nat × Cell)) → Prop)
    (stab : ∀ i vv σ σ', J i vv σ → Ext [9] σ σ' → J i vv σ') (hit : σ₀ it = none) (e₁ : σ₁ = upd σ₀ it (some (9, itemIt D kvs.length ep 0))) (hsrc : σ₀ D = some (k, .dict kvs ep)) (hJ : J 0 vv₀ σ₀)
    (turn : ∀ i q vv σ T P X, Lx L cl ns fs g C σ (J (i + 1)) R P → (∀ e a', Noted c A env (fun e a' => R (.error e) a') e a' → X e a') → J i vv σ → kvs[i]? = some q → σ T = some (9, .tuple [q.1, q.2]) → σ D = some (k, .dict kvs ep) → Ext C σ₀ σ →
      W c A (assign (.Tuple elts kk p) env (.ref T)) (fun _ a₂ => W c A (execs body env) P X a₂) X ⟨⟨L, cl, ns, vv⟩ :: fs, σ, g⟩)
    (fin : ∀ vv σ, J kvs.length vv σ → Ext C σ₀ σ → R (.ok .next) ⟨⟨L, cl, ns, vv⟩ :: fs, σ, g⟩) :
    Wk c A (.forLoop (.Tuple elts kk p) (.ref it) body [] env) R ⟨⟨L, cl, ns, vv₀⟩ :: fs, σ₁, g⟩ := by
  have hDi : D ≠ it := fun z => by rw [z, hit] at hsrc; cases hsrc
  refine Wk_for (I := ItemI L cl ns fs g C J σ₀ it D k kvs ep) (fun n a hI => ?_) kvs.length ⟨0, vv₀, σ₁, rfl, rfl, by rw [e₁]; exact upd_self, by rw [e₁, upd_ne hDi]; exact hsrc, stab _ _ _ _ hJ (by rw [e₁]; exact Ext.upd_new hit), by rw [e₁]; exact Ext.upd_new hit⟩
  obtain ⟨i, vv, σ, rfl, hn, hc, hs, hj, hx⟩ := hI
  cases n with
  | zero =>
    obtain rfl : i = kvs.length := (Nat.zero_add i).symm.trans hn
    exact W_end_items hh hc hs fun σ' e' => W_nil (fin vv _ (stab _ _ _ _ hj (by rw [e']; exact Ext.upd_own hc (by simp))) (by rw [e']; exact fun y k' cl' q1 q2 => by rw [upd_ne (fun z => by rw [z, hit] at q1; cases q1)]; exact hx y k' cl' q1 q2))
  | succ n =>
    have hi : i < kvs.length := by omega
    have hq : kvs[i]? = some kvs[i] := List.getElem?_eq_getElem hi
    refine W_next_items hc hs hq fun T hT σ' e' => ?_
    have hTi : T ≠ it := fun z => by rw [z, hc] at hT; cases hT
    have hTD : D ≠ T := fun z => by rw [z, hT] at hs; cases hs
    refine W_go_items (i := i + 1) (T := T) (by rw [e', upd_ne (Ne.symm hTi)]; exact upd_self) fun σ2 e2 => ?_
    have X9 : Ext [9] σ σ2 := by
      rw [e2, e']
      refine (Ext.upd_own hc (by simp)).trans ((Ext.upd_new (by rw [upd_ne hTi]; exact hT)).trans (Ext.upd_own (k := 9) (cl := itemOut D kvs.length ep T (i + 1)) ?_ (by simp)))
      rw [upd_ne (Ne.symm hTi)]; exact upd_self
    have off : Ext C σ₀ σ2 := fun y k' cl' q1 q2 => by
      have n1 : y ≠ it := fun z => by rw [z, hit] at q1; cases q1
      have q3 := hx y k' cl' q1 q2
      have n2 : y ≠ T := fun z => by rw [z, hT] at q3; cases q3
      rw [e2, upd_ne n1, e', upd_ne n2, upd_ne n1]; exact q3
    have hs2 : σ2 D = some (k, .dict kvs ep) := by rw [e2, upd_ne hDi, e', upd_ne hTD, upd_ne hDi]; exact hs
    refine W_mono (turn i kvs[i] vv σ2 T (fun fl a' => match fl with
      | .next | .cont => ∃ vv' σ', a' = ⟨⟨L, cl, ns, vv'⟩ :: fs, σ', g⟩ ∧ Ext C σ2 σ' ∧ J (i + 1) vv' σ'
      | .brk => R (.ok .next) a'
      | .ret v => R (.ok (.ret v)) a') _ ⟨fun vv' σ' x j => ⟨vv', σ', rfl, x, j⟩, fun vv' σ' x j => ⟨vv', σ', rfl, x, j⟩, fun _ h => h, fun _ _ h => h⟩ (fun _ _ h => h) (stab _ _ _ _ hj X9) hq (by rw [e2, upd_ne hTi, e', upd_self]) hs2 off) (fun _ a₂ q => ?_) fun _ _ x => x
    refine W_mono q (fun fl a' q => ?_) fun _ _ x => x
    have hc2 : σ2 it = some (9, itemIt D kvs.length ep (i + 1)) := by rw [e2, upd_self]
    have go : (∃ vv' σ', a' = ⟨⟨L, cl, ns, vv'⟩ :: fs, σ', g⟩ ∧ Ext C σ2 σ' ∧ J (i + 1) vv' σ') → ∃ m, m < n + 1 ∧ ItemI L cl ns fs g C J σ₀ it D k kvs ep m a' := by
      rintro ⟨vv', σ', rfl, q1, q2⟩
      exact ⟨n, Nat.lt_succ_self n, i + 1, vv', σ', rfl, by omega, q1 it 9 _ hc2 h9, q1 _ _ _ hs2 hk, q2, off.trans q1⟩
    cases fl with
    | next => exact go q
    | cont => exact go q
    | brk => exact q
    | ret v => exact q
end
end Mine.Internal

namespace Mine.Internal
open PySem PySem.W PyProof.Rows PySem.Calls

/-- the names that the laws' own defs of 02 reach -/
structure Lv (c : Cx) : Prop extends Lw c where
  CycleError : Glob c "CycleError" (.ref 55)
  TS : Glob c "TopologicalSorter" (.ref 137)
  range : Glob c "range" (.type "range")
  list : Glob c "list" (.type "list")
  max : Glob c "max" (.builtin "max")
  sum : Glob c "sum" (.builtin "sum")
  sorted : Glob c "sorted" (.builtin "sorted")
  ring : Glob c "_law_ring" (.ref 146)
  graph : Glob c "_law_graph" (.ref 153)
  rows : Glob c "_law_rows" (.ref 158)
  told : Glob c "_law_told" (.ref 165)
  named : Glob c "_law_named" (.ref 172)
  groups : Glob c "_law_groups" (.ref 179)
  rounds : Glob c "_law_rounds" (.ref 186)

noncomputable def SS.nil : SS := ⟨[], fun _ => 0, fun _ => [], none, 0, 0⟩
/-- a graph: each key with its predecessors -/
noncomputable abbrev Gr := List (AV × List AV)
noncomputable def SS.adG (G : Gr) : SS := G.foldl (fun s q => s.add q.1 q.2) SS.nil
noncomputable def wtG (G : Gr) : Nat := (G.map fun q => q.2.length + 1).sum
structure GrAt (σ : Addr → Option (Nat × Cell)) (D : Addr) (k : Nat) (as : List Addr) (ep : Nat) (G : Gr) : Prop where
  d : σ D = some (k, .dict ((G.map (·.1)).zip (as.map AV.ref)) ep)
  len : as.length = G.length
  row : ∀ (j : Nat) (p : Addr) (q : AV × List AV), as[j]? = some p → G[j]? = some q → σ p = some (0, .list q.2)
structure GrOk (G : Gr) : Prop where
  key : ∀ q ∈ G, q.1.isKey = true ∧ ∀ p ∈ q.2, p.isKey = true
  wt : wtG G ≤ 90000
theorem SS.adG_snoc {G : Gr} {q : AV × List AV} : SS.adG (G ++ [q]) = (SS.adG G).add q.1 q.2 := by unfold SS.adG; rw [List.foldl_append]; rfl
theorem wtG_snoc {G : Gr} {q : AV × List AV} : wtG (G ++ [q]) = wtG G + (q.2.length + 1) := by unfold wtG; rw [List.map_append, List.sum_append]; simp
theorem adds_ready {k : AV} : ∀ {ps : List AV} {st : SS}, (ps.foldl (fun (s : SS) p => s.succ k p) st).ready = st.ready
  | [], _ => rfl
  | p :: ps, st => adds_ready (ps := ps) (st := st.succ k p)
theorem SS.add_ready {st : SS} {k : AV} {ps : List AV} : (st.add k ps).ready = st.ready := adds_ready
theorem adG_take {G : Gr} {i : Nat} {q : AV × List AV} (h : G[i]? = some q) : SS.adG (G.take (i + 1)) = (SS.adG (G.take i)).add q.1 q.2 ∧ wtG (G.take (i + 1)) = wtG (G.take i) + (q.2.length + 1) := by
  rw [List.take_add_one, h]; exact ⟨SS.adG_snoc, wtG_snoc⟩
theorem adG_facts {G : Gr} : ∀ i, (SS.adG (G.take i)).ready = none ∧ (SS.adG (G.take i)).Fit (wtG (G.take i))
  | 0 => ⟨rfl, ⟨Nat.le_refl 0, fun _ => Nat.le_refl 0⟩⟩
  | i + 1 => by
    cases h : G[i]? with
    | none => rw [List.take_add_one, h]; simpa using adG_facts i
    | some q =>
      obtain ⟨e1, e2⟩ := adG_take h
      obtain ⟨h1, h2⟩ := adG_facts (G := G) i
      rw [e1, e2]
      exact ⟨SS.add_ready.trans h1, h2.add.mono (by rw [Nat.add_assoc, Nat.add_comm 1]; exact Nat.le_refl _)⟩
theorem wtG_le : ∀ {G : Gr} {i : Nat} {q : AV × List AV}, G[i]? = some q → wtG (G.take i) + (q.2.length + 1) ≤ wtG G := fun {G i q} h => by
  obtain ⟨_, e⟩ := adG_take h
  rw [← e]
  unfold wtG
  conv => rhs; rw [← List.take_append_drop (i + 1) G, List.map_append, List.sum_append]
  exact Nat.le_add_right _ _
theorem bind_tinit2 {w : World} {u v : Value} {s : Shared} (X : (KK w).In s.heap) : BindsTo s (fdOf (KK w) 73) ⟨[u, v], []⟩ ((["self", "graph"] : List Str).zip [u, v]) :=
  BindsTo.of_defaults rfl (X _ _ rfl) rfl rfl (by kernel_rfl)
noncomputable def SO (σ : Addr → Option (Nat × Cell)) (x : Addr) (st : SS) : Prop := ∃ dx nd rv as ep, SAt σ x st dx nd rv as ep
theorem SO.ext {σ σ' : Addr → Option (Nat × Cell)} {x : Addr} {st : SS} {C : List Nat} (h : SO σ x st) (e : Ext C σ σ') (h1 : 1 ∉ C) (h2 : 2 ∉ C) : SO σ' x st := by
  obtain ⟨dx, nd, rv, as, ep, S⟩ := h
  exact ⟨dx, nd, rv, as, ep, S.ext e h1 h2⟩
section
variable {c : Cx} {A : Around} {E : Value → AS → Prop} {fs : List Frm} {σ : Addr → Option (Nat × Cell)} {g : Array GenState} {d : Nat} {x : Addr}
theorem W_assign_T2 {env : Env} {x y : Str} {px py p : Pos} {kk : Nat} {l : Addr} {v1 v2 : AV} {Q : Unit → AS → Prop} (hl : Starry c ⟨fs, σ, g⟩ l [v1, v2]) (hh : A.handled = none)
    (h : All v1 (fun u1 => W c A (storeName env x u1) (fun _ a₂ => All v2 (fun u2 => W c A (storeName env y u2) Q E a₂)) E ⟨fs, σ, g⟩)) : W c A (assign (.Tuple [.Name x px, .Name y py] kk p) env (.ref l)) Q E ⟨fs, σ, g⟩ := by
  refine W_assign_Tuple hl rfl hh fun us eu => ?_
  obtain ⟨u1, us, rfl, q1, eu⟩ := List.map_eq_cons_iff.mp eu
  obtain ⟨u2, us, rfl, q2, eu⟩ := List.map_eq_cons_iff.mp eu
  rw [List.map_eq_nil_iff] at eu; subst eu
  exact W_inOrder_cons (W_assign_Name (W_mono (h.at q1) (fun _ a₂ q => W_inOrder_cons (W_assign_Name (W_mono (q.at q2) (fun _ a₂ q => W_inOrder_nil q) fun _ _ x => x))) fun _ _ x => x))

theorem tinit2_spec {y dy D : Addr} {as : List Addr} {ep : Nat} {G : Gr} {R : Result → AS → Prop} (lw : Lw c) (hA : AOk A fs (d + 6)) (hy : σ y = some (1, .inst CTS dy [])) (hdy : σ dy = some (1, .attrs [])) (hG : GrAt σ D 0 as ep G) (ok : GrOk G)
    (h : ∀ σ', Ext [1, 2] σ σ' → SO σ' y (SS.adG G) → R (.ok (.ret .none)) ⟨fs, σ', g⟩) : Wk c A (.call (.ref 73) ⟨[.ref y, .ref D], []⟩) R ⟨fs, σ, g⟩ := by
  refine Wk_call_GD lw.K (vals := [.ref y, .ref D]) (ns := ["self", "graph", "node", "predecessors"]) (us := [.ref y, .ref D]) (gs := []) fn_tinit rfl (fun s X => bind_tinit2 X) rfl (.cons (.cons (.rest (.rest .nil)))) (by simp) hA (fun L env B P X hfr hh hL hA' hout hE hFx hUx => ?_)
  have ne : dy ≠ y := fun q => by rw [q, hy] at hdy; cases hdy
  refine W_consG (fun _ _ => ?_)
  repeat walk_at "st"
  refine W_Dict_nil (W_newDict 1 (fun nd h0 σ1 e1 => ?_))
  repeat walk_at "st"
  have n1 : y ≠ nd := fun q => by rw [← q, hy] at h0; cases h0
  have n2 : dy ≠ nd := fun q => by rw [← q, hdy] at h0; cases h0
  have y1 : σ1 y = some (1, .inst CTS dy []) := by rw [e1, upd_ne n1]; exact hy
  refine W_setAttr y1 (by rw [e1, upd_ne n2]; exact hdy) (lw.K ▸ a_node2info) .new (by simp) (by simp) ?_
  repeat walk_at "st"
  refine W_setAttr (by rw [upd_ne (Ne.symm ne)]; exact y1) upd_self (lw.K ▸ a_ready) (.there .new) (nodup_of_codes (by show ((["_node2info", "_ready_nodes"] : List Str).map codeOf).Nodup; decide +kernel)) (by simp) ?_
  rw [upd_upd]
  repeat walk_at "st"
  refine W_setAttr (by rw [upd_ne (Ne.symm ne)]; exact y1) upd_self (lw.K ▸ a_npass) (.there (.there .new)) (nodup_of_codes (by show ((["_node2info", "_ready_nodes", "_npassedout"] : List Str).map codeOf).Nodup; decide +kernel)) (by simp) ?_
  rw [upd_upd]
  repeat walk_at "st"
  refine W_setAttr (by rw [upd_ne (Ne.symm ne)]; exact y1) upd_self (lw.K ▸ a_nfin) (.there (.there (.there .new))) (nodup_of_codes (by show ((["_node2info", "_ready_nodes", "_npassedout", "_nfinished"] : List Str).map codeOf).Nodup; decide +kernel)) (by simp) ?_
  rw [upd_upd]
  have S0 : SAt (upd σ1 dy (some (1, .attrs (sAttrs nd .none SS.nil)))) y SS.nil dy nd .none [] 0 := ⟨by rw [upd_ne (Ne.symm ne)]; exact y1, upd_self, by rw [upd_ne (Ne.symm n2), e1]; exact upd_self, rfl, by simp [SS.nil], rfl, .nil, .nil, by simp [SS.nil], .nil, fun _ _ => ⟨rfl, rfl⟩⟩
  have X0 : Ext [1, 2] σ (upd σ1 dy (some (1, .attrs (sAttrs nd .none SS.nil)))) := by rw [e1]; exact (Ext.upd_new h0).trans (Ext.upd_own (by rw [upd_ne n2]; exact hdy) (by simp))
  change (_ : Flow → AS → Prop) Flow.next ⟨_, upd σ1 dy (some (1, .attrs (sAttrs nd .none SS.nil))), _⟩
  generalize upd σ1 dy (some (1, .attrs (sAttrs nd .none SS.nil))) = σ2 at *
  clear e1 y1
  repeat walk_at "st"
  refine W_For ?_
  repeat walk_at "st"
  intro pl
  have hD2 := X0 _ _ _ hG.d (by decide)
  refine W_meth_dict F.slot_dict_items F.type_dict_items hD2 ?_
  repeat walk_at "st"
  refine ⟨Kp.builtin, W_dict_items hD2 (fun vw h3 σ3 e3 => ?_)⟩
  have X3 : Ext [] σ2 σ3 := by rw [e3]; exact Ext.upd_new h3
  repeat walk_at "st"
  refine W_iter_items (by rw [e3]; exact upd_self) (X3 _ _ _ hD2 (by simp)) (fun it h4 σ4 e4 => ?_)
  refine Wk_items hh [1, 2] (by decide) (by decide) (fun i vv σ => ∃ b1 b2, vv = [some (.ref y), some (.ref D), b1, b2] ∧ SO σ y (SS.adG (G.take i)))
    (fun i vv σ σ' ⟨b1, b2, q1, q2⟩ e => ⟨b1, b2, q1, q2.ext e (by decide) (by decide)⟩) h4 e4 (X3 _ _ _ hD2 (by simp)) ⟨_, _, rfl, _, _, _, _, _, S0.ext X3 (by simp) (by simp)⟩ ?_ ?_
  · rintro i q vv σ5 T P5 E5 hP5 hE5 ⟨b1, b2, rfl, dx, nd, rv, bs, ep', S⟩ hq hT hD5 Y5
    obtain ⟨j1, j2⟩ := List.getElem?_eq_some_iff.mp hq
    have hi : i < G.length := by simp [hG.len] at j1; exact j1
    obtain ⟨p, hp⟩ : ∃ p, as[i]? = some p := ⟨_, List.getElem?_eq_getElem (by rw [hG.len]; exact hi)⟩
    have hg : G[i]? = some G[i] := List.getElem?_eq_getElem hi
    have hqe : q = (G[i].1, .ref p) := by
      rw [List.getElem?_zip_eq_some] at hq
      obtain ⟨a1, a2⟩ := hq
      rw [List.getElem?_map, hg] at a1
      rw [List.getElem?_map, hp] at a2
      exact Prod.ext (Option.some.inj a1).symm (Option.some.inj a2).symm
    have hpr := Y5 _ _ _ (X3 _ _ _ (X0 _ _ _ (hG.row i p _ hp hg) (by decide)) (by decide)) (by decide)
    obtain ⟨kx, kps⟩ := ok.key _ (List.mem_of_getElem? hg)
    have hw := Nat.le_trans (wtG_le hg) ok.wt
    obtain ⟨hr, hF⟩ := adG_facts (G := G) i
    have eG := (adG_take hg).1
    subst hqe
    generalize G[i] = q at *
    obtain ⟨n, ps⟩ := q
    replace hw : wtG (G.take i) + (ps.length + 1) ≤ 90000 := hw
    refine W_assign_T2 ⟨9, .inr hT⟩ hh (All.key kx fun u1 eu1 => ?_)
    repeat walk_at "st"
    refine W_Call_methodS ?_
    repeat walk_at "st"
    refine W_getBound S.x S.dx (lw.K ▸ bo_add) (no_attr (by decide +kernel)) (fun m5 h5 σ6 e6 => ?_)
    have X6 : Ext [] σ5 σ6 := by rw [e6]; exact Ext.upd_new h5
    obtain ⟨od, ho1, ho2⟩ := fdOf_ex (K := KK c.w) fn_add.fn
    refine W_callWith (W_args ?_)
    repeat walk_at "st"
    rw [eu1]
    refine All.key kx fun u2 eu2 => ?_
    refine W_spl_star ?_
    repeat walk_at "st"
    refine ⟨p, _, rfl, ⟨0, .inl (X6 _ _ _ hpr (by decide))⟩, by show ps.length ≤ _; omega, fun us hus => ?_⟩
    repeat walk_at "st"
    refine ⟨Kp.bound (by rw [e6]; exact upd_self) (lw.K ▸ ho1) ho2, W_call (Wk_bound (by rw [e6]; exact upd_self) (add_spec lw (N := wtG (G.take i)) (d := d) (hA'.vs.le (by omega)) (S.ext X6 (by simp) (by simp)) hr hF (by show _ + ps.length + 1 ≤ _; omega) eu2 kx (by simpa using hus) kps (fun σ7 as' ep' X7 S7 => ?_)))⟩
    dsimp only
    repeat walk_at "st"
    exact hP5.nx _ σ7 (X6.nil.trans X7) ⟨_, _, rfl, by rw [eG]; exact ⟨_, _, _, _, _, S7⟩⟩
  · rintro vv σ5 ⟨b1, b2, rfl, S⟩ Y5
    rw [List.length_zip, List.length_map, List.length_map, hG.len, Nat.min_self, List.take_length] at S
    repeat walk_at "st"
    exact h σ5 (X0.trans (X3.nil.trans Y5)) S
end
end Mine.Internal

namespace Mine.Internal
open PySem PySem.W PyProof.Rows PySem.Calls PySem.SeqAt

@[reducible] noncomputable def I2 (l : List Int) : List AV := l.map AV.int
theorem I2_mem {l : List Int} {n : Int} : AV.int n ∈ I2 l ↔ n ∈ l := by simp [I2]
theorem I2_key {l : List Int} : ∀ v ∈ I2 l, v.isKey = true := fun v hv => by
  obtain ⟨i, _, rfl⟩ := List.mem_map.mp hv; rfl

/-- each once, as they first come -/
noncomputable def uq (xs : List Int) : List Int := xs.foldl (fun S x => if x ∈ S then S else S ++ [x]) []
theorem uq_snoc {xs : List Int} {x : Int} : uq (xs ++ [x]) = if x ∈ uq xs then uq xs else uq xs ++ [x] := by unfold uq; rw [List.foldl_append]; rfl
theorem uq_take {xs : List Int} {i : Nat} {x : Int} (h : xs[i]? = some x) : uq (xs.take (i + 1)) = if x ∈ uq (xs.take i) then uq (xs.take i) else uq (xs.take i) ++ [x] := by
  rw [List.take_add_one, h]; exact uq_snoc
theorem uq_le (xs : List Int) : ∀ i, (uq (xs.take i)).length ≤ i ∧ (uq (xs.take i)).Nodup
  | 0 => ⟨Nat.le_refl 0, .nil⟩
  | i + 1 => by
    have ⟨h1, h2⟩ := uq_le xs i
    cases h : xs[i]? with
    | none => rw [List.take_add_one, h, Option.toList_none, List.append_nil]; exact ⟨Nat.le_succ_of_le h1, h2⟩
    | some x =>
      rw [uq_take h]
      split
      · exact ⟨Nat.le_succ_of_le h1, h2⟩
      · rename_i hx
        refine ⟨by rw [List.length_append]; exact Nat.succ_le_succ h1, List.nodup_append.mpr ⟨h2, by simp, fun a ha b hb e => hx ?_⟩⟩
        rw [← List.mem_singleton.mp hb, ← e]; exact ha
noncomputable def pqS (i : Int) : AV := .str ⟨#[if i = 0 then 112 else 113]⟩
noncomputable def ndStep (N : List Int) (wild : Bool) (x : Int) (p : Int × List AV) : Int × List AV :=
  (p.1.fdiv (N.length + 2), if (N.length : Int) ≤ p.1.fmod (N.length + 2) then p.2 ++ [pqS (p.1.fmod (N.length + 2) - N.length)]
    else if wild = true ∨ N.getD (p.1.fmod (N.length + 2)).toNat 0 < x then p.2 ++ [.int (N.getD (p.1.fmod (N.length + 2)).toNat 0)] else p.2)
noncomputable def ndIt (N : List Int) (wild : Bool) (x : Int) : Nat → Int × List AV
  | 0 => (x.fdiv 6, [])
  | n + 1 => ndStep N wild x (ndIt N wild x n)
noncomputable def wildB (N : List Int) : Bool := N.sum.fmod 4 == 3
noncomputable def grOf (N : List Int) : Gr := N.map fun x => (.int x, (ndIt N (wildB N) x (x.fmod 6).toNat).2)
noncomputable def lawNs (is : List Int) : List Int := uq (is.take 24 ++ [-9, 14, 35])

theorem ndIt_len {N : List Int} {wild : Bool} {x : Int} : ∀ n, (ndIt N wild x n).2.length ≤ n
  | 0 => Nat.le_refl 0
  | n + 1 => by
    have := ndIt_len (N := N) (wild := wild) (x := x) n
    unfold ndIt ndStep
    dsimp only
    split
    · rw [List.length_append]; exact Nat.succ_le_succ this
    · split
      · rw [List.length_append]; exact Nat.succ_le_succ this
      · exact Nat.le_succ_of_le this
theorem GrAt.ext {C : List Nat} {σ σ' : Addr → Option (Nat × Cell)} {D : Addr} {k : Nat} {as : List Addr} {ep : Nat} {G : Gr} (h : GrAt σ D k as ep G) (e : Ext C σ σ') (h0 : 0 ∉ C) (hk : k ∉ C) : GrAt σ' D k as ep G :=
  ⟨e _ _ _ h.d hk, h.len, fun j p q a b => e _ _ _ (h.row j p q a b) h0⟩
theorem GrAt.turn {σ : Addr → Option (Nat × Cell)} {D : Addr} {k k' : Nat} {as : List Addr} {ep : Nat} {G : Gr} (h : GrAt σ D k as ep G) (hk : k' ≠ 0) : GrAt (recol (fk k') σ) D (fk k' k) as ep G :=
  ⟨by show (σ D).map _ = _; rw [h.d]; rfl, h.len, fun j p q a b => recolk_ne (h.row j p q a b) (Ne.symm hk)⟩
/-- one more key -/
theorem GrAt.snoc {σ σ' : Addr → Option (Nat × Cell)} {D : Addr} {k : Nat} {as : List Addr} {ep ep' : Nat} {G : Gr} {q : AV × List AV} {p : Addr} (h : GrAt σ D k as ep G) (hk : k ≠ 0) (hp : σ p = some (0, .list q.2)) (hq : q.1 ∉ G.map (·.1))
    (e : σ' = upd σ D (some (k, .dict (dset ((G.map (·.1)).zip (as.map AV.ref)) q.1 (.ref p)) ep'))) : GrAt σ' D k (as ++ [p]) ep' (G ++ [q]) := by
  have ne : ∀ {y cl}, σ y = some (0, cl) → σ' y = some (0, cl) := fun {y cl} z => by rw [e, upd_ne (fun w => by rw [w, h.d] at z; cases z; exact hk rfl)]; exact z
  refine ⟨by rw [e, upd_self, dset_zip (by simp [h.len]) hq]; simp, by simp [h.len], fun j p' q' a b => ne ?_⟩
  by_cases hj : j < G.length
  · rw [List.getElem?_append_left (by rw [h.len]; exact hj)] at a
    rw [List.getElem?_append_left hj] at b
    exact h.row j p' q' a b
  · have hj2 := (List.getElem?_eq_some_iff.mp b).1
    rw [List.length_append] at hj2
    obtain rfl : j = G.length := Nat.le_antisymm (Nat.le_of_lt_succ hj2) (Nat.le_of_not_lt hj)
    rw [List.getElem?_append_right (Nat.le_refl _), Nat.sub_self] at b
    rw [List.getElem?_append_right (by rw [h.len]; exact Nat.le_refl _), h.len, Nat.sub_self] at a
    cases a; cases b; exact hp

theorem intsFrom_at {lo : Int} {n i : Nat} {v : AV} (h : (intsFrom lo n)[i]? = some v) : v = .int (lo + i) ∧ i < n := by
  unfold intsFrom at h
  rw [List.getElem?_map] at h
  obtain ⟨a, h1, h2⟩ := map_some_of h
  obtain ⟨h3, h4⟩ := List.getElem?_eq_some_iff.mp h1
  rw [List.getElem_range] at h4
  subst h4
  exact ⟨h2.symm, by simpa using h3⟩
section
variable {c : Cx} {A : Around} {E : Value → AS → Prop} {fs : List Frm} {σ : Addr → Option (Nat × Cell)} {g : Array GenState} {d : Nat} {x : Addr}
theorem noGet_str {a : AS} {x : Str} {t : Tok} : ∀ s, St c a s → Looks (model c.prog c.w) s.heap (getitemInPython (.str x t)) false := fun s hs A Q E s' kk q => by
  unfold getitemInPython specialOf
  refine wpAny_bind (wpAny_bind (wpAny_pure ?_))
  rw [PySem.F.slot_str_getitem.lookup]
  exact wpAny_pure (wpAny_pure q)
theorem fn_graph {w : World} : FnOk (KK w) 153 ["script"] ["nodes", "x", "wild", "graph", "needs", "rest", "turn", "j"] ["sum", "range", "len"] := ⟨rfl, rfl, rfl, rfl, rfl, rfl, rfl, rfl, rfl, by decide +kernel⟩

theorem log_lt {n : Nat} (h : n ≤ 1000) : (((n : Int) + 2).natAbs).log2 < 9000 := by
  have : (((n : Int) + 2).natAbs) = n + 2 := by omega
  rw [this]
  exact Nat.lt_of_le_of_lt (Nat.log2_le_self _) (by omega)
theorem two_ne (n : Nat) : ((n : Int) + 2) ≠ 0 := by omega
theorem fmod_rng (r : Int) (n : Nat) : 0 ≤ r.fmod ((n : Int) + 2) ∧ r.fmod ((n : Int) + 2) < (n : Int) + 2 := by
  rw [Int.fmod_eq_emod_of_nonneg _ (by omega)]
  exact ⟨Int.emod_nonneg _ (two_ne n), Int.emod_lt_of_pos _ (by omega)⟩
theorem pq_at {r : Int} {n : Nat} (h : (n : Int) ≤ r.fmod ((n : Int) + 2)) : ∃ m : Nat, r.fmod ((n : Int) + 2) - n = (m : Int) ∧ m < 1000000 ∧ ∃ ch, ("pq" : Str).cps[m]? = some ch ∧ (AV.str ⟨#[ch]⟩ = pqS (r.fmod ((n : Int) + 2) - n)) := by
  have := fmod_rng r n
  have : r.fmod ((n : Int) + 2) - n = 0 ∨ r.fmod ((n : Int) + 2) - n = 1 := by omega
  rcases this with e | e
  · exact ⟨0, e, by decide, 112, rfl, by rw [e]; rfl⟩
  · exact ⟨1, e, by decide, 113, rfl, by rw [e]; rfl⟩

set_option maxHeartbeats 1000000 in
theorem graph_spec {s : Addr} {is : List Int} {Q : Value → AS → Prop} (lv : Lv c) (hA : AOk A fs (d + 1)) (hs : BL c s (I2 is)) (hl : is.length ≤ 63)
    (h : ∀ gr as ep σ', Ext [5, 6] σ σ' → GrAt σ' gr 0 as ep (grOf (lawNs is)) → Q (.ref gr) ⟨fs, σ', g⟩) : W c A (call (.ref 153) [.ref s]) Q E ⟨fs, σ, g⟩ := by
  refine W_call_G lv.K (ns := ["script", "nodes", "x", "wild", "graph", "needs", "rest", "turn", "j"]) (us := [.ref s]) (gs := [("sum", .builtin "sum"), ("range", .type "range"), ("len", .builtin "len")]) fn_graph rfl (by kernel_rfl) rfl (.cons (.rest (.rest (.rest (.rest (.rest (.rest (.rest (.rest .nil))))))))) (by simp [lv.sum, lv.range, lv.len]) hA (fun L env B P X hfr hh hL hA' hout hE hFx hUx => ?_)
  refine W_consG (fun _ _ => ?_)
  repeat walk_at "st"
  refine W_newList 5 (by simp) (fun nd h1 σ1 e1 => ?_)
  repeat walk_at "st"
  refine W_For (W_BinOp (W_slice_toB 9 ?_))
  repeat walk_at "st"
  refine ⟨s, _, _, _, rfl, rfl, hs, by simp; omega, by decide, fun l2 h2 σ2 e2 => ?_⟩
  dsimp only at h2 e2 ⊢
  repeat walk_at "st"
  refine W_newList 9 (by simp) (fun l3 h3 σ3 e3 => ?_)
  have hll : l2 ≠ l3 := fun z => by rw [← z, e2, upd_self] at h3; cases h3
  refine W_list_add 0 (by rw [e3, upd_ne hll, e2]; exact upd_self) (by rw [e3]; exact upd_self) (by simp; omega) (fun l4 h4 σ4 e4 => ?_)
  have hsrc : σ4 l4 = some (0, .list (I2 (is.take 24 ++ [-9, 14, 35]))) := by rw [e4, upd_self]; simp [I2]
  have Xn : Ext [] σ1 σ4 := by
    rw [e4]; refine Ext.trans ?_ (Ext.upd_new h4)
    rw [e3]; refine Ext.trans ?_ (Ext.upd_new h3)
    rw [e2]; exact Ext.upd_new h2
  have X1 : Ext [5] σ σ4 := Ext.trans (by rw [e1]; exact Ext.upd_new h1) Xn.nil
  have hnd : σ4 nd = some (5, .list (I2 (uq ((is.take 24 ++ [-9, 14, 35]).take 0)))) := Xn _ _ _ (by rw [e1]; exact upd_self) (by simp)
  have hxl : (is.take 24 ++ [-9, 14, 35]).length ≤ 27 := by simp; omega
  clear e1 e2 e3 e4 h1 h2 h3 h4 hll Xn
  change ∀ gr as ep σ', Ext [5, 6] σ σ' → GrAt σ' gr 0 as ep (grOf (uq (is.take 24 ++ [-9, 14, 35]))) → Q (.ref gr) ⟨fs, σ', g⟩ at h
  generalize is.take 24 ++ [-9, 14, 35] = xs at *
  refine W_iter_list hsrc (fun it h5 σ5 e5 => ?_)
  refine Wk_loopG (IterOf.list (k := 0) hh) [5] (by decide) (by decide)
    (fun i vv σ => ∃ b, vv = [some (.ref s), some (.ref nd), b, none, none, none, none, none, none] ∧ σ nd = some (5, .list (I2 (uq (xs.take i)))))
    (fun i vv σ σ' ⟨b, q1, q2⟩ e => ⟨b, q1, e _ _ _ q2 (by decide)⟩) h5 e5 (by rw [e5, upd_ne (fun q => by rw [← q, hsrc] at h5; cases h5)]; exact hsrc) ⟨_, rfl, hnd⟩ ?_ ?_
  · rintro i v vv σ6 u6 P6 E6 hP6 hE6 ⟨b, rfl, hn6⟩ hv eu hsr Y6
    obtain ⟨n, hn, rfl⟩ := map_some_of ((List.getElem?_map ..).symm.trans hv)
    have hq := uq_take hn
    have hlen := Nat.le_trans (uq_le xs i).1 (Nat.le_of_lt (List.getElem?_eq_some_iff.mp hn).1)
    repeat walk_at "st"
    rw [eu]
    repeat walk_at "st"
    refine W_notin_list hn6 rfl I2_key ?_
    by_cases hin : n ∈ uq (xs.take i)
    · rw [decide_eq_true (show er (Value.int n _) ∈ I2 (uq (xs.take i)) from I2_mem.mpr hin)]
      repeat walk_at "st"
      exact hP6.nx _ σ6 Ext.refl ⟨_, rfl, by rw [hq, if_pos hin]; exact hn6⟩
    · rw [decide_eq_false (show ¬ er (Value.int n _) ∈ I2 (uq (xs.take i)) from fun q => hin (I2_mem.mp q))]
      repeat walk_at "st"
      intro pl
      refine W_meth_list F.slot_list_append F.type_list_append hn6 ?_
      repeat walk_at "st"
      refine ⟨Kp.builtin, W_append hn6 (by simp; omega) (fun σ7 e7 => ?_)⟩
      repeat walk_at "st"
      exact hP6.nx _ σ7 (by rw [e7]; exact Ext.upd_own hn6 (by decide)) ⟨_, rfl, by rw [hq, if_neg hin, e7, upd_self]; simp [I2]⟩
  · rintro vv σ6 ⟨b, rfl, hn6⟩ Y6
    have hN : (uq xs).length ≤ 27 ∧ (uq xs).Nodup := by
      have := uq_le xs xs.length
      rw [List.take_length] at this
      exact ⟨Nat.le_trans this.1 hxl, this.2⟩
    rw [show (I2 xs).length = xs.length from List.length_map _, List.take_length] at hn6
    have X6 : Ext [5, 6] σ (recol (fk 5) σ6) := ((X1.trans Y6).trans (Ext.recolk (by decide))).mono (by decide)
    have hn7 : recol (fk 5) σ6 nd = some (0, .list (I2 (uq xs))) := recolk_at hn6
    refine Nx.nx (by assumption) _ (W_recol (fk 5) ?_)
    show W c B _ _ _ ⟨_, recol (fk 5) σ6, _⟩
    clear hn6 Y6 X1 hsrc hnd e5 h5
    generalize recol (fk 5) σ6 = σ7 at *
    generalize uq xs = N at *
    repeat walk_at "st"
    refine ⟨Kp.builtin, W_sum hh hn7 (fun t8 => ?_)⟩
    repeat walk_at "st"
    refine W_mod (by decide) (fun t9 => ?_)
    repeat walk_at "st"
    refine W_Dict_nil (W_newDict 5 (fun gr h8 σ8 e8 => ?_))
    repeat walk_at "st"
    have X8 : Ext [] σ7 σ8 := by rw [e8]; exact Ext.upd_new h8
    have hn8 := X8 _ _ _ hn7 (by decide)
    have G8 : GrAt σ8 gr 5 [] 0 ((grOf N).take 0) := ⟨by rw [e8]; exact upd_self, rfl, fun j p q a => by simp at a⟩
    refine W_For ?_
    repeat walk_at "st"
    refine W_iter_list hn8 (fun it h9 σ9 e9 => ?_)
    refine Wk_loopG (IterOf.list (k := 0) hh) [5, 6] (by decide) (by decide)
      (fun i vv σ => ∃ as ep b1 b2 b3 b4 b5, vv = [some (.ref s), some (.ref nd), b1, some (.bool (wildB N)), some (.ref gr), b2, b3, b4, b5] ∧ GrAt σ gr 5 as ep ((grOf N).take i))
      (fun i vv σ σ' ⟨as, ep, b1, b2, b3, b4, b5, q1, q2⟩ e => ⟨as, ep, b1, b2, b3, b4, b5, q1, q2.ext e (by decide) (by decide)⟩) h9 e9 (by rw [e9, upd_ne (fun q => by rw [← q, hn8] at h9; cases h9)]; exact hn8) ⟨_, _, _, _, _, _, _, rfl, G8⟩ ?_ ?_
    · rintro i v vv σa ua Pa Ea hPa hEa ⟨as, ep, b1, b2, b3, b4, b5, rfl, Ga⟩ hv eu hsr Ya
      obtain ⟨n, hn, rfl⟩ := map_some_of ((List.getElem?_map ..).symm.trans hv)
      have hgt : (grOf N).take (i + 1) = (grOf N).take i ++ [(.int n, (ndIt N (wildB N) n (n.fmod 6).toNat).2)] := by
        rw [List.take_add_one]; unfold grOf; rw [List.getElem?_map, hn]; rfl
      have hnew : AV.int n ∉ ((grOf N).take i).map (·.1) := fun q => by
        unfold grOf at q
        rw [← List.map_take, List.map_map] at q
        obtain ⟨m, hm, e⟩ := List.mem_map.mp q
        cases e
        obtain ⟨j, hj, ej⟩ := List.mem_take_iff_getElem.mp hm
        have := nodup_idx' hN.2 (List.getElem?_eq_some_iff.mpr ⟨_, ej⟩) hn
        omega
      have hgl : ((grOf N).take i).length ≤ 27 := by
        unfold grOf; rw [List.length_take, List.length_map]; omega
      generalize hG' : (grOf N).take i = G' at *
      repeat walk_at "st"
      rw [eu]
      repeat walk_at "st"
      refine W_newList 6 (by simp) (fun nl hb σb eb => ?_)
      have Xb : Ext [] σa σb := by rw [eb]; exact Ext.upd_new hb
      have hnl : σb nl = some (6, .list (ndIt N (wildB N) n 0).2) := by rw [eb]; exact upd_self
      have Gb := Ga.ext Xb (by decide) (by decide)
      repeat walk_at "st"
      refine W_floordiv (by decide) (by decide) (fun tb => ?_)
      repeat walk_at "st"
      refine W_For ?_
      repeat walk_at "st"
      refine W_mod (by decide) (fun tc => ?_)
      repeat walk_at "st"
      refine ⟨Kp.type, W_range1 (fun rg hc σc ec => ?_)⟩
      have Xc : Ext [] σb σc := by rw [ec]; exact Ext.upd_new hc
      have h6 : 0 ≤ n.fmod 6 ∧ n.fmod 6 < 6 := by rw [Int.fmod_eq_emod_of_nonneg _ (by decide)]; exact ⟨Int.emod_nonneg _ (by decide), Int.emod_lt_of_pos _ (by decide)⟩
      refine W_iter_range (by rw [ec]; exact upd_self) (by decide) (by decide) (by omega) (by omega) (fun it2 hd σd ed => ?_)
      rw [Int.sub_zero] at ed
      have hsrd : ∀ {σ' : Addr → Option (Nat × Cell)} {C : List Nat}, Ext C σa σ' → 0 ∉ C → σ' nd = some (0, .list (I2 N)) := fun e z => e _ _ _ hsr z
      have hnc : σc nd = some (0, .list (I2 N)) := Xc _ _ _ (Xb _ _ _ hsr (by decide)) (by decide)
      refine Wk_loopG (IterOf.range (k := 0) hh) [6] (by decide) (by decide)
        (fun i vv σ => ∃ b4 b5, vv = [some (.ref s), some (.ref nd), some (.int n), some (.bool (wildB N)), some (.ref gr), some (.ref nl), some (.int (ndIt N (wildB N) n i).1), b4, b5] ∧ σ nl = some (6, .list (ndIt N (wildB N) n i).2) ∧ GrAt σ gr 5 as ep (G') ∧ σ nd = some (0, .list (I2 N)))
        (fun i vv σ σ' ⟨b4, b5, q1, q2, q3, q4⟩ e => ⟨b4, b5, q1, e _ _ _ q2 (by decide), q3.ext e (by decide) (by decide), e _ _ _ q4 (by decide)⟩) hd ed trivial ⟨_, _, rfl, Xc _ _ _ hnl (by decide), Gb.ext Xc (by decide) (by decide), hnc⟩ ?_ ?_
      · rintro i2 v2 vv2 σe ue Pe Ee hPe hEe ⟨b4, b5, rfl, hne, Ge, hnde⟩ hv2 eu2 _ Ye
        obtain ⟨rfl, hi2⟩ := intsFrom_at hv2
        generalize hpp : ndIt N (wildB N) n i2 = pp at *
        have hstep : ndIt N (wildB N) n (i2 + 1) = ndStep N (wildB N) n pp := by show ndStep _ _ _ (ndIt _ _ _ _) = _; rw [hpp]
        have hpl : pp.2.length ≤ 6 := by rw [← hpp]; exact Nat.le_trans (ndIt_len _) (by omega)
        obtain ⟨r, l⟩ := pp
        dsimp only at hne hpl ⊢
        have hrg := fmod_rng r N.length
        repeat walk_at "st"
        rw [eu2]
        repeat walk_at "st"
        refine ⟨Kp.builtin, W_len_list hnde (by simp; omega) (fun t1 => ?_)⟩
        rw [show ((I2 N).length : Int) = (N.length : Int) by rw [List.length_map]]
        repeat walk_at "st"
        refine W_mod (two_ne _) (fun t2 => ?_)
        repeat walk_at "st"
        refine ⟨Kp.builtin, W_len_list hnde (by simp; omega) (fun t3 => ?_)⟩
        rw [show ((I2 N).length : Int) = (N.length : Int) by rw [List.length_map]]
        repeat walk_at "st"
        refine W_floordiv (two_ne _) (log_lt (by omega)) (fun t4 => ?_)
        repeat walk_at "st"
        refine ⟨Kp.builtin, W_len_list hnde (by simp; omega) (fun t5 => ?_)⟩
        rw [show ((I2 N).length : Int) = (N.length : Int) by rw [List.length_map]]
        repeat walk_at "st"
        by_cases hge : (N.length : Int) ≤ r.fmod ((N.length : Int) + 2)
        · rw [decide_eq_true hge]
          repeat walk_at "st"
          intro pl
          refine W_meth_list F.slot_list_append F.type_list_append hne ?_
          repeat walk_at "st"
          refine ⟨Kp.builtin, W_len_list hnde (by simp; omega) (fun t6 => ?_)⟩
          rw [show ((I2 N).length : Int) = (N.length : Int) by rw [List.length_map]]
          repeat walk_at "st"
          obtain ⟨m, em, hm, ch, hch, ech⟩ := pq_at hge
          rw [em]
          refine ⟨noGet_str, W_item_str hch hm (fun t7 => ?_)⟩
          repeat walk_at "st"
          refine ⟨Kp.builtin, W_append hne (by omega) (fun σf ef => ?_)⟩
          repeat walk_at "st"
          have Xf : Ext [6] σe σf := by rw [ef]; exact Ext.upd_own hne (by decide)
          refine hPe.nx _ σf Xf ⟨_, _, by rw [hstep]; rfl, ?_, Ge.ext Xf (by decide) (by decide), Xf _ _ _ hnde (by decide)⟩
          rw [hstep, ef, upd_self]; unfold ndStep; dsimp only; rw [if_pos hge, ← ech]
        · rw [decide_eq_false hge]
          refine ite_f Bool.false_ne_true ?_
          refine W_consG fun Pf hPf => ?_
          refine W_If ?_
          have hjn : (r.fmod ((N.length : Int) + 2)).toNat < N.length := by omega
          have hgd : (I2 N)[(r.fmod ((N.length : Int) + 2)).toNat]? = some (.int (N.getD (r.fmod ((N.length : Int) + 2)).toNat 0)) := by simp [hjn]
          have get : ∀ {vv : List (Option AV)} {t : Tok} {Q : Value → AS → Prop} {E : Value → AS → Prop}, (∀ t, Q (.int (N.getD (r.fmod ((N.length : Int) + 2)).toNat 0) t) ⟨⟨L, [], ["script", "nodes", "x", "wild", "graph", "needs", "rest", "turn", "j"], vv⟩ :: fs, σe, g⟩) →
              W c B (getItem (.ref nd) (.int (r.fmod ((N.length : Int) + 2)) t)) Q E ⟨⟨L, [], ["script", "nodes", "x", "wild", "graph", "needs", "rest", "turn", "j"], vv⟩ :: fs, σe, g⟩ := fun q => W_item_list hnde hrg.1 hgd (by simp; omega) (All.int q)
          refine W_cutV (fun b a' => b = decide (wildB N = true ∨ N.getD (r.fmod ((N.length : Int) + 2)).toNat 0 < n) ∧ a' = ⟨⟨L, [], ["script", "nodes", "x", "wild", "graph", "needs", "rest", "turn", "j"], [some (.ref s), some (.ref nd), some (.int n), some (.bool (wildB N)), some (.ref gr), some (.ref nl), some (.int (r.fdiv ((N.length : Int) + 2))), some (.int (0 + i2)), some (.int (r.fmod ((N.length : Int) + 2)))]⟩ :: fs, σe, g⟩) ?_ ?_
          · intro Pv hPv
            repeat walk_at "st"
            cases hw : wildB N with
            | true =>
              repeat walk_at "st"
              exact hPv _ _ ⟨by rw [hw]; simp, by rw [hw]⟩
            | false =>
              repeat walk_at "st"
              refine ⟨noGet_list hnde, get fun t7 => ?_⟩
              repeat walk_at "st"
              cases hd : decide (N.getD (r.fmod ((N.length : Int) + 2)).toNat 0 < n) with
              | true =>
                repeat walk_at "st"
                exact hPv _ _ ⟨by rw [hw]; simpa using hd, by rw [hw]⟩
              | false =>
                repeat walk_at "st"
                exact hPv _ _ ⟨by rw [hw, decide_eq_false (fun z => z.elim Bool.false_ne_true (of_decide_eq_false hd))]; rfl, by rw [hw]⟩
          · rintro b1 a1 ⟨rfl, rfl⟩
            by_cases hor : wildB N = true ∨ N.getD (r.fmod ((N.length : Int) + 2)).toNat 0 < n
            · rw [decide_eq_true hor]
              repeat walk_at "st"
              intro pl
              refine W_meth_list F.slot_list_append F.type_list_append hne ?_
              repeat walk_at "st"
              refine ⟨noGet_list hnde, get fun t7 => ?_⟩
              repeat walk_at "st"
              refine ⟨Kp.builtin, W_append hne (by omega) (fun σf ef => ?_)⟩
              repeat walk_at "st"
              have Xf : Ext [6] σe σf := by rw [ef]; exact Ext.upd_own hne (by decide)
              refine hPe.nx _ σf Xf ⟨_, _, by rw [hstep]; rfl, ?_, Ge.ext Xf (by decide) (by decide), Xf _ _ _ hnde (by decide)⟩
              rw [hstep, ef, upd_self]; unfold ndStep; dsimp only; rw [if_neg hge, if_pos hor]
            · rw [decide_eq_false hor]
              repeat walk_at "st"
              refine hPe.nx _ σe Ext.refl ⟨_, _, by rw [hstep]; rfl, ?_, Ge, hnde⟩
              rw [hstep, hne]; unfold ndStep; dsimp only; rw [if_neg hge, if_neg hor]
      · rintro vv2 σe ⟨b4, b5, rfl, hne, Ge, hnde⟩ Ye
        rw [show (intsFrom 0 (n.fmod 6).toNat).length = (n.fmod 6).toNat by simp [intsFrom]] at hne ⊢
        refine Nx.nx (by assumption) _ (W_recol (fk 6) ?_)
        show W c B _ _ _ ⟨_, recol (fk 6) σe, _⟩
        have Gf := Ge.turn (k' := 6) (by decide)
        have hnf : recol (fk 6) σe nl = some (0, .list (ndIt N (wildB N) n (n.fmod 6).toNat).2) := recolk_at hne
        have Xf : Ext [5, 6] σa (recol (fk 6) σe) := (Xb.nil.trans (Xc.nil.trans Ye)).mono (by decide) |>.trans (Ext.recolk (by decide))
        generalize recol (fk 6) σe = σf at *
        repeat walk_at "st"
        refine W_dict_set Gf.d rfl (by rw [List.length_zip]; exact Nat.le_trans (Nat.min_le_left _ _) (by simp; omega)) (fun ep' σg eg => ?_)
        repeat walk_at "st"
        refine hPa.nx _ σg (Xf.trans (by rw [eg]; exact Ext.upd_own Gf.d (by decide))) ⟨as ++ [nl], ep', _, _, _, _, _, rfl, by rw [hgt]; exact Gf.snoc (by decide) hnf hnew eg⟩
    · rintro vv σa ⟨as, ep, b1, b2, b3, b4, b5, rfl, Ga⟩ Ya
      rw [List.take_of_length_le (by unfold grOf; simp)] at Ga
      refine Nx.nx (by assumption) _ (W_recol (fk 5) ?_)
      show W c B _ _ _ ⟨_, recol (fk 5) σa, _⟩
      repeat walk_at "st"
      exact h gr as ep _ (X6.trans (X8.nil.trans (Ya.trans (Ext.recolk (by decide))))) (Ga.turn (by decide))
end
end Mine.Internal

namespace Mine.Internal
open PySem PySem.W PyProof.Rows PySem.Calls PySem.SeqAt

/-! a dict of lists -/
structure DL (σ : Addr → Option (Nat × Cell)) (D : Addr) (k kr : Nat) (ks : List AV) (as : List Addr) (ep : Nat) (su : AV → List AV) : Prop where
  d : σ D = some (k, .dict (ks.zip (as.map AV.ref)) ep)
  len : as.length = ks.length
  row : ∀ (j : Nat) (p : Addr) (y : AV), as[j]? = some p → ks[j]? = some y → σ p = some (kr, .list (su y))
  nd : as.Nodup
  knd : ks.Nodup

section
variable {σ σ' : Addr → Option (Nat × Cell)} {D : Addr} {k kr : Nat} {ks : List AV} {as : List Addr} {ep : Nat} {su : AV → List AV}
theorem DL.ext {C : List Nat} (h : DL σ D k kr ks as ep su) (e : Ext C σ σ') (h0 : k ∉ C) (hk : kr ∉ C) : DL σ' D k kr ks as ep su :=
  ⟨e _ _ _ h.d h0, h.len, fun j p q a b => e _ _ _ (h.row j p q a b) hk, h.nd, h.knd⟩
theorem DL.turn (h : DL σ D k kr ks as ep su) (f : Nat → Nat) : DL (recol f σ) D (f k) (f kr) ks as ep su :=
  ⟨by show (σ D).map _ = _; rw [h.d]; rfl, h.len, fun j p q a b => by show (σ p).map _ = _; rw [h.row j p q a b]; rfl, h.nd, h.knd⟩
theorem DL.at_ (h : DL σ D k kr ks as ep su) {y : AV} (hy : y ∈ ks) : ∃ (j : Nat) (p : Addr), ks[j]? = some y ∧ as[j]? = some p ∧ dget (ks.zip (as.map AV.ref)) y = some (.ref p) ∧ σ p = some (kr, .list (su y)) := by
  obtain ⟨j, hj, e⟩ := List.mem_iff_getElem.mp hy
  have hj' : j < as.length := by rw [h.len]; exact hj
  have h1 : ks[j]? = some y := List.getElem?_eq_some_iff.mpr ⟨hj, e⟩
  have h2 : as[j]? = some as[j] := List.getElem?_eq_getElem hj'
  exact ⟨j, as[j], h1, h2, dget_zip h.knd h1 (by rw [List.getElem?_map, h2]; rfl), h.row j _ _ h2 h1⟩
theorem DL.no (h : DL σ D k kr ks as ep su) {y : AV} (hy : y ∉ ks) : dget (ks.zip (as.map AV.ref)) y = none := dget_zip_none hy
/-- one more key, its list p -/
theorem DL.new (h : DL σ D k kr ks as ep su) (hk : k ≠ kr) {y : AV} {p : Addr} {ep' : Nat} (hy : y ∉ ks) (e : Ext [] σ σ') (hp : σ p = none) (hp' : σ' p = some (kr, .list (su y))) :
    DL (upd σ' D (some (k, .dict (dset (ks.zip (as.map AV.ref)) y (.ref p)) ep'))) D k kr (ks ++ [y]) (as ++ [p]) ep' su := by
  have ne : ∀ {x cl}, σ' x = some (kr, cl) → x ≠ D := fun {x cl} q z => by rw [z, e _ _ _ h.d List.not_mem_nil] at q; cases q; exact hk rfl
  refine ⟨by rw [upd_self, dset_zip (by rw [List.length_map, h.len]) hy, List.map_append]; rfl, by rw [List.length_append, List.length_append, h.len]; rfl, fun j p' q' a b => ?_, ?_, ?_⟩
  · by_cases hj : j < ks.length
    · rw [List.getElem?_append_left (by rw [h.len]; exact hj)] at a
      rw [List.getElem?_append_left hj] at b
      have := e _ _ _ (h.row j p' q' a b) List.not_mem_nil
      rw [upd_ne (ne this)]; exact this
    · have hj2 := (List.getElem?_eq_some_iff.mp b).1
      rw [List.length_append] at hj2
      obtain rfl : j = ks.length := Nat.le_antisymm (Nat.le_of_lt_succ hj2) (Nat.le_of_not_lt hj)
      rw [List.getElem?_append_right (Nat.le_refl _), Nat.sub_self] at b
      rw [List.getElem?_append_right (by rw [h.len]; exact Nat.le_refl _), h.len, Nat.sub_self] at a
      cases a; cases b; rw [upd_ne (ne hp')]; exact hp'
  · refine List.nodup_append.mpr ⟨h.nd, by simp, fun x hx z hz q => ?_⟩
    rw [List.mem_singleton.mp hz] at q
    obtain ⟨j, hj⟩ := List.mem_iff_getElem?.mp hx
    have hj' : j < ks.length := by rw [← h.len]; exact (List.getElem?_eq_some_iff.mp hj).1
    have := h.row j x _ hj (List.getElem?_eq_getElem hj')
    rw [q, hp] at this; cases this
  · exact List.nodup_append.mpr ⟨h.knd, by simp, fun x hx z hz q => hy (by rw [← List.mem_singleton.mp hz, ← q]; exact hx)⟩
/-- a list of it changes -/
theorem DL.push (h : DL σ D k kr ks as ep su) (hk : k ≠ kr) {y : AV} {p : Addr} {j : Nat} {vs : List AV} (h1 : ks[j]? = some y) (h2 : as[j]? = some p) : DL (upd σ p (some (kr, .list vs))) D k kr ks as ep (fset su y vs) := by
  have hp := h.row j p y h2 h1
  have nD : D ≠ p := fun z => by rw [← z, h.d] at hp; cases hp
  refine ⟨by rw [upd_ne nD]; exact h.d, h.len, fun i q x a b => ?_, h.nd, h.knd⟩
  by_cases e : q = p
  · subst e
    obtain rfl := nodup_idx' h.nd a h2
    rw [h1] at b; cases b
    rw [upd_self, fset_self]
  · have : x ≠ y := fun z => e (by
      subst z
      obtain rfl := nodup_idx' h.knd b h1
      rw [h2] at a; cases a; rfl)
    rw [upd_ne e, fset_ne this]; exact h.row i q x a b
end

/-- a row's values, each once, behind those that stand there -/
noncomputable def uqA (S ys : List AV) : List AV := ys.foldl (fun S y => if y ∈ S then S else S ++ [y]) S
noncomputable def suA (x : AV) (f : AV → List AV) (ys : List AV) : AV → List AV := ys.foldl (fun f y => if x ∈ f y then f else fset f y (f y ++ [x])) f
noncomputable def nmG (G : Gr) : List AV × (AV → List AV) := G.foldl (fun s q => (uqA s.1 (q.1 :: q.2), suA q.1 s.2 q.2)) ([], fun _ => [])
theorem nmG_take {G : Gr} {i : Nat} {q : AV × List AV} (h : G[i]? = some q) : nmG (G.take (i + 1)) = (uqA (nmG (G.take i)).1 (q.1 :: q.2), suA q.1 (nmG (G.take i)).2 q.2) := by
  rw [List.take_add_one, h]; unfold nmG; rw [List.foldl_append]; rfl
theorem uqA_take {S ys : List AV} {i : Nat} {y : AV} (h : ys[i]? = some y) : uqA S (ys.take (i + 1)) = if y ∈ uqA S (ys.take i) then uqA S (ys.take i) else uqA S (ys.take i) ++ [y] := by
  rw [List.take_add_one, h]; unfold uqA; rw [List.foldl_append]; rfl
theorem suA_take {x : AV} {f : AV → List AV} {ys : List AV} {i : Nat} {y : AV} (h : ys[i]? = some y) : suA x f (ys.take (i + 1)) = if x ∈ suA x f (ys.take i) y then suA x f (ys.take i) else fset (suA x f (ys.take i)) y (suA x f (ys.take i) y ++ [x]) := by
  rw [List.take_add_one, h]; unfold suA; rw [List.foldl_append]; rfl
theorem uqA_mem {y : AV} : ∀ {ys S : List AV}, y ∈ uqA S ys ↔ y ∈ S ∨ y ∈ ys
  | [], S => by simp [uqA]
  | z :: ys, S => by
    show y ∈ uqA (if z ∈ S then S else S ++ [z]) ys ↔ _
    rw [uqA_mem]
    split
    · rename_i hz
      exact ⟨fun h => h.elim .inl fun h => .inr (.tail _ h), fun h => h.elim .inl fun h => (List.mem_cons.mp h).elim (fun e => .inl (e ▸ hz)) .inr⟩
    · simp [or_assoc]
theorem uqA_len {ys : List AV} : ∀ {S : List AV}, (uqA S ys).length ≤ S.length + ys.length := by
  induction ys with
  | nil => exact Nat.le_refl _
  | cons z ys ih =>
    intro S
    show (uqA (if z ∈ S then S else S ++ [z]) ys).length ≤ _
    refine Nat.le_trans ih ?_
    split
    · exact Nat.add_le_add_left (Nat.le_succ _) _
    · rw [List.length_append, Nat.add_assoc, Nat.add_comm [z].length]; exact Nat.le_refl _
theorem suA_key {x : AV} (hx : x.isKey = true) {ys : List AV} : ∀ {f : AV → List AV}, (∀ y, ∀ v ∈ f y, v.isKey = true) → ∀ y, ∀ v ∈ suA x f ys y, v.isKey = true := by
  induction ys with
  | nil => exact fun h => h
  | cons z ys ih =>
    intro f h
    show ∀ y, ∀ v ∈ suA x (if x ∈ f z then f else fset f z (f z ++ [x])) ys y, _
    refine ih ?_
    split
    · exact h
    · intro y v hv
      by_cases e : y = z
      · subst e
        rw [fset_self] at hv
        rcases List.mem_append.mp hv with hv | hv
        · exact h _ _ hv
        · rw [List.mem_singleton.mp hv]; exact hx
      · rw [fset_ne e] at hv; exact h _ _ hv
theorem suA_len {x : AV} {ys : List AV} : ∀ {f : AV → List AV} {n : Nat}, (∀ y, (f y).length ≤ n) → ∀ y, (suA x f ys y).length ≤ n + ys.length := by
  induction ys with
  | nil => exact fun h => h
  | cons z ys ih =>
    intro f n h y
    show (suA x (if x ∈ f z then f else fset f z (f z ++ [x])) ys y).length ≤ _
    refine Nat.le_trans (ih (n := n + 1) ?_ y) (by rw [List.length_cons, Nat.add_assoc, Nat.add_comm 1]; exact Nat.le_refl _)
    intro y
    split
    · exact Nat.le_succ_of_le (h y)
    · by_cases e : y = z
      · subst e; rw [fset_self, List.length_append]; exact Nat.succ_le_succ (h y)
      · rw [fset_ne e]; exact Nat.le_succ_of_le (h y)
theorem suA_out {x y : AV} {ys : List AV} : ∀ {f : AV → List AV}, y ∉ ys → suA x f ys y = f y := by
  induction ys with
  | nil => exact fun _ => rfl
  | cons z ys ih =>
    intro f h
    rw [List.mem_cons, not_or] at h
    show suA x (if x ∈ f z then f else fset f z (f z ++ [x])) ys y = _
    rw [ih h.2]
    split
    · rfl
    · exact fset_ne h.1
structure NmOk (s : List AV × (AV → List AV)) (n : Nat) : Prop where
  len : s.1.length ≤ n
  key : ∀ k ∈ s.1, k.isKey = true
  su : ∀ y, (s.2 y).length ≤ n
  sk : ∀ y, ∀ v ∈ s.2 y, v.isKey = true
  df : ∀ y, y ∉ s.1 → s.2 y = []
theorem nm_ok {G : Gr} (ok : GrOk G) : ∀ i, NmOk (nmG (G.take i)) (wtG (G.take i))
  | 0 => ⟨Nat.le_refl 0, fun _ h => (List.not_mem_nil h).elim, fun _ => Nat.le_refl 0, fun _ _ h => (List.not_mem_nil h).elim, fun _ _ => rfl⟩
  | i + 1 => by
    have ih := nm_ok ok i
    cases h : G[i]? with
    | none => rw [List.take_add_one, h, Option.toList_none, List.append_nil]; exact ih
    | some q =>
      obtain ⟨k1, k2⟩ := ok.key q (List.mem_of_getElem? h)
      rw [nmG_take h, (adG_take h).2]
      refine ⟨Nat.le_trans uqA_len (Nat.add_le_add_right ih.len _), fun k hk => ?_, fun y => Nat.le_trans (suA_len ih.su y) (by omega), suA_key k1 ih.sk, fun y hy => ?_⟩
      · rcases uqA_mem.mp hk with hk | hk
        · exact ih.key k hk
        · rcases List.mem_cons.mp hk with rfl | hk
          · exact k1
          · exact k2 k hk
      · rw [uqA_mem, not_or, List.mem_cons, not_or] at hy
        exact (suA_out hy.2.2).trans (ih.df y hy.1)
end Mine.Internal

namespace Mine.Internal
open PySem PySem.W PyProof.Rows PySem.Calls PySem.SeqAt

section
variable {c : Cx} {A : Around} {E : Value → AS → Prop} {fs : List Frm} {σ : Addr → Option (Nat × Cell)} {g : Array GenState} {d : Nat} {x : Addr}
theorem fn_named {w : World} : FnOk (KK w) 172 ["graph"] ["named", "after", "x", "y"] [] := ⟨rfl, rfl, rfl, rfl, rfl, rfl, rfl, rfl, rfl, by decide +kernel⟩
/-- the names as they come, and each one's followers -/
structure NmAt (σ : Addr → Option (Nat × Cell)) (nm af : Addr) (k kr : Nat) (as : List Addr) (ep : Nat) (s : List AV × (AV → List AV)) : Prop where
  nm : σ nm = some (k, .list s.1)
  af : DL σ af k kr s.1 as ep s.2
theorem NmAt.ext {C : List Nat} {σ σ' : Addr → Option (Nat × Cell)} {nm af : Addr} {k kr : Nat} {as : List Addr} {ep : Nat} {s : List AV × (AV → List AV)} (h : NmAt σ nm af k kr as ep s) (e : Ext C σ σ') (h0 : k ∉ C) (hk : kr ∉ C) : NmAt σ' nm af k kr as ep s :=
  ⟨e _ _ _ h.nm h0, h.af.ext e h0 hk⟩
inductive NmJ (s gr nm af : Addr) (b1 : Option AV → Prop) (S : List AV × (AV → List AV)) (vv : List (Option AV)) (σ : Addr → Option (Nat × Cell)) : Prop
  | mk (as : List Addr) (ep : Nat) (bx b : Option AV) : vv = [some (.ref gr), some (.ref nm), some (.ref af), bx, b] → b1 bx → NmAt σ nm af 5 6 as ep S → NmJ s gr nm af b1 S vv σ
theorem NmJ.ext {s gr nm af : Addr} {b1 : Option AV → Prop} {S : List AV × (AV → List AV)} {vv : List (Option AV)} {σ σ' : Addr → Option (Nat × Cell)} (h : NmJ s gr nm af b1 S vv σ) (e : Ext [9] σ σ') : NmJ s gr nm af b1 S vv σ' := by
  obtain ⟨as, ep, bx, b, q1, q2, q3⟩ := h
  exact ⟨as, ep, bx, b, q1, q2, q3.ext e (by decide) (by decide)⟩
/-- a graph's row -/
theorem GrAt.get {σ : Addr → Option (Nat × Cell)} {D : Addr} {k : Nat} {as : List Addr} {ep : Nat} {G : Gr} (h : GrAt σ D k as ep G) (hn : (G.map (·.1)).Nodup) {i : Nat} {q : AV × List AV} (hq : G[i]? = some q) :
    ∃ p, dget ((G.map (·.1)).zip (as.map AV.ref)) q.1 = some (.ref p) ∧ σ p = some (0, .list q.2) := by
  have hi := (List.getElem?_eq_some_iff.mp hq).1
  have h2 : as[i]? = some (as[i]'(by rw [h.len]; exact hi)) := List.getElem?_eq_getElem _
  exact ⟨_, dget_zip hn (j := i) (by rw [List.getElem?_map, hq]; rfl) (by rw [List.getElem?_map, h2]; rfl), h.row i _ q h2 hq⟩

set_option maxHeartbeats 1000000 in
theorem named_spec {gr : Addr} {gas : List Addr} {gep : Nat} {G : Gr} {Q : Value → AS → Prop} (lv : Lv c) (hA : AOk A fs (d + 1)) (hG : GrAt σ gr 0 gas gep G) (hGn : (G.map (·.1)).Nodup) (ok : GrOk G)
    (h : ∀ t nm af as ep σ', Ext [5, 6] σ σ' → σ' t = some (0, .tuple [.ref nm, .ref af]) → NmAt σ' nm af 0 0 as ep (nmG G) → Q (.ref t) ⟨fs, σ', g⟩) : W c A (call (.ref 172) [.ref gr]) Q E ⟨fs, σ, g⟩ := by
  refine W_call_G lv.K (ns := ["graph", "named", "after", "x", "y"]) (us := [.ref gr]) (gs := []) fn_named rfl (by kernel_rfl) rfl (.cons (.rest (.rest (.rest (.rest .nil))))) (by simp) hA (fun L env B P X hfr hh hL hA' hout hE hFx hUx => ?_)
  refine W_consG (fun _ _ => ?_)
  repeat walk_at "st"
  refine W_newList 5 (by simp) (fun nm h1 σ1 e1 => ?_)
  repeat walk_at "st"
  refine W_Dict_nil (W_newDict 5 (fun af h2 σ2 e2 => ?_))
  repeat walk_at "st"
  have nn : nm ≠ af := fun z => by rw [← z, e1, upd_self] at h2; cases h2
  have X2 : Ext [] σ σ2 := by rw [e2]; refine Ext.trans ?_ (Ext.upd_new h2); rw [e1]; exact Ext.upd_new h1
  have N2 : NmAt σ2 nm af 5 6 [] 0 (nmG (G.take 0)) := ⟨by rw [e2, upd_ne nn, e1, upd_self]; rfl, by rw [e2]; exact upd_self, rfl, fun j p q a => by simp at a, .nil, .nil⟩
  have G2 := hG.ext X2 (by decide) (by decide)
  clear e1 e2 h1 h2 nn
  refine W_For ?_
  repeat walk_at "st"
  refine W_iter_dict G2.d (fun it h3 σ3 e3 => ?_)
  have kz : ((G.map (·.1)).zip (gas.map AV.ref)).map (·.1) = G.map (·.1) := List.map_fst_zip (by rw [List.length_map, List.length_map, G2.len]; exact Nat.le_refl _)
  have hkey : ∀ p ∈ (G.map (·.1)).zip (gas.map AV.ref), p.1.isKey = true := fun p hp => by
    obtain ⟨q, hq, e⟩ := List.mem_map.mp (List.of_mem_zip hp).1
    rw [← e]; exact (ok.key q hq).1
  refine Wk_loopG (IterOf.dictKeys (k := 0) hh hkey) [5, 6] (by decide) (by decide) (fun i vv σ => NmJ gr gr nm af (fun _ => True) (nmG (G.take i)) vv σ) (fun i vv σ σ' q e => q.ext e) h3 e3 (by rw [e3, upd_ne (fun q => by rw [← q, G2.d] at h3; cases h3)]; exact G2.d) ⟨_, _, _, _, rfl, trivial, N2⟩ ?_ ?_
  · rw [kz]
    rintro i v vv σa ua Pa Ea hPa hEa ⟨as, ep, bx, b, rfl, _, Na⟩ hv eu hsr Ya
    rw [List.getElem?_map] at hv
    obtain ⟨q, hq, rfl⟩ := map_some_of hv
    obtain ⟨kq, kps⟩ := ok.key q (List.mem_of_getElem? hq)
    have hw := Nat.le_trans (wtG_le hq) ok.wt
    have NO := nm_ok ok i
    have eN := nmG_take hq
    obtain ⟨p, hp, hpr⟩ := (G2.ext Ya (by decide) (by decide)).get hGn hq
    have hql : q.2.length ≤ 90000 := by omega
    generalize nmG (G.take i) = S at *
    generalize wtG (G.take i) = w0 at *
    repeat walk_at "st"
    rw [eu]
    refine W_For ?_
    repeat walk_at "st"
    refine All.key kq fun u1 eu1 => ?_
    repeat walk_at "st"
    refine W_newList 9 (by simp) (fun l1 hb σb eb => ?_)
    have Xb : Ext [] σa σb := by rw [eb]; exact Ext.upd_new hb
    repeat walk_at "st"
    refine All.key kq fun u2 eu2 => ?_
    refine ⟨noGet_dict (Xb _ _ _ hsr (by decide)), W_dict_item (Xb _ _ _ hsr (by decide)) (by rw [eu2]; exact kq) (by rw [eu2]; exact hp) ?_⟩
    repeat walk_at "st"
    refine W_list_add 0 (by rw [eb]; exact upd_self) (Xb _ _ _ hpr (by decide)) (by simp; omega) (fun l2 hc σc ec => ?_)
    have Xc : Ext [] σa σc := by rw [ec]; exact Xb.trans (Ext.upd_new hc)
    have hl2 : σc l2 = some (0, .list (q.1 :: q.2)) := by rw [ec, upd_self]; simp [eu1]
    refine W_iter_list hl2 (fun it1 hd σd ed => ?_)
    refine Wk_loopG (IterOf.list (k := 0) hh) [5, 6] (by decide) (by decide) (fun i vv σ => NmJ gr gr nm af (fun b => b = some q.1) (uqA S.1 ((q.1 :: q.2).take i), S.2) vv σ) (fun i vv σ σ' q e => q.ext e) hd ed (by rw [ed, upd_ne (fun q => by rw [← q, hl2] at hd; cases hd)]; exact hl2) ⟨_, _, _, _, rfl, rfl, Na.ext Xc (by decide) (by decide)⟩ ?_ ?_
    · rintro i2 y vv2 σe ue Pe Ee hPe hEe ⟨as, ep, bx, b, rfl, rfl, M5⟩ hy eue hsre Ye
      have ky : y.isKey = true := by
        rcases List.mem_cons.mp (List.mem_of_getElem? hy) with e | e
        · rw [e]; exact kq
        · exact kps _ e
      have eU := uqA_take (S := S.1) hy
      have hU : ∀ z, z ∈ S.1 ∨ z ∈ (q.1 :: q.2).take i2 → z ∈ uqA S.1 ((q.1 :: q.2).take i2) := fun z h => uqA_mem.mpr h
      have hUl : (uqA S.1 ((q.1 :: q.2).take i2)).length ≤ 90001 := Nat.le_trans uqA_len (by have := NO.len; rw [List.length_take]; simp; omega)
      have hUk : ∀ k ∈ uqA S.1 ((q.1 :: q.2).take i2), k.isKey = true := fun k hk => by
        rcases uqA_mem.mp hk with hk | hk
        · exact NO.key k hk
        · rcases List.mem_cons.mp (List.mem_of_mem_take hk) with rfl | hk
          · exact kq
          · exact kps k hk
      generalize uqA S.1 ((q.1 :: q.2).take i2) = U at *
      repeat walk_at "st"
      rw [eue]
      repeat walk_at "st"
      refine All.key ky fun u3 eu3 => ?_
      repeat walk_at "st"
      refine W_notin_dict M5.af.d (by rw [eu3]; exact ky) ?_
      rw [eu3]
      by_cases hin : y ∈ U
      · obtain ⟨j, p', _, _, hg, _⟩ := M5.af.at_ hin
        rw [hg]
        repeat walk_at "st"
        exact hPe.nx _ σe Ext.refl ⟨as, ep, _, _, rfl, rfl, by rw [eU, if_pos hin]; exact M5⟩
      · rw [M5.af.no hin]
        repeat walk_at "st"
        intro pl
        refine W_meth_list F.slot_list_append F.type_list_append M5.nm ?_
        repeat walk_at "st"
        refine All.key ky fun u4 eu4 => ?_
        repeat walk_at "st"
        refine ⟨Kp.builtin, W_append M5.nm (by dsimp only; omega) (fun σf ef => ?_)⟩
        repeat walk_at "st"
        refine W_newList 6 (by simp) (fun nl hg σg eg => ?_)
        have nnm : nm ≠ af := fun z => by have := M5.nm; rw [z, M5.af.d] at this; cases this
        have Df : DL σf af 5 6 U as ep S.2 := by
          have X5 : ∀ x k cl, σe x = some (k, cl) → x ≠ nm → σf x = some (k, cl) := fun x k cl q z => by rw [ef, upd_ne z]; exact q
          exact ⟨X5 _ _ _ M5.af.d (Ne.symm nnm), M5.af.len, fun j p' y' a b => X5 _ _ _ (M5.af.row j p' y' a b) (fun z => by have := M5.af.row j p' y' a b; rw [z, M5.nm] at this; cases this), M5.af.nd, M5.af.knd⟩
        have Xg : Ext [] σf σg := by rw [eg]; exact Ext.upd_new hg
        repeat walk_at "st"
        refine All.key ky fun u5 eu5 => ?_
        refine W_dict_set (Df.ext Xg (by decide) (by decide)).d (by rw [eu5]; exact ky) (by rw [List.length_zip]; exact Nat.le_trans (Nat.min_le_left _ _) (by omega)) (fun ep' σh eh => ?_)
        repeat walk_at "st"
        rw [eu5] at eh
        have hs2 : S.2 y = [] := NO.df y fun z => hin (hU y (.inl z))
        have Dh := Df.new (σ' := σg) (p := nl) (ep' := ep') (by decide) hin Xg hg (by rw [eg, upd_self, hs2]; rfl)
        refine hPe.nx _ σh ?_ ⟨as ++ [nl], ep', _, _, rfl, rfl, ?_⟩
        · rw [eh]; exact ((by rw [ef]; exact Ext.upd_own M5.nm (by decide) : Ext [5, 6] σe σf).trans Xg.nil).trans (Ext.upd_own (Df.ext Xg (by decide) (by decide)).d (by decide))
        · rw [eU, if_neg hin, eh]
          refine ⟨?_, Dh⟩
          rw [upd_ne nnm]
          refine Xg _ _ _ ?_ (by decide)
          rw [ef, upd_self, eu4]
    · rintro vv2 σe ⟨as, ep, bx, b, rfl, rfl, M5⟩ Ye
      rw [List.take_length] at M5
      have hU : ∀ z ∈ q.2, z ∈ uqA S.1 (q.1 :: q.2) := fun z h => uqA_mem.mpr (.inr (.tail _ h))
      generalize uqA S.1 (q.1 :: q.2) = U at *
      repeat walk_at "st"
      refine W_For ?_
      repeat walk_at "st"
      refine All.key kq fun u6 eu6 => ?_
      have hsre : σe gr = _ := Ye _ _ _ (Xc _ _ _ hsr (by decide)) (by decide)
      have hpre : σe p = _ := Ye _ _ _ (Xc _ _ _ hpr (by decide)) (by decide)
      refine ⟨noGet_dict hsre, W_dict_item hsre (by rw [eu6]; exact kq) (by rw [eu6]; exact hp) ?_⟩
      repeat walk_at "st"
      refine W_iter_list hpre (fun it6 h6 σ6 e6 => ?_)
      refine Wk_loopG (IterOf.list (k := 0) hh) [5, 6] (by decide) (by decide) (fun i vv σ => NmJ gr gr nm af (fun b => b = some q.1) (U, suA q.1 S.2 (q.2.take i)) vv σ) (fun i vv σ σ' q e => q.ext e) h6 e6 (by rw [e6, upd_ne (fun q => by rw [← q, hpre] at h6; cases h6)]; exact hpre) ⟨_, _, _, _, rfl, rfl, M5⟩ ?_ ?_
      · rintro i3 y vv3 σf uf Pf Ef hPf hEf ⟨as, ep, bx, b, rfl, rfl, M6⟩ hy euf hsrf Yf
        have hyU := hU y (List.mem_of_getElem? hy)
        have ky := kps y (List.mem_of_getElem? hy)
        have eS := suA_take (x := q.1) (f := S.2) hy
        have hfl := suA_len (x := q.1) (ys := q.2.take i3) NO.su y
        have hfk := suA_key kq (ys := q.2.take i3) NO.sk y
        rw [List.length_take] at hfl
        generalize suA q.1 S.2 (q.2.take i3) = f at *
        obtain ⟨j, p', hj1, hj2, hg, hpl⟩ := M6.af.at_ hyU
        repeat walk_at "st"
        rw [euf]
        repeat walk_at "st"
        refine All.key kq fun u7 eu7 => ?_
        repeat walk_at "st"
        refine All.key ky fun u8 eu8 => ?_
        refine ⟨noGet_dict M6.af.d, W_dict_item M6.af.d (by rw [eu8]; exact ky) (by rw [eu8]; exact hg) ?_⟩
        repeat walk_at "st"
        refine W_notin_list hpl (by rw [eu7]; exact kq) hfk ?_
        rw [eu7]
        by_cases hin : q.1 ∈ f y
        · rw [decide_eq_true hin]
          repeat walk_at "st"
          exact hPf.nx _ σf Ext.refl ⟨as, ep, _, _, rfl, rfl, by rw [eS, if_pos hin]; exact M6⟩
        · rw [decide_eq_false hin]
          repeat walk_at "st"
          refine All.key ky fun u9 eu9 => ?_
          refine ⟨noGet_dict M6.af.d, W_dict_item M6.af.d (by rw [eu9]; exact ky) (by rw [eu9]; exact hg) ?_⟩
          repeat walk_at "st"
          intro pl
          refine W_meth_list F.slot_list_append F.type_list_append hpl ?_
          repeat walk_at "st"
          refine All.key kq fun u10 eu10 => ?_
          repeat walk_at "st"
          refine ⟨Kp.builtin, W_append hpl (by dsimp only; omega) (fun σg eg => ?_)⟩
          repeat walk_at "st"
          rw [eu10] at eg
          refine hPf.nx _ σg (by rw [eg]; exact Ext.upd_own hpl (by decide)) ⟨as, ep, _, _, rfl, rfl, ?_⟩
          rw [eS, if_neg hin, eg]
          exact ⟨by rw [upd_ne (fun z => by have := M6.nm; rw [z, hpl] at this; cases this)]; exact M6.nm, M6.af.push (by decide) hj1 hj2⟩
      · rintro vv3 σf ⟨as, ep, bx, b, rfl, rfl, M6⟩ Yf
        rw [List.take_length] at M6
        repeat walk_at "st"
        exact hPa.nx _ σf (Xc.nil.trans (Ye.trans Yf)) ⟨as, ep, _, _, rfl, trivial, by rw [eN]; exact M6⟩
  · rw [List.length_map, List.length_zip, List.length_map, List.length_map, G2.len, Nat.min_self, List.take_length]
    rintro vv σa ⟨as, ep, bx, b, rfl, _, Na⟩ Ya
    refine Nx.nx (by assumption) _ (W_recol (fk 5) (W_recol (fk 6) ?_))
    show W c B _ _ _ ⟨_, recol (fk 6) (recol (fk 5) σa), _⟩
    have N0 : NmAt (recol (fk 6) (recol (fk 5) σa)) nm af 0 0 as ep (nmG G) := ⟨recolk_ne (recolk_at Na.nm) (by decide), (Na.af.turn (fk 5)).turn (fk 6)⟩
    have X0 : Ext [5, 6] σ (recol (fk 6) (recol (fk 5) σa)) := X2.nil.trans (Ya.trans ((Ext.recolk (by decide)).trans (Ext.recolk (by decide))))
    generalize recol (fk 6) (recol (fk 5) σa) = σb at *
    repeat walk_at "st"
    refine W_newTuple 0 (by simp) (fun t ht σc ec => ?_)
    have Xc : Ext [] σb σc := by rw [ec]; exact Ext.upd_new ht
    repeat walk_at "st"
    exact h t nm af as ep σc (X0.trans Xc.nil) (by rw [ec, upd_self]; rfl) (N0.ext Xc (by decide) (by decide))
end
end Mine.Internal

namespace Mine.Internal
open PySem PySem.W PyProof.Rows PySem.Calls PySem.SeqAt

/-- a key as data -/
noncomputable def kd : AV → PyData
  | .int i => .int i
  | .str x => .str x
  | _ => .none
structure KO (v : AV) : Prop where
  key : v.isKey = true
  sh : Sh 0 (kd v)
theorem KO.int {i : Int} : KO (.int i) := ⟨rfl, .int⟩
theorem KO.rd {σ : Addr → Option (Nat × Cell)} {v : AV} (h : KO v) : RdV σ v (kd v) := by
  obtain ⟨h, _⟩ := h
  cases v <;> first | (cases h; done) | exact RdV.int | exact RdV.str
theorem KO.rds {σ : Addr → Option (Nat × Cell)} : ∀ {l : List AV}, (∀ v ∈ l, KO v) → RdL σ l (l.map kd)
  | [], _ => .nil
  | v :: l, h => .cons (h v (by simp)).rd (KO.rds fun w hw => h w (.tail _ hw))
theorem KO.shL {l : List AV} (h : ∀ v ∈ l, KO v) : Sh 1 (.list (l.map kd)) := Sh.list fun d hd => by
  obtain ⟨v, hv, rfl⟩ := List.mem_map.mp hd
  exact (h v hv).sh
theorem Sh.nil : shaped (.list []) = true := rfl

section
variable {c : Cx} {A : Around} {E : Value → AS → Prop} {fs : List Frm} {σ : Addr → Option (Nat × Cell)} {g : Array GenState} {d : Nat} {x : Addr}
theorem fn_ring {w : World} : FnOkC (KK w) 146 [("order", false), ("after", true), ("stay", true), ("left", false), ("way", false), ("on", false)] ["list", "len"] := ⟨rfl, rfl, rfl, rfl, rfl, rfl, rfl, rfl, rfl, rfl, by decide +kernel⟩
theorem CapOk.mono {env : Env} {cl : List (Str × Addr)} {xs ys : List Str} (h : CapOk env cl xs) (s : ∀ y ∈ ys, y ∈ xs) : CapOk env cl ys := ⟨h.kind, fun y hy => h.cap y (s y hy)⟩

/-- [w for w in ROW if w in stay] -/
theorem W_inStay {env : Env} {sc : Scope} {cl : List (Str × Addr)} {L : Addr} {ns : List Str} {vs : List (Option AV)} {iter : Expr} {p1 p2 p3 p4 px pos : Pos} {st p : Addr} {k kr : Nat} {S row : List AV} {Q : Value → AS → Prop}
    (hsc : CScope sc "w" [] ["stay"]) (hC : CapOk env cl ["stay"]) (hgl : env.globals = mainGlobals) (hbl : env.builtins = builtinsNs) (hh : A.handled = none) (hf : ⟨L, cl, ns, vs⟩ ∈ fs) (hv : VarAt ns vs "stay" (some (.ref st))) (hnd : ns.Nodup)
    (hS : σ st = some (k, .list S)) (hk : k ≠ 9) (hp : σ p = some (kr, .list row)) (hr : kr ≠ 9) (hz : row.length ≤ 90000) (kS : ∀ v ∈ S, v.isKey = true) (kR : ∀ v ∈ row, v.isKey = true)
    (hi : ∀ Q : Value → AS → Prop, Q (.ref p) ⟨fs, σ, g⟩ → W c A (eval iter env) Q E ⟨fs, σ, g⟩)
    (h : ∀ D σ', Ext [] σ σ' → σ' D = some (0, .list (row.filter fun w => decide (w ∈ S))) → Q (.ref D) ⟨fs, σ', g⟩)
    (hs : ∀ x, foldedSetIterable iter env x = pure x) :
    W c A (eval (.ListComp (.Name "w" p1) [⟨.Name "w" px, iter, [.Compare (.Name "w" p2) [.In] [.Name "stay" p3] p4], 0⟩] sc pos) env) Q E ⟨fs, σ, g⟩ := by
  refine W_ListComp hsc hC (hi _ (W_iter_list hp fun it h1 σ1 e1 => ?_)) hs
  refine CompK_loop (k := kr) (gs := []) hsc hC rfl (by simp) hgl hbl (IterOf.list hh) IterSelf.list [] (by simp) (by simp) hr 0
    (fun i ys σ => ys = (row.take i).filter (fun w => decide (w ∈ S)) ∧ σ st = some (k, .list S)) (fun i ys σ σ' q e => ⟨q.1, e _ _ _ q.2 (fun z => hk (List.mem_singleton.mp z))⟩) h1 e1 (by rw [e1, upd_ne (fun q => by rw [← q, hp] at h1; cases h1)]; exact hp) ⟨rfl, hS⟩ (fun i ys σ q => ?_) ?_ ?_
  · rw [q.1]; exact Nat.le_trans (List.length_filter_le ..) (by rw [List.length_take]; omega)
  · rintro C cenv i v σ3 ys hCE hCC hg hb ⟨rfl, hS3⟩ hv3 hsrc Y3
    have kv := kR v (List.mem_of_getElem? hv3)
    have et : (row.take (i + 1)).filter (fun w => decide (w ∈ S)) = (row.take i).filter (fun w => decide (w ∈ S)) ++ if v ∈ S then [v] else [] := by
      rw [List.take_add_one, hv3, List.filter_append, Option.toList_some]
      by_cases z : v ∈ S <;> simp [List.filter_cons, z]
    refine W_tests_one (W_isTrue_Compare1 (W_Name hCE .here (All.key kv fun u eu => W_NameCap hCC (List.mem_cons_self ..) (List.mem_cons_of_mem _ hf) hv hnd (All.ref (W_in_list hS3 (by rw [eu]; exact kv) kS (W_truthy_bool ?_))))))
    rw [eu]
    by_cases z : v ∈ S
    · rw [decide_eq_true z]
      exact W_Name hCE .here (All.key kv fun u eu => ⟨σ3, rfl, Ext.refl, by rw [et, if_pos z, eu], hS3⟩)
    · rw [decide_eq_false z]
      exact ⟨σ3, rfl, Ext.refl, by rw [et, if_neg z, List.append_nil], hS3⟩
  · rintro D C vx ys σ3 ⟨rfl, hS3⟩ Y3 hD hD3
    rw [List.take_length] at hD3
    exact h D σ3 Y3 hD3
theorem W_swapF {f1 f2 : Frm} {α : Type} {t : Sem α} {Q : α → AS → Prop}
    (h : W c A t (fun v a' => ∃ f1 f2 fs, a'.fs = f2 :: f1 :: fs ∧ Q v ⟨f1 :: f2 :: fs, a'.σ, a'.gens⟩) (fun _ _ => False) ⟨f2 :: f1 :: fs, σ, g⟩) : W c A t Q E ⟨f1 :: f2 :: fs, σ, g⟩ := fun s hs =>
  wpAny_mono (h s hs.swap) (fun v s' ⟨a', h1, f1, f2, fs, e, q⟩ => by
    obtain ⟨fs', σ', g'⟩ := a'
    dsimp only at e; subst e
    exact ⟨_, h1.swap, q⟩) fun e s' ⟨_, _, x⟩ => x.elim
/-- a comprehension bound to a name -/
theorem W_AssignComp {env : Env} {sc : Scope} {x y : Str} {gls caps : List Str} {cl : List (Str × Addr)} {L : Addr} {ns : List Str} {gs : List (Str × Value)} {vs : List (Option AV)} {vs' : Addr → List (Option AV)} {elt iter : Expr} {px py pos spos : Pos} {ifs : List Expr} {P : Addr → (Addr → Option (Nat × Cell)) → Prop} {Q : Flow → AS → Prop}
    (h : CScope sc x gls caps) (hc : CapOk env cl caps) (he : EnvOk c env L cl ns gs) (set : ∀ D, SetVar ns vs y (some (.ref D)) (vs' D))
    (loop : ∀ use (Q' : Value → AS → Prop), (∀ D C vx σ', P D σ' → match use with
        | none => Q' (.ref D) ⟨⟨L, cl, ns, vs⟩ :: fs, σ', g⟩
        | some u => W c A (u (.ref D)) (fun _ a' => ∃ fs', a'.fs = ⟨C, [], [x], vx⟩ :: fs' ∧ Q' .none ⟨fs', a'.σ, a'.gens⟩) E ⟨⟨C, [], [x], vx⟩ :: ⟨L, cl, ns, vs⟩ :: fs, σ', g⟩) →
      W c A (eval iter env) (fun xv a₁ => W c A (pyIter xv) (fun it a₂ => CompK c A env elt iter x px ifs sc pos caps use it Q' E a₂) E a₁) E ⟨⟨L, cl, ns, vs⟩ :: fs, σ, g⟩)
    (q : ∀ D σ', P D σ' → Q .next ⟨⟨L, cl, ns, vs' D⟩ :: fs, σ', g⟩) (hs : ∀ x, foldedSetIterable iter env x = pure x := by intro _; with_unfolding_all rfl) :
    W c A (exec (.Assign [.Name y py] (.ListComp elt [⟨.Name x px, iter, ifs, 0⟩] sc pos) spos) env) Q E ⟨⟨L, cl, ns, vs⟩ :: fs, σ, g⟩ := by
  have sw : swapsWith (.ListComp elt [⟨.Name x px, iter, ifs, 0⟩] sc pos) (some (.Name y py)) spos.line env = pure (env.blockKind == .function && env.kindOf y == some .local && py.line == pos.line && !(sc.names.any fun (n, k) => n == y && (k == .local || k == .cell))) := rfl
  generalize (env.blockKind == .function && env.kindOf y == some .local && py.line == pos.line && !(sc.names.any fun (n, k) => n == y && (k == .local || k == .cell))) = b at sw
  cases b with
  | false => exact W_Assign_Name (W_ListComp h hc (loop none (fun v a' => W c A (storeName env y v) (fun _ => Q .next) E a') fun D C vx σ' p => W_storeName he (set D) (q D σ' p)) hs) sw
  | true =>
    exact W_Assign_ListComp h hc sw (loop (some (assign (.Name y py) env)) (fun _ a' => Q .next a') fun D C vx σ' p => W_assign_Name (W_swapF (W_storeName (u := .ref D) he (set D) ⟨_, _, _, rfl, _, rfl, q D σ' p⟩))) hs
end
end Mine.Internal

namespace Mine.Internal
open PySem PySem.W PyProof.Rows PySem.Calls PySem.SeqAt

/-! the walk of _law_ring: what it knows -/
structure RgOk (ks : List AV) (su : AV → List AV) : Prop where
  len : ks.length ≤ 90000
  key : ∀ v ∈ ks, KO v
  ins : ∀ v ∈ ks, ∀ w ∈ su v, w ∈ ks
  row : ∀ v, (su v).length ≤ 90000
  nd : ks.Nodup
/-- the pruning -/
noncomputable def goes (su : AV → List AV) (st : List AV) (v : AV) : Bool := !((su v).filter fun w => decide (w ∈ st)).isEmpty
theorem goes_iff {su : AV → List AV} {st : List AV} {v : AV} : goes su st v = true ↔ ∃ w ∈ su v, w ∈ st := by
  unfold goes
  cases e : (su v).filter (fun w => decide (w ∈ st)) with
  | nil => exact ⟨(fun h => nomatch h), fun ⟨w, h1, h2⟩ => by have : w ∈ (su v).filter (fun w => decide (w ∈ st)) := List.mem_filter.mpr ⟨h1, decide_eq_true h2⟩; rw [e] at this; cases this⟩
  | cons a l =>
    obtain ⟨h1, h2⟩ := List.mem_filter.mp (show a ∈ (su v).filter (fun w => decide (w ∈ st)) by rw [e]; exact List.mem_cons_self)
    exact ⟨fun _ => ⟨a, h1, of_decide_eq_true h2⟩, fun _ => rfl⟩
structure Pruned (ks : List AV) (su : AV → List AV) (st : List AV) : Prop where
  sub : st.Sublist ks
  stay : ∀ v ∈ ks, Stay su v → v ∈ st
theorem Pruned.step {ks st : List AV} {su : AV → List AV} (R : RgOk ks su) (h : Pruned ks su st) : Pruned ks su (st.filter (goes su st)) :=
  ⟨List.filter_sublist.trans h.sub, prune_keep R.ins h.stay fun v _ q => goes_iff.mpr q⟩
/-- a place splits a list at its first such item -/
theorem first_at {α : Type} [DecidableEq α] {w : α} : ∀ {l : List α}, w ∈ l → ∃ p q, l = p ++ w :: q ∧ w ∉ p
  | x :: l, h => by
    by_cases e : w = x
    · exact ⟨[], l, by rw [e]; rfl, List.not_mem_nil⟩
    · obtain ⟨p, q, h1, h2⟩ := first_at ((List.mem_cons.mp h).resolve_left e)
      exact ⟨x :: p, q, by rw [h1]; rfl, fun z => (List.mem_cons.mp z).elim e h2⟩
theorem nodup_le {α : Type} : ∀ {l os : List α}, l.Nodup → (∀ y ∈ l, y ∈ os) → l.length ≤ os.length
  | [], os, _, _ => Nat.zero_le _
  | a :: l, os, h, hs => by
    obtain ⟨p, q, rfl⟩ := List.append_of_mem (hs a (by simp))
    have h' := List.nodup_cons.mp h
    have := nodup_le (os := p ++ q) h'.2 fun y hy => by
      rcases List.mem_append.mp (hs y (List.mem_cons_of_mem _ hy)) with z | z
      · exact List.mem_append_left _ z
      · rcases List.mem_cons.mp z with z | z
        · exact absurd (z ▸ hy) h'.1
        · exact List.mem_append_right _ z
    rw [List.length_append] at this ⊢
    exact Nat.succ_le_succ this
theorem first_of {os r : List AV} {v : AV} (hn : os.Nodup) (hs : (v :: r).Sublist os) : ∃ pre post, os = pre ++ v :: post ∧ ∀ k ∈ pre, k ∉ v :: r := by
  obtain ⟨p, q, rfl, hp⟩ := first_at (hs.subset List.mem_cons_self)
  refine ⟨p, q, rfl, fun k hk hm => ?_⟩
  rcases List.sublist_append_iff.mp hs with ⟨l1, l2, e, h1, h2⟩
  cases l1 with
  | cons x l1 =>
    rw [List.cons_append, List.cons.injEq] at e
    exact hp (h1.subset (by rw [e.1]; exact List.mem_cons_self))
  | nil =>
    rw [List.nil_append] at e; subst e
    exact (List.nodup_append.mp hn).2.2 k hk k (h2.subset hm) rfl
/-- the way so far -/
structure WayOk (ks : List AV) (su : AV → List AV) (v : AV) (way : List AV) (u : AV) : Prop where
  ch : Chain (FirstStay su) (way ++ [u])
  nd : (way ++ [u]).Nodup
  hd : (way ++ [u]).head? = some v
  st : ∀ y ∈ way ++ [u], y ∈ ks ∧ Stay su y
section
variable {ks st way : List AV} {su : AV → List AV} {u v w : AV} {r : List AV}
/-- the next node -/
theorem way_on (R : RgOk ks su) (P : Pruned ks su st) (ps : ∀ y ∈ st, Stay su y) (O : WayOk ks su v way u) : ∃ w r, (su u).filter (fun w => decide (w ∈ st)) = w :: r ∧ FirstStay su u w ∧ w ∈ ks ∧ Stay su w := by
  obtain ⟨hu, su'⟩ := O.st u (by simp)
  obtain ⟨w, r, e⟩ : ∃ w r, (su u).filter (fun w => decide (w ∈ st)) = w :: r := by
    obtain ⟨w, hw, sw⟩ := su'.step
    have : w ∈ (su u).filter (fun w => decide (w ∈ st)) := List.mem_filter.mpr ⟨hw, decide_eq_true (P.stay w (R.ins u hu w hw) sw)⟩
    cases e : (su u).filter (fun w => decide (w ∈ st)) with
    | nil => rw [e] at this; cases this
    | cons a l => exact ⟨a, l, rfl⟩
  have hm : w ∈ (su u).filter (fun w => decide (w ∈ st)) := by rw [e]; exact List.mem_cons_self
  obtain ⟨h1, h2⟩ := List.mem_filter.mp hm
  have hs := ps w (of_decide_eq_true h2)
  obtain ⟨l1, l2, e1, e2, _, _⟩ := List.filter_eq_cons_iff.mp e
  exact ⟨w, r, e, ⟨l1, l2, e1, fun t ht s => e2 t ht (decide_eq_true (P.stay t (R.ins u hu t (by rw [e1]; exact List.mem_append_left _ ht)) s)), hs⟩, R.ins u hu w h1, hs⟩
theorem way_more (O : WayOk ks su v way u) (hf : FirstStay su u w) (hw : w ∈ ks) (hs : Stay su w) (hn : w ∉ way ++ [u]) : WayOk ks su v (way ++ [u]) w := by
  refine ⟨O.ch.snoc hf, List.nodup_append.mpr ⟨O.nd, by simp, fun a ha b hb e => hn (by rw [← List.mem_singleton.mp hb, ← e]; exact ha)⟩, by rw [List.head?_append, O.hd]; rfl, fun y hy => ?_⟩
  rcases List.mem_append.mp hy with hy | hy
  · exact O.st y hy
  · rw [List.mem_singleton.mp hy]; exact ⟨hw, hs⟩
theorem way_end (R : RgOk ks su) (P : Pruned ks su (v :: r)) (O : WayOk ks su v way u) (hf : FirstStay su u w) {p q : List AV} (e : way ++ [u] = p ++ w :: q) : RingRes ks su (some (w :: q ++ [w])) := by
  obtain ⟨pre, post, e1, e2⟩ := first_of R.nd P.sub
  exact .yes (last := u) e1 (fun y hy s => e2 y hy (P.stay y (by rw [e1]; exact List.mem_append_left _ hy) s)) (e ▸ O.nd) (e ▸ O.hd) (by rw [← e, List.getLast?_append]; rfl) (e ▸ O.ch) hf
end
end Mine.Internal

namespace Mine.Internal
open PySem PySem.W PyProof.Rows PySem.Calls PySem.SeqAt

/-- what _law_ring gives -/
inductive RingAt (σ : Addr → Option (Nat × Cell)) : Option (List AV) → Value → Prop
  | no : RingAt σ none .none
  | yes {l : List AV} {a : Addr} : σ a = some (0, .list l) → (∀ v ∈ l, KO v) → RingAt σ (some l) (.ref a)
section
variable {c : Cx} {A : Around} {E : Value → AS → Prop} {fs : List Frm} {σ : Addr → Option (Nat × Cell)} {g : Array GenState} {d : Nat} {x : Addr}
noncomputable abbrev nsR : List Str := ["order", "after", "stay", "left", "way", "on"]
/-- the first while -/
inductive W1I (fs : List Frm) (g : Array GenState) (L : Addr) (cl : List (Str × Addr)) (od af : Addr) (as : List Addr) (ep : Nat) (ks : List AV) (su : AV → List AV) (σ₀ : Addr → Option (Nat × Cell)) (n : Nat) (a : AS) : Prop
  | mk (st : Addr) (S : List AV) (b : Option AV) (σ : Addr → Option (Nat × Cell)) : a = ⟨⟨L, cl, nsR, [some (.ref od), some (.ref af), some (.ref st), b, none, none]⟩ :: fs, σ, g⟩ → S.length = n → σ st = some (0, .list S) → Pruned ks su S → Ext [] σ₀ σ → W1I fs g L cl od af as ep ks su σ₀ n a
inductive W2I (fs : List Frm) (g : Array GenState) (L : Addr) (cl : List (Str × Addr)) (od af st : Addr) (lf : Option AV) (ks : List AV) (su : AV → List AV) (v : AV) (σ₀ : Addr → Option (Nat × Cell)) (n : Nat) (a : AS) : Prop
  | mk (wy : Addr) (way : List AV) (u : AV) (b : Option AV) (σ : Addr → Option (Nat × Cell)) : a = ⟨⟨L, cl, nsR, [some (.ref od), some (.ref af), some (.ref st), lf, some (.ref wy), b]⟩ :: fs, σ, g⟩ → ks.length - way.length = n → σ wy = some (5, .list (way ++ [u])) → WayOk ks su v way u → Ext [5] σ₀ σ → W2I fs g L cl od af st lf ks su v σ₀ n a

set_option maxHeartbeats 1000000 in
theorem ring_spec {od af : Addr} {as : List Addr} {ep : Nat} {ks : List AV} {su : AV → List AV} {Q : Value → AS → Prop} (lv : Lv c) (hA : AOk A fs (d + 1)) (ho : σ od = some (0, .list ks)) (hD : DL σ af 0 0 ks as ep su) (R : RgOk ks su)
    (h : ∀ r v σ', RingRes ks su r → RingAt σ' r v → Ext [5] σ σ' → Q v ⟨fs, σ', g⟩) : W c A (call (.ref 146) [.ref od, .ref af]) Q E ⟨fs, σ, g⟩ := by
  refine W_call_GC lv.K (ps := ["order", "after"]) (rs := ["stay", "left", "way", "on"]) (ns := nsR) (us := [.ref od, .ref af]) (gs := [("list", .type "list"), ("len", .builtin "len")]) fn_ring rfl rfl (by kernel_rfl) rfl (.cons (.cons (.rest (.rest (.rest (.rest .nil)))))) (by simp [lv.list, lv.len]) hA (fun L cl env B P X hgl hbl hfr hh hL hA' hout hE hC hFx hUx => ?_)
  have hkk : ∀ v ∈ ks, v.isKey = true := fun v hv => (R.key v hv).key
  refine W_consG (fun _ _ => ?_)
  repeat walk_at "st"
  refine ⟨Kp.type, W_list_seq 0 ⟨0, .inl ho⟩ (by have := R.len; omega) (fun st h1 σ1 e1 => ?_)⟩
  have X1 : Ext [] σ σ1 := by rw [e1]; exact Ext.upd_new h1
  have hst : σ1 st = some (0, .list ks) := by rw [e1]; exact upd_self
  repeat walk_at "st"
  refine W_WhileG (W1I fs g L cl od af as ep ks su σ1) (fun n a Pw Xw hPw hXw hI => ?_) ks.length ⟨st, ks, none, σ1, rfl, rfl, hst, ⟨List.Sublist.refl _, fun v hv _ => hv⟩, Ext.refl⟩
  obtain ⟨st, S, b, σ2, rfl, rfl, hst, hP, X2⟩ := hI
  have hD2 := hD.ext (X1.trans X2) (by decide) (by decide)
  repeat walk_at "st"
  have hSk : ∀ v ∈ S, v.isKey = true := fun v hv => hkk v (hP.sub.subset hv)
  have hSl : S.length ≤ 90000 := Nat.le_trans hP.sub.length_le R.len
  refine W_AssignComp (x := "v") (gls := []) (caps := ["after", "stay"]) (vs' := fun D => [some (.ref od), some (.ref af), some (.ref st), some (.ref D), none, none])
    (P := fun D σ' => Ext [] σ2 σ' ∧ σ' D = some (0, .list (S.filter (goes su S)))) ⟨rfl, rfl, by decide +kernel⟩ hC hE (fun D => by walk_at "set") (fun use Q' hQ' => ?_) (fun D σ3 ⟨X3, hl⟩ => ?_)
  · repeat walk_at "st"
    refine W_iter_list hst (fun it h3 σ3 e3 => ?_)
    refine CompK_loop (k := 0) (gs := []) (gls := []) (caps := ["after", "stay"]) ⟨rfl, rfl, by decide +kernel⟩ hC rfl (by simp) hgl hbl (IterOf.list hh) IterSelf.list [] (by simp) (by simp) (by decide) 0
      (fun i ys σ => ys = (S.take i).filter (goes su S) ∧ σ st = some (0, .list S) ∧ DL σ af 0 0 ks as ep su) (fun i ys σ σ' q e => ⟨q.1, e _ _ _ q.2.1 (by decide), q.2.2.ext e (by decide) (by decide)⟩) h3 e3 (by rw [e3, upd_ne (fun q => by rw [← q, hst] at h3; cases h3)]; exact hst) ⟨rfl, hst, hD2⟩ (fun i ys σ q => ?_) ?_ ?_
    · rw [q.1]; exact Nat.le_trans (List.length_filter_le ..) (by rw [List.length_take]; omega)
    · rintro C cenv i v σ4 ys hCE hCC hg hb ⟨rfl, hs4, hD4⟩ hv4 hsrc Y4
      have hvS := List.mem_of_getElem? hv4
      have kv := hSk v hvS
      have hvk := hP.sub.subset hvS
      obtain ⟨j, p, _, _, hgt, hpr⟩ := hD4.at_ hvk
      have et : (S.take (i + 1)).filter (goes su S) = (S.take i).filter (goes su S) ++ if goes su S v = true then [v] else [] := by
        rw [List.take_add_one, hv4, List.filter_append, Option.toList_some]
        by_cases z : goes su S v = true <;> simp [List.filter_cons, z]
      refine W_tests_one (W_isTrue_Compare1 (W_inStay (L := L) (cl := cl) (ns := nsR) (sc := _) ⟨rfl, rfl, by decide +kernel⟩ (hCC.mono (by simp)) hg hb hh (List.mem_cons_of_mem _ (List.mem_cons_self ..)) (by walk_at "var") hE.nd hs4 (by decide) hpr (by decide) (R.row v) hSk (fun w hw => hkk w (R.ins v hvk w hw)) (fun Q q => ?_) (fun D σ5 X5 hD5 => ?_) (by intro _; with_unfolding_all rfl)))
      · refine W_Subscript (W_NameCap hCC (List.mem_cons_self ..) (List.mem_cons_of_mem _ (List.mem_cons_self ..)) (by walk_at "var") hE.nd (All.ref (W_Name hCE .here (All.key kv fun u eu => ?_))))
        exact ⟨noGet_dict hD4.d, W_dict_item hD4.d (by rw [eu]; exact kv) (by rw [eu]; exact hgt) (All.ref q)⟩
      · repeat walk_at "st"
        refine W_newList 9 (by simp) (fun l6 h6 σ6 e6 => ?_)
        have X6 : Ext [] σ5 σ6 := by rw [e6]; exact Ext.upd_new h6
        have hfk : ∀ w ∈ (su v).filter (fun w => decide (w ∈ S)), KO w := fun w hw => R.key w (R.ins v hvk w (List.mem_filter.mp hw).1)
        refine W_neD hA' (.list (X6 _ _ _ hD5 (by decide)) (KO.rds hfk)) (.list (by rw [e6]; exact upd_self) .nil) (KO.shL hfk).ok Sh.nil ?_
        rw [eqv_nil, show (((su v).filter fun w => decide (w ∈ S)).map kd).isEmpty = ((su v).filter fun w => decide (w ∈ S)).isEmpty by cases (su v).filter (fun w => decide (w ∈ S)) <;> rfl]
        have X56 := (X5.trans X6)
        show W c B (truthy (.bool (goes su S v))) _ _ _
        repeat walk_at "st"
        cases z : goes su S v with
        | true => exact W_Name hCE .here (All.key kv fun u eu => ⟨σ6, rfl, X56, by rw [et, if_pos z, eu], X56 _ _ _ hs4 (by decide), hD4.ext X56 (by decide) (by decide)⟩)
        | false => exact ⟨σ6, rfl, X56, by rw [et, if_neg (by rw [z]; exact Bool.false_ne_true), List.append_nil], X56 _ _ _ hs4 (by decide), hD4.ext X56 (by decide) (by decide)⟩
    · rintro D C vx ys σ4 ⟨rfl, hs4, hD4⟩ Y4 hDn hD'
      rw [List.take_length] at hD'
      cases use <;> exact hQ' D C vx σ4 ⟨Y4, hD'⟩
  · have hst3 := X3 _ _ _ hst (by decide)
    have hfl : (S.filter (goes su S)).length ≤ S.length := List.length_filter_le ..
    repeat walk_at "st"
    refine ⟨Kp.builtin, W_len_list hl (by omega) (fun t1 => ?_)⟩
    repeat walk_at "st"
    refine ⟨Kp.builtin, W_len_list hst3 (by omega) (fun t2 => ?_)⟩
    repeat walk_at "st"
    by_cases hq : (S.filter (goes su S)).length = S.length
    · rw [show (((S.filter (goes su S)).length : Int) == (S.length : Int)) = true from beq_iff_eq.mpr (by rw [hq])]
      repeat walk_at "st"
      refine hPw.br _ ?_
      have hps : ∀ y ∈ S, Stay su y := prune_stay fun v hv => goes_iff.mp (filter_len hq v hv)
      have X13 := X1.trans (X2.trans X3)
      clear hXw
      repeat walk_at "st"
      refine W_newList 9 (by simp) (fun l6 h6 σ6 e6 => ?_)
      have X6 : Ext [] σ3 σ6 := by rw [e6]; exact Ext.upd_new h6
      have hSko : ∀ w ∈ S, KO w := fun w hw => R.key w (hP.sub.subset hw)
      refine W_eqD hA' (.list (X6 _ _ _ hst3 (by decide)) (KO.rds hSko)) (.list (by rw [e6]; exact upd_self) .nil) (KO.shL hSko).ok Sh.nil ?_
      rw [eqv_nil]
      cases S with
      | nil =>
        repeat walk_at "st"
        exact h none .none σ6 (.no fun k hk s => List.not_mem_nil (hP.stay k hk s)) .no (X13.trans X6).nil
      | cons v r =>
        repeat walk_at "st"
        have kv := hSk v (by simp)
        have hst6 := X6 _ _ _ hst3 (by decide)
        refine ⟨noGet_list hst6, W_item_list hst6 (by decide) (v := v) rfl (by omega) (All.key kv fun u eu => ?_)⟩
        repeat walk_at "st"
        refine W_newList 5 (by simp) (fun wy h7 σ7 e7 => ?_)
        have X7 : Ext [] σ σ7 := (X13.trans X6).trans (by rw [e7]; exact Ext.upd_new h7)
        have hst7 : σ7 st = some (0, .list (v :: r)) := by rw [e7, upd_ne (fun z => by rw [← z, hst6] at h7; cases h7)]; exact hst6
        repeat walk_at "st"
        refine W_WhileG (W2I fs g L cl od af st _ ks su v σ7) (fun n a P3 X3' hP3 hX3 hI => ?_) ks.length ⟨wy, [], v, none, σ7, rfl, rfl, by rw [e7, upd_self]; simp [eu], ⟨.one, by simp, rfl, fun y hy => by rw [List.mem_singleton.mp hy]; exact ⟨hP.sub.subset (by simp), hps v (by simp)⟩⟩, Ext.refl⟩
        obtain ⟨wy, way, u, b, σ8, rfl, rfl, hwy, O, X8⟩ := hI
        have hD8 := hD.ext (X7.nil.trans X8) (by decide) (by decide)
        have hst8 := X8 _ _ _ hst7 (by decide)
        obtain ⟨hu, sU⟩ := O.st u (by simp)
        have ku := hkk u hu
        obtain ⟨w, rr, ef, hF, hw, sw⟩ := way_on R hP hps O
        have kw := hkk w hw
        have hlen : way.length + 1 ≤ ks.length := by have := nodup_le O.nd fun y hy => (O.st y hy).1; simpa using this
        have hkl := R.len
        obtain ⟨j, p, _, _, hgt, hpr⟩ := hD8.at_ hu
        repeat walk_at "st"
        refine W_inStay (L := L) (cl := cl) (ns := nsR) (sc := _) ⟨rfl, rfl, by decide +kernel⟩ (hC.mono (by simp)) hgl hbl hh (List.mem_cons_self ..) (by walk_at "var") hE.nd hst8 (by decide) hpr (by decide) (R.row u) hSk (fun w hw => hkk w (R.ins u hu w hw)) (fun Q q => ?_) (fun D σ9 X9 hD9 => ?_) (by intro _; with_unfolding_all rfl)
        · repeat walk_at "st"
          refine ⟨noGet_list hwy, W_last_list hwy (by omega) (All.key ku fun u2 eu2 => ?_)⟩
          exact ⟨noGet_dict hD8.d, W_dict_item hD8.d (by rw [eu2]; exact ku) (by rw [eu2]; exact hgt) (All.ref q)⟩
        · rw [ef] at hD9
          have hrl : (w :: rr).length ≤ 90000 := by rw [← ef]; exact Nat.le_trans (List.length_filter_le ..) (R.row u)
          have hwy9 := X9 _ _ _ hwy (by decide)
          have hwk : ∀ y ∈ way ++ [u], y.isKey = true := fun y hy => hkk y (O.st y hy).1
          repeat walk_at "st"
          refine ⟨noGet_list hD9, W_item_list hD9 (by decide) (v := w) rfl (by omega) (All.key kw fun u2 eu2 => ?_)⟩
          repeat walk_at "st"
          rw [eu2]
          repeat walk_at "st"
          refine All.key kw fun u3 eu3 => ?_
          repeat walk_at "st"
          refine W_in_list hwy9 (by rw [eu3]; exact kw) hwk ?_
          rw [eu3]
          by_cases hin : w ∈ way ++ [u]
          · rw [decide_eq_true hin]
            obtain ⟨pp, q, e, hpp⟩ := first_at hin
            have hpl : pp.length ≤ (way ++ [u]).length := by rw [e, List.length_append]; exact Nat.le_add_right _ _
            have hwl : (way ++ [u]).length ≤ 90000 := by rw [List.length_append]; exact Nat.le_trans hlen hkl
            refine W_truthy_bool (ite_t rfl (W_consG fun _ _ => W_Return_some (W_BinOp (W_slice_from 9 ?_))))
            repeat walk_at "st"
            intro pl
            refine W_meth_list F.slot_list_index F.type_list_index hwy9 ?_
            repeat walk_at "st"
            refine All.key kw fun u4 eu4 => ?_
            repeat walk_at "st"
            refine ⟨Kp.builtin, W_index hwy9 (by omega) (by rw [eu4]; exact kw) hwk (j := pp.length) (by rw [eu4, e]; simp) (fun m hm z => ?_) (fun t5 => ?_)⟩
            · rw [e, List.getElem?_append_left hm, eu4] at z
              exact hpp (List.mem_of_getElem? z)
            repeat walk_at "st"
            refine ⟨wy, 5, _, _, _, rfl, rfl, hwy9, by omega, Int.natCast_nonneg _, hpl, fun l10 h10 σ10 e10 => ?_⟩
            dsimp only at h10 e10 ⊢
            rw [Int.toNat_natCast, e, List.drop_left] at e10
            repeat walk_at "st"
            refine All.key kw fun u5 eu5 => ?_
            repeat walk_at "st"
            refine W_newList 9 (by simp) (fun l11 h11 σ11 e11 => ?_)
            have n1 : l10 ≠ l11 := fun z => by rw [← z, e10, upd_self] at h11; cases h11
            have hql : (w :: q).length ≤ 90000 := by rw [e, List.length_append] at hwl; omega
            refine W_list_add 0 (by rw [e11, upd_ne n1, e10]; exact upd_self) (by rw [e11]; exact upd_self) (by rw [List.length_map]; exact Nat.le_trans (Nat.add_le_add_right hql 1) (by decide)) (fun l12 h12 σ12 e12 => ?_)
            repeat walk_at "st"
            have hX : Ext [5] σ σ12 := X7.nil.trans (X8.trans (X9.nil.trans (Ext.nil (by rw [e12]; refine Ext.trans ?_ (Ext.upd_new h12); rw [e11]; refine Ext.trans ?_ (Ext.upd_new h11); rw [e10]; exact Ext.upd_new h10))))
            refine hP3.re _ _ ?_
            repeat walk_at "st"
            refine h (some (w :: q ++ [w])) (.ref l12) σ12 (way_end R hP O hF e) (.yes (by rw [e12, upd_self]; simp [eu5]) fun y hy => ?_) hX
            rcases List.mem_append.mp hy with hy | hy
            · exact R.key y (O.st y (by rw [e]; exact List.mem_append_right _ hy)).1
            · rw [List.mem_singleton.mp hy]; exact R.key w hw
          · rw [decide_eq_false hin]
            repeat walk_at "st"
            intro pl
            refine W_meth_list F.slot_list_append F.type_list_append hwy9 ?_
            repeat walk_at "st"
            refine All.key kw fun u4 eu4 => ?_
            repeat walk_at "st"
            refine ⟨Kp.builtin, W_append hwy9 (by rw [List.length_append]; exact Nat.le_trans hlen (Nat.le_trans hkl (by decide))) (fun σ10 e10 => ?_)⟩
            repeat walk_at "st"
            refine hP3.nx _ ⟨ks.length - (way ++ [u]).length, by rw [List.length_append]; show ks.length - (way.length + 1) < _; omega, wy, way ++ [u], w, _, σ10, rfl, rfl, by rw [e10, upd_self, eu4], way_more O hF hw sw hin, X8.trans (X9.nil.trans (by rw [e10]; exact Ext.upd_own hwy9 (by decide)))⟩
    · rw [show (((S.filter (goes su S)).length : Int) == (S.length : Int)) = false from beq_eq_false_iff_ne.mpr fun z => hq (Int.ofNat.inj z)]
      repeat walk_at "st"
      exact hPw.nx _ ⟨_, Nat.lt_of_le_of_ne hfl hq, D, _, _, σ3, rfl, rfl, hl, hP.step R, X2.trans X3⟩
end
end Mine.Internal

namespace Mine.Internal
open PySem PySem.W PyProof.Rows PySem.Calls PySem.SeqAt

/-! rows of numbers -/
noncomputable def gp (G : Gr) (x : AV) : List AV := ((G.find? fun q => decide (q.1 = x)).map (·.2)).getD []
noncomputable def bestOf (rw : AV → List Int) (ps : List AV) : List Int := (ps.map rw).getD (bestR (ps.map rw) (ps.length - 1)) []
noncomputable def rowF (gk gpx : List AV) (rw : AV → List Int) (x : AV) (k : Nat) : List Int := if gpx = [] then [1, (k : Int)] else ((bestOf rw gpx).headD 0 + 1) :: ((bestOf rw gpx).tail ++ [(gk.idxOf x : Int)])
structure RwOk (G : Gr) (N : List AV) (ks : List AV) (rw : AV → List Int) : Prop where
  nd : ks.Nodup
  sub : ∀ x ∈ ks, x ∈ N
  prev : ∀ pre x post, ks = pre ++ x :: post → ∀ p ∈ gp G x, p ∈ pre
  val : ∀ x ∈ ks, rw x = rowF (G.map (·.1)) (gp G x) rw x (N.idxOf x)
  len : ∀ x ∈ ks, (rw x).length ≤ ks.length + 1
theorem bestR_lt {rs : List (List Int)} : ∀ n, bestR rs n ≤ n
  | 0 => Nat.le_refl 0
  | n + 1 => by
    unfold bestR
    split
    · exact Nat.le_refl _
    · exact Nat.le_succ_of_le (bestR_lt n)
theorem bestOf_mem {ps : List AV} (rw : AV → List Int) (h : ps ≠ []) : ∃ p ∈ ps, bestOf rw ps = rw p := by
  have hl := List.length_pos_iff.mpr h
  have hb : bestR (ps.map rw) (ps.length - 1) < ps.length := Nat.lt_of_le_of_lt (bestR_lt _) (Nat.sub_lt hl Nat.one_pos)
  refine ⟨_, List.getElem_mem hb, ?_⟩
  unfold bestOf
  rw [List.getD_eq_getElem?_getD, List.getElem?_map, List.getElem?_eq_getElem hb]; rfl
theorem gp_of {G : Gr} (hn : (G.map (·.1)).Nodup) {i : Nat} {q : AV × List AV} (h : G[i]? = some q) : gp G q.1 = q.2 := by
  unfold gp
  have : G.find? (fun r => decide (r.1 = q.1)) = some q := by
    rw [List.find?_eq_some_iff_append]
    obtain ⟨hi, e⟩ := List.getElem?_eq_some_iff.mp h
    refine ⟨by simp, G.take i, G.drop (i + 1), by rw [← e, List.getElem_cons_drop, List.take_append_drop], fun r hr => ?_⟩
    obtain ⟨j, hj, ej⟩ := List.mem_take_iff_getElem.mp hr
    rw [Bool.not_eq_true', decide_eq_false_iff_not]
    intro z
    have a1 : (G.map (·.1))[j]? = some q.1 := by rw [List.getElem?_map, List.getElem?_eq_some_iff.mpr ⟨_, ej⟩]; exact congrArg some z
    have a2 : (G.map (·.1))[i]? = some q.1 := by rw [List.getElem?_map, h]; rfl
    have := nodup_idx' hn a1 a2
    omega
  rw [this]; rfl
theorem gp_no {G : Gr} {x : AV} (h : x ∉ G.map (·.1)) : gp G x = [] := by
  unfold gp
  have : G.find? (fun r => decide (r.1 = x)) = none := by
    rw [List.find?_eq_none]
    exact fun r hr z => h (of_decide_eq_true z ▸ List.mem_map_of_mem hr)
  rw [this]; rfl
theorem rowF_congr {gk ps : List AV} {rw rw' : AV → List Int} {x : AV} {k : Nat} (h : ∀ p ∈ ps, rw p = rw' p) : rowF gk ps rw x k = rowF gk ps rw' x k := by
  unfold rowF bestOf
  rw [List.map_congr_left h]
theorem RwOk.prev' {G : Gr} {N ks : List AV} {rw : AV → List Int} (h : RwOk G N ks rw) {x : AV} (hx : x ∈ ks) : ∀ p ∈ gp G x, p ∈ ks := fun p hp => by
  obtain ⟨a, b, e⟩ := List.append_of_mem hx
  rw [e]; exact List.mem_append_left _ (h.prev a x b e p hp)
theorem RwOk.ne {G : Gr} {N ks : List AV} {rw : AV → List Int} (h : RwOk G N ks rw) {x : AV} (hx : x ∈ ks) : ∃ a t, rw x = a :: t := by
  rw [h.val x hx]; unfold rowF
  split <;> exact ⟨_, _, rfl⟩
theorem RwOk.nil {G : Gr} {N : List AV} {rw : AV → List Int} : RwOk G N [] rw := ⟨.nil, fun _ h => (List.not_mem_nil h).elim, (fun pre x post e => by cases pre <;> cases e), fun _ h => (List.not_mem_nil h).elim, fun _ h => (List.not_mem_nil h).elim⟩
theorem RwOk.add {G : Gr} {N ks : List AV} {rw : AV → List Int} (h : RwOk G N ks rw) {x : AV} (hx : x ∉ ks) (hN : x ∈ N) (hp : ∀ p ∈ gp G x, p ∈ ks) :
    RwOk G N (ks ++ [x]) (fset rw x (rowF (G.map (·.1)) (gp G x) rw x (N.idxOf x))) := by
  have ag : ∀ {p : AV} {r : List Int}, p ∈ ks → fset rw x r p = rw p := fun {p r} m => fset_ne fun z => hx (z ▸ m)
  refine ⟨List.nodup_append.mpr ⟨h.nd, by simp, fun a ha b hb e => hx (by rw [← List.mem_singleton.mp hb, ← e]; exact ha)⟩, fun y hy => ?_, fun pre y post e => ?_, fun y hy => ?_, fun y hy => ?_⟩
  · rcases List.mem_append.mp hy with hy | hy
    · exact h.sub y hy
    · rw [List.mem_singleton.mp hy]; exact hN
  · rcases List.eq_nil_or_concat post with rfl | ⟨post', z, rfl⟩
    · obtain ⟨e1, e2⟩ := List.append_inj' e rfl
      cases e2
      rw [← e1]; exact hp
    · rw [List.concat_eq_append, ← List.cons_append, ← List.append_assoc] at e
      obtain ⟨e1, _⟩ := List.append_inj' e rfl
      exact h.prev pre y post' e1
  · rcases List.mem_append.mp hy with hy | hy
    · rw [ag hy, h.val y hy]
      exact rowF_congr fun p hp => (ag (h.prev' hy p hp)).symm
    · rw [List.mem_singleton.mp hy, fset_self]
      exact rowF_congr fun p hp' => (ag (hp p hp')).symm
  · rw [List.length_append]
    show _ ≤ ks.length + 1 + 1
    rcases List.mem_append.mp hy with hy | hy
    · rw [ag hy]; exact Nat.le_succ_of_le (h.len y hy)
    · rw [List.mem_singleton.mp hy, fset_self]
      unfold rowF
      split
      · exact Nat.le_add_left 2 ks.length
      · rename_i hne
        obtain ⟨p, hp', e⟩ := bestOf_mem rw hne
        have := h.len p (hp p hp')
        rw [e, List.length_cons, List.length_append, List.length_tail, List.length_singleton]
        omega
theorem DL.congr {σ : Addr → Option (Nat × Cell)} {D : Addr} {k kr : Nat} {ks : List AV} {as : List Addr} {ep : Nat} {su su' : AV → List AV} (h : DL σ D k kr ks as ep su) (e : ∀ y ∈ ks, su y = su' y) : DL σ D k kr ks as ep su' :=
  ⟨h.d, h.len, fun j p y a b => by rw [← e y (List.mem_of_getElem? b)]; exact h.row j p y a b, h.nd, h.knd⟩

section
variable {c : Cx} {A : Around} {E : Value → AS → Prop} {fs : List Frm} {σ : Addr → Option (Nat × Cell)} {g : Array GenState} {d : Nat} {x : Addr}
theorem fn_rows {w : World} : FnOkC (KK w) 158 [("graph", false), ("named", false), ("place", false), ("x", false), ("rows", true), ("moved", false), ("k", false), ("needs", false), ("best", false)] ["len", "range", "max"] := ⟨rfl, rfl, rfl, rfl, rfl, rfl, rfl, rfl, rfl, rfl, by decide +kernel⟩

/-- [p for p in NEEDS if p not in rows] -/
theorem W_notRows {env : Env} {sc : Scope} {cl : List (Str × Addr)} {L : Addr} {ns : List Str} {vs : List (Option AV)} {p0 p1 p2 p3 p4 px pos : Pos} {rD p : Addr} {ep : Nat} {ks row : List AV} {as : List Addr} {su : AV → List AV} {Q : Value → AS → Prop} {gs : List (Str × Value)}
    (hsc : CScope sc "p" [] ["rows"]) (hC : CapOk env cl ["rows"]) (hE : EnvOk c env L cl ns gs) (hh : A.handled = none) (hv : VarAt ns vs "rows" (some (.ref rD))) (hn : VarAt ns vs "needs" (some (.ref p)))
    (hS : DL σ rD 5 0 ks as ep su) (hp : σ p = some (0, .list row)) (hz : row.length ≤ 90000) (kR : ∀ v ∈ row, v.isKey = true)
    (h : ∀ D σ', Ext [] σ σ' → σ' D = some (0, .list (row.filter fun w => decide (w ∉ ks))) → Q (.ref D) ⟨⟨L, cl, ns, vs⟩ :: fs, σ', g⟩) :
    W c A (eval (.ListComp (.Name "p" p1) [⟨.Name "p" px, .Name "needs" p0, [.Compare (.Name "p" p2) [.NotIn] [.Name "rows" p3] p4], 0⟩] sc pos) env) Q E ⟨⟨L, cl, ns, vs⟩ :: fs, σ, g⟩ := by
  refine W_ListComp hsc hC (W_Name hE hn (All.ref (W_iter_list hp fun it h1 σ1 e1 => ?_)))
  refine CompK_loop (k := 0) (gs := []) hsc hC rfl (by simp) hE.gl hE.bl (IterOf.list hh) IterSelf.list [] (by simp) (by simp) (by decide) 0
    (fun i ys σ => ys = (row.take i).filter (fun w => decide (w ∉ ks)) ∧ DL σ rD 5 0 ks as ep su) (fun i ys σ σ' q e => ⟨q.1, q.2.ext e (by decide) (by decide)⟩) h1 e1 (by rw [e1, upd_ne (fun q => by rw [← q, hp] at h1; cases h1)]; exact hp) ⟨rfl, hS⟩ (fun i ys σ q => ?_) ?_ ?_
  · rw [q.1]; exact Nat.le_trans (List.length_filter_le ..) (by rw [List.length_take]; omega)
  · rintro C cenv i v σ3 ys hCE hCC hg hb ⟨rfl, hS3⟩ hv3 hsrc Y3
    have kv := kR v (List.mem_of_getElem? hv3)
    have et : (row.take (i + 1)).filter (fun w => decide (w ∉ ks)) = (row.take i).filter (fun w => decide (w ∉ ks)) ++ if v ∉ ks then [v] else [] := by
      rw [List.take_add_one, hv3, List.filter_append, Option.toList_some]
      by_cases z : v ∈ ks <;> simp [List.filter_cons, z]
    refine W_tests_one (W_isTrue_Compare1 (W_Name hCE .here (All.key kv fun u eu => W_NameCap hCC (List.mem_cons_self ..) (List.mem_cons_of_mem _ (List.mem_cons_self ..)) hv hE.nd (All.ref (W_notin_dict hS3.d (by rw [eu]; exact kv) (W_truthy_bool ?_))))))
    rw [eu]
    by_cases z : v ∈ ks
    · obtain ⟨j, p', _, _, hg, _⟩ := hS3.at_ z
      rw [hg]
      exact ⟨σ3, rfl, Ext.refl, by rw [et, if_neg (fun q => q z), List.append_nil], hS3⟩
    · rw [hS3.no z]
      exact W_Name hCE .here (All.key kv fun u eu => ⟨σ3, rfl, Ext.refl, by rw [et, if_pos z, eu], hS3⟩)
  · rintro D C vx ys σ3 ⟨rfl, hS3⟩ Y3 hD hD3
    rw [List.take_length] at hD3
    exact h D σ3 Y3 hD3
/-- [rows[p] for p in NEEDS] -/
theorem W_rowsOf {env : Env} {sc : Scope} {cl : List (Str × Addr)} {L : Addr} {ns : List Str} {vs : List (Option AV)} {p0 p1 p2 p3 px pos : Pos} {rD p : Addr} {ep : Nat} {ks row : List AV} {as : List Addr} {rw : AV → List Int} {Q : Value → AS → Prop} {gs : List (Str × Value)}
    (hsc : CScope sc "p" [] ["rows"]) (hC : CapOk env cl ["rows"]) (hE : EnvOk c env L cl ns gs) (hh : A.handled = none) (hv : VarAt ns vs "rows" (some (.ref rD))) (hn : VarAt ns vs "needs" (some (.ref p)))
    (hS : DL σ rD 5 0 ks as ep (fun y => I2 (rw y))) (hp : σ p = some (0, .list row)) (hz : row.length ≤ 90000) (kR : ∀ v ∈ row, v.isKey = true) (hin : ∀ v ∈ row, v ∈ ks)
    (h : ∀ D ws σ', Ext [] σ σ' → σ' D = some (0, .list ws) → RwAt σ' ws (row.map rw) → Q (.ref D) ⟨⟨L, cl, ns, vs⟩ :: fs, σ', g⟩) :
    W c A (eval (.ListComp (.Subscript (.Name "rows" p1) (.Name "p" p2) p3) [⟨.Name "p" px, .Name "needs" p0, [], 0⟩] sc pos) env) Q E ⟨⟨L, cl, ns, vs⟩ :: fs, σ, g⟩ := by
  refine W_ListComp hsc hC (W_Name hE hn (All.ref (W_iter_list hp fun it h1 σ1 e1 => ?_)))
  refine CompK_loop (k := 0) (gs := []) hsc hC rfl (by simp) hE.gl hE.bl (IterOf.list hh) IterSelf.list [] (by simp) (by simp) (by decide) 0
    (fun i ys σ => (i ≤ row.length → ys.length = i) ∧ (∀ j v, ys[j]? = some v → ∃ a, v = .ref a ∧ σ a = some (0, .list (I2 ((row.map rw).getD j [])))) ∧ DL σ rD 5 0 ks as ep (fun y => I2 (rw y)) ∧ ys.length ≤ row.length)
    (fun i ys σ σ' q e => ⟨q.1, fun j v hv => (q.2.1 j v hv).imp fun a q => ⟨q.1, e _ _ _ q.2 (by decide)⟩, q.2.2.1.ext e (by decide) (by decide), q.2.2.2⟩) h1 e1 (by rw [e1, upd_ne (fun q => by rw [← q, hp] at h1; cases h1)]; exact hp) ⟨fun _ => rfl, fun j v hv => by simp at hv, hS, Nat.zero_le _⟩ (fun i ys σ q => Nat.le_trans q.2.2.2 (Nat.le_trans hz (by decide))) ?_ ?_
  · rintro C cenv i v σ3 ys hCE hCC hg hb ⟨hl, hy, hS3, hyl⟩ hv3 hsrc Y3
    have hvm := List.mem_of_getElem? hv3
    have kv := kR v hvm
    have hi := (List.getElem?_eq_some_iff.mp hv3).1
    have hl := hl (Nat.le_of_lt hi)
    obtain ⟨j, p', _, _, hgt, hpr⟩ := hS3.at_ (hin v hvm)
    refine W_tests_nil (ite_t rfl ?_)
    refine W_Subscript (W_NameCap hCC (List.mem_cons_self ..) (List.mem_cons_of_mem _ (List.mem_cons_self ..)) hv hE.nd (All.ref (W_Name hCE .here (All.key kv fun u eu => ⟨noGet_dict hS3.d, W_dict_item hS3.d (by rw [eu]; exact kv) (by rw [eu]; exact hgt) (All.ref ⟨σ3, rfl, Ext.refl, fun _ => by rw [List.length_append, hl]; rfl, fun m z hz => ?_, hS3, by rw [List.length_append, hl]; exact hi⟩)⟩))))
    by_cases hm : m < ys.length
    · rw [List.getElem?_append_left hm] at hz; exact hy m z hz
    · obtain rfl : m = ys.length := Nat.le_antisymm (Nat.le_of_lt_succ (by have := (List.getElem?_eq_some_iff.mp hz).1; rw [List.length_append] at this; exact this)) (Nat.le_of_not_lt hm)
      rw [List.getElem?_append_right (Nat.le_refl _), Nat.sub_self] at hz
      cases hz
      refine ⟨p', rfl, ?_⟩
      rw [hl, List.getD_eq_getElem?_getD, List.getElem?_map, hv3]; exact hpr
  · rintro D C vx ys σ3 ⟨hl, hy, hS3, _⟩ Y3 hD hD3
    refine h D ys σ3 Y3 hD3 ⟨by rw [List.length_map]; exact hl (Nat.le_refl _), fun i v hv => ?_⟩
    obtain ⟨a, e, ha⟩ := hy i v hv
    exact ⟨a, 0, e, ha, by decide⟩
end
end Mine.Internal

namespace Mine.Internal
open PySem PySem.W PyProof.Rows PySem.Calls PySem.SeqAt

section
variable {c : Cx} {A : Around} {E : Value → AS → Prop} {fs : List Frm} {σ : Addr → Option (Nat × Cell)} {g : Array GenState} {d : Nat} {x : Addr}
noncomputable abbrev nsW : List Str := ["graph", "named", "place", "x", "rows", "moved", "k", "needs", "best"]
/-- no key is left that has all it needs, up to the i-th name -/
noncomputable def Done (G : Gr) (N ks : List AV) (i : Nat) : Prop := ∀ j x, j < i → N[j]? = some x → x ∈ ks ∨ ¬ ∀ p ∈ gp G x, p ∈ ks
/-- where the inner loop stands -/
inductive RwJ (L : Addr) (cl : List (Str × Addr)) (gr nm pl rD : Addr) (G : Gr) (N : List AV) (n0 : Nat) (i : Nat) (vv : List (Option AV)) (σ : Addr → Option (Nat × Cell)) : Prop
  | mk (ks : List AV) (rw : AV → List Int) (as : List Addr) (ep : Nat) (m : Bool) (b1 b2 b3 b4 : Option AV) : vv = [some (.ref gr), some (.ref nm), some (.ref pl), b1, some (.ref rD), some (.bool m), b2, b3, b4] → DL σ rD 5 0 ks as ep (fun y => I2 (rw y)) → RwOk G N ks rw → (m = true → n0 < ks.length) → (m = false → ks.length = n0 ∧ Done G N ks i) → n0 ≤ ks.length → RwJ L cl gr nm pl rD G N n0 i vv σ
/-- and the while -/
inductive RwI (fs : List Frm) (g : Array GenState) (L : Addr) (cl : List (Str × Addr)) (gr nm pl rD : Addr) (G : Gr) (N : List AV) (σ₀ : Addr → Option (Nat × Cell)) (n : Nat) (a : AS) : Prop
  | mk (ks : List AV) (rw : AV → List Int) (as : List Addr) (ep : Nat) (m : Bool) (b1 b2 b3 b4 : Option AV) (σ : Addr → Option (Nat × Cell)) : a = ⟨⟨L, cl, nsW, [some (.ref gr), some (.ref nm), some (.ref pl), b1, some (.ref rD), some (.bool m), b2, b3, b4]⟩ :: fs, σ, g⟩ → 2 * (N.length - ks.length) + m.toNat = n → DL σ rD 5 0 ks as ep (fun y => I2 (rw y)) → RwOk G N ks rw → (m = false → Done G N ks N.length) → Ext [5] σ₀ σ → RwI fs g L cl gr nm pl rD G N σ₀ n a

set_option maxHeartbeats 1000000 in
theorem rows_spec {gr nm : Addr} {gas : List Addr} {gep : Nat} {G : Gr} {N : List AV} {Q : Value → AS → Prop} (lv : Lv c) (hA : AOk A fs (d + 2)) (hG : GrAt σ gr 0 gas gep G) (hGn : (G.map (·.1)).Nodup) (ok : GrOk G) (hN : σ nm = some (0, .list N)) (hNk : ∀ v ∈ N, KO v) (hNn : N.Nodup) (hNl : N.length ≤ 90000) (hin : ∀ v ∈ N, ∀ p ∈ gp G v, p ∈ N)
    (h : ∀ rD ks rw as ep σ', Ext [5] σ σ' → DL σ' rD 0 0 ks as ep (fun y => I2 (rw y)) → RwOk G N ks rw → Done G N ks N.length → Q (.ref rD) ⟨fs, σ', g⟩) : W c A (call (.ref 158) [.ref gr, .ref nm]) Q E ⟨fs, σ, g⟩ := by
  refine W_call_GC (d := d + 1) lv.K (ps := ["graph", "named"]) (rs := ["place", "x", "rows", "moved", "k", "needs", "best"]) (ns := nsW) (us := [.ref gr, .ref nm]) (gs := [("len", .builtin "len"), ("range", .type "range"), ("max", .builtin "max")]) fn_rows rfl rfl (by kernel_rfl) rfl (.cons (.cons (.rest (.rest (.rest (.rest (.rest (.rest (.rest .nil))))))))) (by simp [lv.len, lv.range, lv.max]) hA (fun L cl env B P X hgl hbl hfr hh hL hA' hout hE hC hFx hUx => ?_)
  have hGl : G.length ≤ 90000 := Nat.le_trans (by unfold wtG; clear hG hGn ok hin h; induction G with | nil => exact Nat.le_refl 0 | cons q G ih => simp; omega) ok.wt
  refine W_consG (fun _ _ => ?_)
  repeat walk_at "st"
  refine W_Dict_nil (W_newDict 5 (fun pl h1 σ1 e1 => ?_))
  repeat walk_at "st"
  have X1 : Ext [] σ σ1 := by rw [e1]; exact Ext.upd_new h1
  have G1 := hG.ext X1 (by decide) (by decide)
  refine W_For ?_
  repeat walk_at "st"
  refine W_iter_dict G1.d (fun it h2 σ2 e2 => ?_)
  have kz : ((G.map (·.1)).zip (gas.map AV.ref)).map (·.1) = G.map (·.1) := List.map_fst_zip (by rw [List.length_map, List.length_map, G1.len]; exact Nat.le_refl _)
  have hkey : ∀ p ∈ (G.map (·.1)).zip (gas.map AV.ref), p.1.isKey = true := fun p hp => by
    obtain ⟨q, hq, e⟩ := List.mem_map.mp (List.of_mem_zip hp).1
    rw [← e]; exact (ok.key q hq).1
  refine Wk_loopG (IterOf.dictKeys (k := 0) hh hkey) [5] (by decide) (by decide)
    (fun i vv σ => ∃ b ep, vv = [some (.ref gr), some (.ref nm), some (.ref pl), b, none, none, none, none, none] ∧ σ pl = some (5, .dict (((G.map (·.1)).take i).zip (intsFrom 0 i)) ep))
    (fun i vv σ σ' ⟨b, ep, q1, q2⟩ e => ⟨b, ep, q1, e _ _ _ q2 (by decide)⟩) h2 e2 (by rw [e2, upd_ne (fun q => by rw [← q, G1.d] at h2; cases h2)]; exact G1.d) ⟨_, 0, rfl, by rw [e1]; exact upd_self⟩ ?_ ?_
  · rw [kz]
    rintro i v vv σ3 u3 P3 E3 hP3 hE3 ⟨b, ep, rfl, hpl⟩ hv eu hsr Y3
    have kv : v.isKey = true := by
      obtain ⟨q, hq, e⟩ := List.mem_map.mp (List.mem_of_getElem? hv)
      rw [← e]; exact (ok.key q hq).1
    have hi : i < G.length := by have := (List.getElem?_eq_some_iff.mp hv).1; rw [List.length_map] at this; exact this
    have hz : (((G.map (·.1)).take i).zip (intsFrom 0 i)).length = i := by rw [List.length_zip, List.length_take, List.length_map]; simp [intsFrom]; omega
    have hnew : v ∉ (G.map (·.1)).take i := fun q => by
      obtain ⟨j, hj, ej⟩ := List.mem_take_iff_getElem.mp q
      have := nodup_idx' hGn (List.getElem?_eq_some_iff.mpr ⟨_, ej⟩) hv
      omega
    repeat walk_at "st"
    rw [eu]
    repeat walk_at "st"
    refine ⟨Kp.builtin, W_len_dict hpl (by rw [hz]; omega) (fun t4 => ?_)⟩
    repeat walk_at "st"
    refine All.key kv fun u5 eu5 => ?_
    refine W_dict_set hpl (by rw [eu5]; exact kv) (by rw [hz]; omega) (fun ep' σ4 e4 => ?_)
    repeat walk_at "st"
    refine hP3.nx _ σ4 (by rw [e4]; exact Ext.upd_own hpl (by decide)) ⟨_, ep', rfl, ?_⟩
    rw [e4, upd_self, eu5, hz, dset_zip (by rw [List.length_take, List.length_map]; simp [intsFrom]; omega) hnew, List.take_add_one, hv]
    simp [intsFrom, List.range_succ, er]
  · rw [show (((G.map (·.1)).zip (gas.map AV.ref)).map (·.1)).length = G.length by rw [kz, List.length_map]]
    rintro vv σ3 ⟨b, ep, rfl, hpl⟩ Y3
    rw [List.take_of_length_le (by rw [List.length_map]; exact Nat.le_refl _)] at hpl
    refine Nx.nx (by assumption) _ (W_recol (fk 5) ?_)
    show W c B _ _ _ ⟨_, recol (fk 5) σ3, _⟩
    have hpl := recolk_at hpl
    have X3 : Ext [5] σ (recol (fk 5) σ3) := X1.nil.trans (Y3.trans (Ext.recolk (by decide)))
    generalize recol (fk 5) σ3 = σ4 at *
    repeat walk_at "st"
    refine W_Dict_nil (W_newDict 5 (fun rD h5 σ5 e5 => ?_))
    have X45 : Ext [] σ4 σ5 := by rw [e5]; exact Ext.upd_new h5
    have X5 : Ext [5] σ σ5 := X3.trans X45.nil
    have hpl5 := X45 _ _ _ hpl (by decide)
    repeat walk_at "st"
    refine W_WhileG (RwI fs g L cl gr nm pl rD G N σ5) (fun n a P6 X6 hP6 hX6 hI => ?_) _ ⟨[], fun _ => [], [], 0, true, _, _, _, _, σ5, rfl, rfl, ⟨by rw [e5]; exact upd_self, rfl, fun j p q a => by simp at a, .nil, .nil⟩, RwOk.nil, (fun q => nomatch q), Ext.refl⟩
    obtain ⟨ks, rw, as, ep6, m, b1, b2, b3, b4, σ6, rfl, rfl, hD, hR, hDn, Y6⟩ := hI
    repeat walk_at "st"
    have X56 := X5.trans Y6
    have G6 := hG.ext X56 (by decide) (by decide)
    have hN6 := X56 _ _ _ hN (by decide)
    have hpl6 := Y6 _ _ _ hpl5 (by decide)
    cases m with
    | false =>
      refine ite_f Bool.false_ne_true ?_
      refine W_nil ?_
      refine Nx.nx (by assumption) _ (W_recol (fk 5) ?_)
      show W c B _ _ _ ⟨_, recol (fk 5) σ6, _⟩
      repeat walk_at "st"
      exact h rD ks rw as ep6 _ (X56.trans (Ext.recolk (by decide))) (hD.turn (fk 5)) hR (hDn rfl)
    | true =>
      repeat walk_at "st"
      refine W_For ?_
      repeat walk_at "st"
      refine ⟨Kp.builtin, W_len_list hN6 (by omega) (fun t7 => ?_)⟩
      repeat walk_at "st"
      refine ⟨Kp.type, W_range1 (fun rg h7 σ7 e7 => ?_)⟩
      have X7 : Ext [] σ6 σ7 := by rw [e7]; exact Ext.upd_new h7
      refine W_iter_range (by rw [e7]; exact upd_self) (by decide) (by decide) (by omega) (by omega) (fun it2 h8 σ8 e8 => ?_)
      rw [show ((N.length : Int) - 0).toNat = N.length by omega] at e8
      refine Wk_loopG (IterOf.range (k := 0) hh) [5] (by decide) (by decide) (fun i vv σ => RwJ L cl gr nm pl rD G N ks.length i vv σ)
        (fun i vv σ σ' q e => by obtain ⟨ks, rw, as, ep, m, b1, b2, b3, b4, q1, q2, q3, q4, q5, q6⟩ := q; exact ⟨ks, rw, as, ep, m, b1, b2, b3, b4, q1, q2.ext e (by decide) (by decide), q3, q4, q5, q6⟩) h8 e8 trivial
        ⟨ks, rw, as, ep6, false, _, _, _, _, rfl, hD.ext X7 (by decide) (by decide), hR, (fun q => nomatch q), fun _ => ⟨rfl, fun j x hj => absurd hj (Nat.not_lt_zero j)⟩, Nat.le_refl _⟩ ?_ ?_
      · rintro i v vv σ9 u9 P9 E9 hP9 hE9 ⟨ks1, rw1, as1, ep1, m1, b1', b2', b3', b4', rfl, hD9, hR9, hm1, hm0, hle⟩ hv eu _ Y9
        obtain ⟨rfl, hi⟩ := intsFrom_at hv
        obtain ⟨x, hx⟩ : ∃ x, N[i]? = some x := ⟨_, List.getElem?_eq_getElem hi⟩
        have hxN := List.mem_of_getElem? hx
        have kx := (hNk x hxN).key
        have X9 := X56.trans (X7.nil.trans Y9)
        have G9 := hG.ext X9 (by decide) (by decide)
        have hN9 := X9 _ _ _ hN (by decide)
        have hpl9 := Y9 _ _ _ (X7 _ _ _ hpl6 (by decide)) (by decide)
        have hix : N.idxOf x = i := by
          have h1 := List.getElem_idxOf (List.idxOf_lt_length_iff.mpr hxN)
          exact nodup_idx' hNn (List.getElem?_eq_some_iff.mpr ⟨_, h1⟩) hx
        have skip : ∀ {m : Bool}, (x ∈ ks1 ∨ ¬ ∀ p ∈ gp G x, p ∈ ks1) → (m1 = false → ks1.length = ks.length ∧ Done G N ks1 (i + 1)) := fun hs q => ⟨(hm0 q).1, fun j y hj hy => by
          by_cases e : j = i
          · subst e; rw [hx] at hy; cases hy; exact hs
          · exact (hm0 q).2 j y (by omega) hy⟩
        rw [Int.zero_add] at eu
        repeat walk_at "st"
        rw [eu]
        repeat walk_at "st"
        refine ⟨noGet_list hN9, W_item_list hN9 (by omega) (v := x) (by simpa using hx) (by omega) (All.key kx fun u1 eu1 => ?_)⟩
        repeat walk_at "st"
        rw [eu1]
        repeat walk_at "st"
        refine All.key kx fun u2 eu2 => ?_
        repeat walk_at "st"
        refine W_in_dict hD9.d (by rw [eu2]; exact kx) ?_
        rw [eu2]
        by_cases hin1 : x ∈ ks1
        · obtain ⟨_, _, _, _, hg, _⟩ := hD9.at_ hin1
          rw [hg]
          repeat walk_at "st"
          exact hP9.co _ σ9 Ext.refl ⟨ks1, rw1, as1, ep1, m1, _, _, _, _, rfl, hD9, hR9, hm1, skip (m := m1) (.inl hin1), hle⟩
        · rw [hD9.no hin1]
          repeat walk_at "st"
          intro pl1
          refine W_meth_dict F.slot_dict_get F.type_dict_get G9.d ?_
          repeat walk_at "st"
          refine All.key kx fun u3 eu3 => ?_
          repeat walk_at "st"
          refine W_newList 0 (by simp) (fun l1 ha σa ea => ?_)
          have Xa : Ext [] σ9 σa := by rw [ea]; exact Ext.upd_new ha
          repeat walk_at "st"
          -- the needs
          obtain ⟨nd, hnd, hndl⟩ : ∃ nd, (dget ((G.map (·.1)).zip (gas.map AV.ref)) x).getD (.ref l1) = .ref nd ∧ σa nd = some (0, .list (gp G x)) := by
            by_cases hxg : x ∈ G.map (·.1)
            · obtain ⟨q, hq, rfl⟩ := List.mem_map.mp hxg
              obtain ⟨j, hj⟩ := List.mem_iff_getElem?.mp hq
              obtain ⟨p, hp, hpr⟩ := G9.get hGn hj
              exact ⟨p, by rw [hp]; rfl, by rw [gp_of hGn hj]; exact Xa _ _ _ hpr (by decide)⟩
            · exact ⟨l1, by rw [dget_zip_none hxg]; rfl, by rw [gp_no hxg, ea, upd_self]; rfl⟩
          refine ⟨Kp.builtin, W_dict_get2 (Xa _ _ _ G9.d (by decide)) (by rw [eu3]; exact kx) ?_⟩
          rw [eu3, show er (Value.ref l1) = .ref l1 from rfl, hnd]
          have hDa := hD9.ext Xa (by decide) (by decide)
          have hko : ∀ v ∈ gp G x, KO v := fun v hv => hNk v (hin x hxN v hv)
          have hkp : ∀ v ∈ gp G x, v.isKey = true := fun v hv => (hko v hv).key
          have hgl2 : (gp G x).length ≤ 90000 := by
            by_cases hxg : x ∈ G.map (·.1)
            · obtain ⟨q, hq, rfl⟩ := List.mem_map.mp hxg
              obtain ⟨j, hj⟩ := List.mem_iff_getElem?.mp hq
              rw [gp_of hGn hj]
              have := wtG_le hj
              have := ok.wt
              omega
            · rw [gp_no hxg]; exact Nat.zero_le _
          repeat walk_at "st"
          refine W_notRows (sc := _) ⟨rfl, rfl, by decide +kernel⟩ (hC.mono (by simp)) hE hh (by walk_at "var") (by walk_at "var") hDa hndl hgl2 hkp (fun D σb Xb hDb => ?_)
          repeat walk_at "st"
          refine W_newList 9 (by simp) (fun l2 hc σc ec => ?_)
          have Xc : Ext [] σa σc := Xb.trans (by rw [ec]; exact Ext.upd_new hc)
          have hfk : ∀ w ∈ (gp G x).filter (fun w => decide (w ∉ ks1)), KO w := fun w hw => hko w (List.mem_filter.mp hw).1
          refine W_neD hA' (.list ((by rw [ec]; exact Ext.upd_new hc : Ext [] σb σc) _ _ _ hDb (by decide)) (KO.rds hfk)) (.list (by rw [ec]; exact upd_self) .nil) (KO.shL hfk).ok Sh.nil ?_
          rw [eqv_nil]
          have hDc := hDa.ext Xc (by decide) (by decide)
          by_cases hall : ∀ p ∈ gp G x, p ∈ ks1
          · have hf : (gp G x).filter (fun w => decide (w ∉ ks1)) = [] := List.filter_eq_nil_iff.mpr fun w hw q => (of_decide_eq_true q) (hall w hw)
            rw [hf]
            repeat walk_at "st"
            refine W_newList 9 (by simp) (fun l3 hd σd ed => ?_)
            have Xd : Ext [] σc σd := by rw [ed]; exact Ext.upd_new hd
            have hndd := Xd _ _ _ (Xc _ _ _ hndl (by decide)) (by decide)
            refine W_eqD hA' (.list hndd (KO.rds hko)) (.list (by rw [ed]; exact upd_self) .nil) (KO.shL hko).ok Sh.nil ?_
            rw [eqv_nil]
            have hDd := hDc.ext Xd (by decide) (by decide)
            have X9d : Ext [] σ9 σd := Xa.trans (Xc.trans Xd)
            have hR' := hR9.add hin1 hxN hall
            rw [hix] at hR'
            have fin : ∀ (pr : Addr) (σe : Addr → Option (Nat × Cell)) (b4 : Option AV), Ext [] σd σe → σd pr = none → σe pr = some (0, .list (I2 (rowF (G.map (·.1)) (gp G x) rw1 x i))) → ∀ ep' σf, σf = upd σe rD (some (5, .dict (dset (ks1.zip (as1.map AV.ref)) x (.ref pr)) ep')) →
                P9 .next ⟨⟨L, cl, nsW, [some (.ref gr), some (.ref nm), some (.ref pl), some x, some (.ref rD), some (.bool true), some (.int i), some (.ref nd), b4]⟩ :: fs, σf, g⟩ := fun pr σe b4 Xe hpn hpr ep' σf ef => by
              refine hP9.nx _ σf ((X9d.trans Xe).nil.trans (by rw [ef]; exact Ext.upd_own (hDd.ext Xe (by decide) (by decide)).d (by decide))) ⟨ks1 ++ [x], _, as1 ++ [pr], ep', true, _, _, _, _, rfl, ?_, hR', fun _ => ?_, (fun q => nomatch q), ?_⟩
              · rw [ef]
                refine (hDd.congr (su' := fun y => I2 (fset rw1 x (rowF (G.map (·.1)) (gp G x) rw1 x i) y)) fun y hy => by show I2 _ = I2 _; rw [fset_ne (show y ≠ x from fun z => hin1 (z ▸ hy))]).new (by decide) hin1 Xe hpn ?_
                rw [hpr]; show _ = some (0, Cell.list (I2 (fset _ _ _ _))); rw [fset_self]
              · rw [List.length_append]; exact Nat.lt_succ_of_le hle
              · rw [List.length_append]; exact Nat.le_succ_of_le hle
            cases hgx : gp G x with
            | nil =>
              repeat walk_at "st"
              refine W_newList 0 (by simp) (fun pr he σe ee => ?_)
              repeat walk_at "st"
              refine All.key kx fun u4 eu4 => ?_
              have Xe : Ext [] σd σe := by rw [ee]; exact Ext.upd_new he
              refine W_dict_set (hDd.ext Xe (by decide) (by decide)).d (by rw [eu4]; exact kx) (by rw [List.length_zip, List.length_map, hDd.len, Nat.min_self]; have := nodup_le hR9.nd hR9.sub; omega) (fun ep' σf ef => ?_)
              rw [eu4] at ef
              repeat walk_at "st"
              exact fin pr σe _ Xe he (by rw [ee, upd_self]; unfold rowF; rw [if_pos hgx]; rfl) ep' σf ef
            | cons p0 pr0 =>
              repeat walk_at "st"
              refine W_rowsOf (sc := _) ⟨rfl, rfl, by decide +kernel⟩ (hC.mono (by simp)) hE hh (by walk_at "var") (by walk_at "var") hDd hndd hgl2 hkp hall (fun D2 ws σe Xe hDe hRw => ?_)
              have hwl : ws.length = (gp G x).length := by rw [hRw.1, List.length_map]
              repeat walk_at "st"
              refine ⟨Kp.builtin, W_max hA'.in1.handled hA'.in1.lt (by decide) (by rw [hwl, hgx]; exact Nat.zero_lt_succ _) hDe hRw (fun v σf hv Xf => ?_)⟩
              obtain ⟨a, ka, ea, ha, hka⟩ := hRw.2 _ _ hv
              obtain rfl := er_ref ea
              rw [hwl] at ha
              change σe a = some (ka, .list (I2 (bestOf rw1 (gp G x)))) at ha
              obtain ⟨pb, hpb, epb⟩ := bestOf_mem rw1 (show gp G x ≠ [] by rw [hgx]; exact List.cons_ne_nil _ _)
              obtain ⟨b, bt, hbe⟩ := hR9.ne (hall pb hpb)
              have hbl := hR9.len pb (hall pb hpb)
              rw [hbe] at hbl
              rw [← epb] at hbe
              have hkl := nodup_le hR9.nd hR9.sub
              rw [hbe] at ha
              have haf := Xf _ _ _ ha List.not_mem_nil
              have X9f : Ext [] σd σf := Xe.trans Xf
              replace hbl : bt.length + 1 ≤ ks1.length + 1 := hbl
              repeat walk_at "st"
              refine ⟨noGet_list haf, W_item_list haf (by decide) (v := .int b) rfl (by simp; omega) ?_⟩
              repeat walk_at "st"
              refine W_newList 9 (by simp) (fun l4 hg σg eg => ?_)
              have Xg : Ext [] σf σg := by rw [eg]; exact Ext.upd_new hg
              refine W_slice_from 9 ?_
              repeat walk_at "st"
              refine ⟨a, ka, _, _, _, rfl, rfl, Xg _ _ _ haf List.not_mem_nil, by simp; omega, by decide, by simp, fun l5 hh5 σh eh => ?_⟩
              dsimp only at hh5 eh ⊢
              have n45 : l4 ≠ l5 := fun z => by rw [← z, eg, upd_self] at hh5; cases hh5
              refine W_list_add 9 (by rw [eh, upd_ne n45, eg]; exact upd_self) (by rw [eh]; exact upd_self) (by simp; omega) (fun l6 h6 σi ei => ?_)
              have Xi : Ext [] σf σi := Xg.trans ((by rw [eh]; exact Ext.upd_new hh5 : Ext [] σg σh).trans (by rw [ei]; exact Ext.upd_new h6))
              have hxg : x ∈ G.map (·.1) := Classical.byContradiction fun z => by have := gp_no z; rw [hgx] at this; cases this
              repeat walk_at "st"
              refine All.key kx fun u5 eu5 => ?_
              have hpli := Xi _ _ _ (X9f _ _ _ (Xd _ _ _ (Xc _ _ _ (Xa _ _ _ hpl9 (by decide)) (by decide)) (by decide)) (by decide)) (by decide)
              refine ⟨noGet_dict hpli, W_dict_item hpli (by rw [eu5]; exact kx) (x := .int ((G.map (·.1)).idxOf x)) ?_ ?_⟩
              · rw [eu5]
                refine dget_zip hGn (j := (G.map (·.1)).idxOf x) ?_ ?_
                · exact List.getElem?_eq_some_iff.mpr ⟨List.idxOf_lt_length_iff.mpr hxg, List.getElem_idxOf _⟩
                · have := List.idxOf_lt_length_iff.mpr hxg
                  rw [List.length_map] at this
                  unfold intsFrom
                  rw [List.getElem?_map, List.getElem?_range this, Option.map_some, Int.zero_add]
              · repeat walk_at "st"
                refine W_newList 9 (by simp) (fun l7 h7 σj ej => ?_)
                have n67 : l6 ≠ l7 := fun z => by rw [← z, ei, upd_self] at h7; cases h7
                refine W_list_add 0 (by rw [ej, upd_ne n67, ei]; exact upd_self) (by rw [ej]; exact upd_self) (by simp; omega) (fun pr h8 σk ek => ?_)
                have Xj : Ext [] σd σj := X9f.trans (Xi.trans (by rw [ej]; exact Ext.upd_new h7))
                have Xk : Ext [] σd σk := Xj.trans (by rw [ek]; exact Ext.upd_new h8)
                repeat walk_at "st"
                refine All.key kx fun u6 eu6 => ?_
                refine W_dict_set (hDd.ext Xk (by decide) (by decide)).d (by rw [eu6]; exact kx) (by rw [List.length_zip, List.length_map, hDd.len, Nat.min_self]; have := nodup_le hR9.nd hR9.sub; omega) (fun ep' σl el => ?_)
                rw [eu6] at el
                repeat walk_at "st"
                refine fin pr σk _ Xk ?_ ?_ ep' σl el
                · cases q : σd pr with
                  | none => rfl
                  | some z => obtain ⟨kz, cz⟩ := z; have := Xj _ _ _ q List.not_mem_nil; rw [h8] at this; cases this
                · rw [ek, upd_self]; unfold rowF
                  rw [if_neg (by rw [hgx]; exact List.cons_ne_nil _ _), hbe]
                  simp [I2, er]
          · have hf : ((gp G x).filter (fun w => decide (w ∉ ks1))) ≠ [] := fun q => hall fun p hp => Classical.byContradiction fun z => by
              have : p ∈ (gp G x).filter (fun w => decide (w ∉ ks1)) := List.mem_filter.mpr ⟨hp, decide_eq_true z⟩
              rw [q] at this; cases this
            rw [show (((gp G x).filter fun w => decide (w ∉ ks1)).map kd).isEmpty = false by cases q : (gp G x).filter (fun w => decide (w ∉ ks1)) with | nil => exact absurd q hf | cons a l => rfl]
            repeat walk_at "st"
            exact hP9.co _ σc (Xa.trans Xc).nil ⟨ks1, rw1, as1, ep1, m1, _, _, _, _, rfl, hDc, hR9, hm1, skip (m := m1) (.inr hall), hle⟩
      · rintro vv σ9 ⟨ks1, rw1, as1, ep1, m1, b1', b2', b3', b4', rfl, hD9, hR9, hm1, hm0, hle⟩ Y9
        rw [show (intsFrom 0 N.length).length = N.length by simp [intsFrom]] at hm0
        repeat walk_at "st"
        refine hP6.nx _ ⟨2 * (N.length - ks1.length) + m1.toNat, ?_, ks1, rw1, as1, ep1, m1, _, _, _, _, σ9, rfl, rfl, hD9, hR9, fun q => (hm0 q).2, Y6.trans (X7.nil.trans Y9)⟩
        have := nodup_le hR9.nd hR9.sub
        show _ < 2 * (N.length - ks.length) + 1
        cases m1 with
        | true => have := hm1 rfl; show 2 * (N.length - ks1.length) + 1 < _; omega
        | false => have := (hm0 rfl).1; show 2 * (N.length - ks1.length) + 0 < _; omega
end
end Mine.Internal

namespace Mine.Internal
open PySem PySem.W PyProof.Rows PySem.Calls

theorem fn_told {w : World} : FnOk (KK w) 165 ["sorter"] [] ["CycleError"] := ⟨rfl, rfl, rfl, rfl, rfl, rfl, rfl, rfl, rfl, by decide +kernel⟩
theorem fn_rounds {w : World} : FnOk (KK w) 186 ["sorter", "groups"] ["group"] ["tuple"] := ⟨rfl, rfl, rfl, rfl, rfl, rfl, rfl, rfl, rfl, by decide +kernel⟩
theorem bo_prepare {w : World} : BindOk (KK w) CTS "prepare" 92 := ⟨rfl, rfl, rfl, rfl, rfl, rfl, by decide +kernel⟩
theorem bo_active {w : World} : BindOk (KK w) CTS "is_active" 106 := ⟨rfl, rfl, rfl, rfl, rfl, rfl, by decide +kernel⟩
theorem bo_ready {w : World} : BindOk (KK w) CTS "get_ready" 99 := ⟨rfl, rfl, rfl, rfl, rfl, rfl, by decide +kernel⟩
theorem keep_prepare {w : World} : keepIn (KK w) (.ref 92) = true := by rfl
theorem keep_active {w : World} : keepIn (KK w) (.ref 106) = true := by rfl
theorem keep_ready {w : World} : keepIn (KK w) (.ref 99) = true := by rfl
theorem KO.shT {l : List AV} (h : ∀ v ∈ l, KO v) : Sh 1 (.tuple (l.map kd)) := Sh.tuple fun d hd => by
  obtain ⟨v, hv, rfl⟩ := List.mem_map.mp hd
  exact (h v hv).sh
/-- a list of lists -/
structure LL (σ : Addr → Option (Nat × Cell)) (R : Addr) (k kr : Nat) (as : List Addr) (rs : List (List AV)) : Prop where
  d : σ R = some (k, .list (as.map AV.ref))
  len : as.length = rs.length
  row : ∀ (j : Nat) (p : Addr) (r : List AV), as[j]? = some p → rs[j]? = some r → σ p = some (kr, .list r)
  nd : as.Nodup
theorem LL.ext {C : List Nat} {σ σ' : Addr → Option (Nat × Cell)} {R : Addr} {k kr : Nat} {as : List Addr} {rs : List (List AV)} (h : LL σ R k kr as rs) (e : Ext C σ σ') (h0 : k ∉ C) (hk : kr ∉ C) : LL σ' R k kr as rs :=
  ⟨e _ _ _ h.d h0, h.len, fun j p r a b => e _ _ _ (h.row j p r a b) hk, h.nd⟩
/-- the rounds come out, one after the other -/
noncomputable def RunsOk (N : Nat) : SS → List (List AV) → Prop
  | st, [] => st.ready = some [] ∧ ¬ st.nfin < st.npass
  | st, r :: rs => st.ready = some r ∧ r ≠ [] ∧ (r.length ≤ 90 ∧ ∀ v ∈ r, KO v) ∧ (∀ k ∈ r, k ∈ st.keys) ∧ (∀ i k, r[i]? = some k → ((st.getReady r).done (r.take i)).np k = -1) ∧ RunsOk N ((st.getReady r).done r) rs

section
variable {c : Cx} {A : Around} {E : Value → AS → Prop} {fs : List Frm} {σ : Addr → Option (Nat × Cell)} {g : Array GenState} {d : Nat} {x : Addr} {st : SS}

theorem told_spec {Q : Value → AS → Prop} (lv : Lv c) (hA : AOk A fs (d + 3)) (S : SO σ x st) (hr : st.ready = none) (hsu : ∀ k s, s ∈ st.su k → s ∈ st.keys) (hz : st.keys.length < 4000) (hzs : ∀ k, (st.su k).length ≤ 100000)
    (hN : ∀ σ' l, RingRes st.keys st.su none → Ext [1, 3, 4, 8] σ σ' → SO σ' x st.prep → σ' l = some (0, .list [.none]) → Q (.ref l) ⟨fs, σ', g⟩)
    (hS : ∀ r σ' l, RingRes st.keys st.su (some r) → Ext [1, 3, 4, 8] σ σ' → SO σ' x st.prep → σ' l = some (0, .list [.str "CycleError"]) → Q (.ref l) ⟨fs, σ', g⟩) :
    W c A (call (.ref 165) [.ref x]) Q E ⟨fs, σ, g⟩ := by
  obtain ⟨dx, nd, rv, as, ep, S⟩ := S
  refine W_call_G lv.K (ns := ["sorter"]) (us := [.ref x]) (gs := [("CycleError", .ref 55)]) fn_told rfl (by kernel_rfl) rfl (.cons .nil) (by simp [lv.CycleError]) hA (fun L env B P X hfr hh hL hA' hout hE hFx hUx => ?_)
  refine W_consG (fun P1 hP1 => ?_)
  refine W_Try ?_
  repeat walk_at "st"
  intro pl
  refine W_getMethod S.x S.dx (lv.K ▸ bo_prepare.get) (lv.K ▸ bo_prepare.find) (lv.K ▸ bo_prepare.fn) (no_attr (by decide +kernel)) ?_
  repeat walk_at "st"
  refine ⟨Kp.inK (lv.K ▸ keep_prepare), W_call (prepare_spec lv.toLw lv.CycleError (d := d) hA' S hr hsu hz hzs (fun σ1 b hr1 X1 S1 => ?_) (fun r e t args T σ1 b hr1 X1 S1 hx1 => ?_))⟩
  · dsimp only
    repeat walk_at "st"
    refine W_newList 0 (by simp) (fun l h2 σ2 e2 => ?_)
    have X2 : Ext [] σ1 σ2 := by rw [e2]; exact Ext.upd_new h2
    repeat walk_at "st"
    refine hN σ2 l hr1 (X1.trans X2.nil) ⟨_, _, _, _, _, S1.ext X2 (by decide) (by decide)⟩ ?_
    rw [e2]; exact upd_self
  · dsimp only
    obtain ⟨outer, hout⟩ := hout
    refine W_noteFrame hA'.vs.link hout hfr hx1 (fun σ2 T2 X2 hx2 => W_setFlight hx2 (W_handle_hit ?_))
    refine W_Glob hE (by walk_at "mem") ⟨hx2.m (by rw [lv.K]; rfl), W_setFlight hx2 ?_⟩
    repeat walk_at "st"
    refine W_newList 0 (by simp) (fun l h3 σ3 e3 => ?_)
    have X3 : Ext [] σ2 σ3 := by rw [e3]; exact Ext.upd_new h3
    repeat walk_at "st"
    refine hS r σ3 l hr1 (X1.trans ((X2.mono (by decide)).trans X3.nil)) ⟨_, _, _, _, _, (S1.ext X2 (by decide) (by decide)).ext X3 (by decide) (by decide)⟩ ?_
    rw [e3]; exact upd_self

theorem rounds_spec {R : Addr} {as : List Addr} {rs : List (List AV)} {N : Nat} {Q : Value → AS → Prop} (lv : Lv c) (hA : AOk A fs (d + 2)) (S : SO σ x st) (hR : LL σ R 0 0 as rs) (hl : rs.length ≤ 1000) (hN : N ≤ 10000)
    (hrun : RunsOk N st rs) (hsu : ∀ k s, s ∈ st.su k → s ∈ st.keys) (hzs : ∀ k, (st.su k).length ≤ N)
    (h : ∀ σ' st', Ext [1] σ σ' → SO σ' x st' → st'.keys = st.keys → st'.su = st.su → Q (.bool true) ⟨fs, σ', g⟩) :
    W c A (call (.ref 186) [.ref x, .ref R]) Q E ⟨fs, σ, g⟩ := by
  refine W_call_G lv.K (ns := ["sorter", "groups", "group"]) (us := [.ref x, .ref R]) (gs := [("tuple", .type "tuple")]) fn_rounds rfl (by kernel_rfl) rfl (.cons (.cons (.rest .nil))) (by simp [lv.tuple]) hA (fun L env B P X hfr hh hL hA' hout hE hFx hUx => ?_)
  have hR0 := hR.d
  have hvl : (as.map AV.ref).length = rs.length := by rw [List.length_map]; exact hR.len
  refine W_consG (fun P1 hP1 => ?_)
  refine W_For ?_
  repeat walk_at "st"
  refine W_iter_list hR0 (fun it h1 σ1 e1 => ?_)
  refine Wk_loopG (k := 0) (IterOf.list hh) [1] (by simp) (by simp)
    (fun i vv σ => ∃ b st', vv = [some (.ref x), some (.ref R), b] ∧ SO σ x st' ∧ RunsOk N st' (rs.drop i) ∧ st'.keys = st.keys ∧ st'.su = st.su)
    (fun i vv σ σ' ⟨b, st', q1, q2, q3⟩ X => ⟨b, st', q1, q2.ext X (by decide) (by decide), q3⟩)
    h1 e1 (by rw [e1, upd_ne (fun q => by rw [← q, hR0] at h1; cases h1)]; exact hR0) ⟨_, st, rfl, S, hrun, rfl, rfl⟩ ?_ ?_
  · rintro i v vv σ2 u2 P2 E2 hP2 hE2 ⟨b, st2, rfl, ⟨dx, nd, rv, as2, ep, S2⟩, hrun2, hk2, hs2⟩ hv eu hsr Y2
    have hi : i < rs.length := by rw [← hvl]; exact (List.getElem?_eq_some_iff.mp hv).1
    rw [List.getElem?_map] at hv
    obtain ⟨lg, hlg, rfl⟩ := map_some_of hv
    have hlg2 := Y2 _ _ _ (hR.row i lg rs[i] hlg (List.getElem?_eq_getElem hi)) (by decide)
    have hdr : rs.drop i = rs[i] :: rs.drop (i + 1) := (List.getElem_cons_drop hi).symm
    rw [hdr] at hrun2
    generalize rs[i] = r at *
    obtain ⟨hrd, hac, ⟨hrl, hko⟩, hmem, hgood, hrun3⟩ := hrun2
    repeat walk_at "st"
    rw [eu]
    intro pl
    refine W_getMethod S2.x S2.dx (lv.K ▸ bo_active.get) (lv.K ▸ bo_active.find) (lv.K ▸ bo_active.fn) (no_attr (by decide +kernel)) ?_
    repeat walk_at "st"
    refine ⟨Kp.inK (lv.K ▸ keep_active), is_active_spec lv.toLw (d := d) hA'.vs S2 hrd (by omega) ?_⟩
    have hact : (decide (st2.nfin < st2.npass) || !r.isEmpty) = true := by
      cases r with
      | nil => exact absurd rfl hac
      | cons a b => simp
    rw [hact]
    repeat walk_at "st"
    refine W_isnot_bool ?_
    repeat walk_at "st"
    intro pl2
    refine W_getMethod S2.x S2.dx (lv.K ▸ bo_ready.get) (lv.K ▸ bo_ready.find) (lv.K ▸ bo_ready.fn) (no_attr (by decide +kernel)) ?_
    repeat walk_at "st"
    refine ⟨Kp.inK (lv.K ▸ keep_ready), get_ready_spec lv.toLw (d := d) hA'.vs S2 hrd hmem (by omega) (fun t3 σ3 h3 X3 ht3 S3 => ?_)⟩
    repeat walk_at "st"
    have hlg3 := X3 _ _ _ hlg2 (by decide)
    refine ⟨Kp.type, W_tuple_list 9 hlg3 (by omega) (fun t4 h4 σ4 e4 => ?_)⟩
    have X4 : Ext [] σ3 σ4 := by rw [e4]; exact Ext.upd_new h4
    refine W_neD (p := .tuple (r.map kd)) (q := .tuple (r.map kd)) hA' (.tuple (X4 _ _ _ ht3 (by decide)) (KO.rds hko)) (.tuple (by rw [e4]; exact upd_self) (KO.rds hko)) (KO.shT hko).ok (KO.shT hko).ok ?_
    rw [eqv_self (KO.shT hko)]
    repeat walk_at "st"
    have S4 := S3.ext X4 (by decide) (by decide)
    refine W_Call_methodS ?_
    repeat walk_at "st"
    refine W_getBound S4.x S4.dx (lv.K ▸ bo_done) (no_attr (by decide +kernel)) (fun m5 h5 σ5 e5 => ?_)
    have X5 : Ext [] σ4 σ5 := by rw [e5]; exact Ext.upd_new h5
    have S5 := S4.ext X5 (by decide) (by decide)
    have hlg5 := X5 _ _ _ (X4 _ _ _ hlg3 (by decide)) (by decide)
    obtain ⟨od, ho1, ho2⟩ := fdOf_ex (K := KK c.w) fn_done.fn
    refine W_callWith (W_args_star ?_)
    repeat walk_at "st"
    refine ⟨lg, _, rfl, ⟨0, .inl hlg5⟩, by omega, fun us hus => ⟨Kp.bound (by rw [e5]; exact upd_self) (lv.K ▸ ho1) ho2, W_call (Wk_bound (by rw [e5]; exact upd_self) (done_spec lv.toLw (d := d) (N := N) hA'.vs S5 rfl (by intro k; show (st2.su k).length ≤ N; rw [hs2]; exact hzs k) ?_ ?_ hus hmem (by intro k s' q; show s' ∈ st2.keys; rw [hk2]; exact hsu k s' (by rw [← hs2]; exact q)) hgood (fun σ6 X6 S6 => ?_)))⟩⟩
    · show 0 + N * (r.length + 1) ≤ 1000000
      have h1 : r.length + 1 ≤ 91 := by omega
      have := Nat.mul_le_mul hN h1
      omega
    · omega
    · dsimp only
      repeat walk_at "st"
      have hsame := SS.done_same (l := r) (st := st2.getReady r) (N := N) (by intro k; show (st2.su k).length ≤ N; rw [hs2]; exact hzs k)
      exact hP2.nx _ σ6 (X3.trans (X4.nil.trans (X5.nil.trans X6))) ⟨_, _, rfl, ⟨_, _, _, _, _, S6⟩, hrun3, hsame.1.trans hk2, hsame.2.1.trans hs2⟩
  · rintro vv σ2 ⟨b, st2, rfl, ⟨dx, nd, rv, as2, ep, S2⟩, hrun2, hk2, hs2⟩ Y2
    rw [hvl, List.drop_length] at hrun2
    obtain ⟨hrd, hac⟩ := hrun2
    refine Nx.nx (by assumption) _ ?_
    repeat walk_at "st"
    intro pl
    refine W_getMethod S2.x S2.dx (lv.K ▸ bo_active.get) (lv.K ▸ bo_active.find) (lv.K ▸ bo_active.fn) (no_attr (by decide +kernel)) ?_
    repeat walk_at "st"
    refine ⟨Kp.inK (lv.K ▸ keep_active), is_active_spec lv.toLw (d := d) hA'.vs S2 hrd (by simp) ?_⟩
    rw [decide_eq_false hac]
    repeat walk_at "st"
    refine W_is_bool ?_
    repeat walk_at "st"
    intro pl2
    refine W_getMethod S2.x S2.dx (lv.K ▸ bo_ready.get) (lv.K ▸ bo_ready.find) (lv.K ▸ bo_ready.fn) (no_attr (by decide +kernel)) ?_
    repeat walk_at "st"
    refine ⟨Kp.inK (lv.K ▸ keep_ready), get_ready_spec lv.toLw (d := d) hA'.vs S2 hrd (by simp) (by simp) (fun t3 σ3 h3 X3 ht3 S3 => ?_)⟩
    repeat walk_at "st"
    refine W_newTuple 9 (by simp) (fun t4 h4 σ4 e4 => ?_)
    have X4 : Ext [] σ3 σ4 := by rw [e4]; exact Ext.upd_new h4
    refine W_eqD (p := .tuple []) (q := .tuple []) hA' (.tuple (X4 _ _ _ ht3 (by decide)) .nil) (.tuple (by rw [e4]; exact upd_self) .nil) rfl rfl ?_
    repeat walk_at "st"
    exact h σ4 _ (Y2.trans (X3.trans X4.nil)) ⟨_, _, _, _, _, S3.ext X4 (by decide) (by decide)⟩ hk2 hs2
end
end Mine.Internal

namespace Mine.Internal
open PySem PySem.W PyProof.Rows PySem.Calls PySem.F PySem.SeqAt

noncomputable def rawC (o : Obj) : Cell := .raw fun o' => o' = o
theorem oneLt_rows {prog : Program} {w : World} {A : Around} {E : Value → Shared → Prop} {s : Shared} {l b : Addr} {items items2 : Array Value} {n n2 : Nat} {is js : List Int} {Q : Bool → Shared → Prop} (ho : s.heap.get? l = some (listOf items n)) (ho2 : s.heap.get? b = some (listOf items2 n2)) (h1 : items.toList.map er = is.map AV.int) (h2 : items2.toList.map er = js.map AV.int) (hu : A.units < cLine)
    (h : Q (ltL is js) s) : wpAny (model prog w) A (keyLt' oneType' (.ref l) (.ref b)) Q E s := by
  rw [keyLt'_oneType, oneLt'_eq]
  simp only [if_true]
  refine wpAny_bind (wpAny_cRoomFor hu ?_)
  refine wpAny_bind (wpAny_callSpecialIfBound?_slot (T := "list") ⟨_, ho, rfl⟩ F.slot_list_lt (call_meets F.slot_list_lt ⟨_, ho, rfl⟩ F.entry_list_lt (F.args_list_lt_2 _ _) (list_ltAt l b items items2 n n2 is js h1 h2) ⟨ho, ho2, ?_⟩))
  exact wpAny_truthy_bool h

section
variable {c : Cx} {A : Around} {E : Value → AS → Prop} {fs : List Frm} {σ : Addr → Option (Nat × Cell)} {g : Array GenState}
theorem own_raw {a : AS} {s : Shared} {x : Addr} {k : Nat} {P : Obj → Prop} (hs : St c a s) (h : a.σ x = some (k, .raw P)) : ∃ o, s.heap.get? x = some o ∧ P o := by
  obtain ⟨⟨o, ho, ok⟩, _⟩ := hs.own x k _ h
  exact ⟨o, ho, ok⟩
/-- the sort's questions are answered by the rows -/
theorem key_cmp {it : Array Keyed} {rs : List (List Int)} {n : Nat} (hu : A.units < cLine) (hk : ∀ i, i < n → ∃ a kr, (kas_item it i).1 = .ref a ∧ σ a = some (kr, .list (I2 (rs.getD i [])))) :
    CmpOk (kas_cmp c.prog c.w A oneType' it) (fun s => St c ⟨fs, σ, g⟩ s) (fun i j => ltL (rs.getD i []) (rs.getD j [])) n := fun i j C s hi hj hs q => by
  obtain ⟨a1, k1, e1, h1⟩ := hk i hi
  obtain ⟨a2, k2, e2, h2⟩ := hk j hj
  obtain ⟨us1, n1, ho1, q1⟩ := own_list hs h1
  obtain ⟨us2, n2, ho2, q2⟩ := own_list hs h2
  unfold kas_cmp
  rw [e1, e2]
  exact oneLt_rows ho1 ho2 q1 q2 hu (q s hs)
/-- keys got so far -/
noncomputable def KeysAt (σ : Addr → Option (Nat × Cell)) (us : List Value) (rs : List (List Int)) : Prop := ∀ (i : Nat) (v : Value), us[i]? = some v → ∃ a kr, v = .ref a ∧ σ a = some (kr, .list (I2 (rs.getD i []))) ∧ kr ≠ 9
theorem KeysAt.ext {σ' : Addr → Option (Nat × Cell)} {us : List Value} {rs : List (List Int)} (h : KeysAt σ us rs) (e : Ext [9] σ σ') : KeysAt σ' us rs := fun i v hv => by
  obtain ⟨a, kr, e1, h1, h2⟩ := h i v hv
  exact ⟨a, kr, e1, e _ _ _ h1 (fun z => h2 (List.mem_singleton.mp z)), h2⟩
noncomputable def Sorted (rs : List (List Int)) (n : Nat) (p : Array Nat) : Prop := Pm p n ∧ Up (fun i j => ltL (rs.getD i []) (rs.getD j [])) p n

theorem out_of {us : Array Value} {vs : List Value} {rs : List (List Int)} {p : Array Nat} (hl : us.size = vs.length) (hp : p.size = vs.length) (hso : Sorted rs vs.length p) :
    ((p.map (kas_item (us.zip vs.toArray))).map (·.2)).toList = p.toList.map fun i => vs.getD i Value.none := by
  rw [Array.map_map, Array.toList_map]
  refine List.map_congr_left fun i hi => ?_
  have hlt : i < vs.length := by
    obtain ⟨j, hj⟩ := List.mem_iff_getElem?.mp hi
    rw [Array.getElem?_toList] at hj
    have := hso.1.lt j (by rw [← hp]; exact (Array.getElem?_eq_some_iff.mp hj).1)
    rwa [getD_of hj] at this
  show (kas_item (us.zip vs.toArray) i).2 = _
  unfold kas_item
  have hz : i < (us.zip vs.toArray).size := by rw [Array.size_zip, hl, List.size_toArray, Nat.min_self]; exact hlt
  rw [Array.getD_eq_getD_getElem?, Array.getElem?_eq_getElem hz, Option.getD_some, Array.getElem_zip, List.getD_eq_getElem?_getD, List.getElem?_eq_getElem hlt]
  rfl
theorem sort_tail {R S : Addr} {e1 e : Nat} {us out : Array Value} {st : SortSt} {P : PySem.Fin → Shared → Prop} {E : Value → Shared → Prop} (hR : σ R = some (9, rawC (seqObj "list" #[] e1))) (hS : σ S = some (9, rawC (seqObj "list" us e))) (hne : S ≠ R)
    (hl : us.size < 64) (ho : (arrOf st).map (·.2) = out) (hol : out.size < 64) (hf : failedOf st = none) {s : Shared} (hs : St c ⟨fs, σ, g⟩ s)
    (h : ∀ σ' s', Ext [9] σ σ' → σ' R = some (9, .list (out.toList.map er)) → St c ⟨fs, σ', g⟩ s' → P (.done (.ret .none)) s') :
    wpAny (model c.prog c.w) A (ksk_tail R false e1 (.ref S) st) P E s := by
  obtain ⟨oR, hoR, rfl⟩ := own_raw hs hR
  obtain ⟨oS, hoS, rfl⟩ := own_raw hs hS
  have s1 := Heap.SameBut.update s.heap S (Obj.mapSeq fun _ => (#[] : Array Value))
  obtain ⟨c1, hc1⟩ : ∃ c1, (s.heap.update S (Obj.mapSeq fun _ => (#[] : Array Value))).get? S = some (seqObj "list" #[] c1) := ⟨_, get?_update_seq hoS fun _ => #[]⟩
  have hs1 := hs.put (k' := 9) (cl' := .list []) hS (fun b o q z => (s1.2 b q).trans z) hc1 ⟨#[], c1, rfl, rfl⟩
  have hoR1 := (s1.2 R (Ne.symm hne)).trans hoR
  unfold ksk_tail
  dsimp only
  rw [ho]
  refine wpAny_bind (listUpdate_at hoS rfl ?_ (by rw [sizeLine_eq]; omega) (Nat.zero_le _))
  refine wpAny_bind (wpAny_letGo ?_)
  refine wpAny_bind (seqEpoch_at hoR1 rfl ?_)
  refine wpAny_bind (listUpdate_at hoR1 rfl ?_ (Nat.zero_le _) (by rw [if_neg Bool.false_ne_true, sizeLine_eq]; omega))
  rw [hf]
  simp only [bne_self_eq_false, Bool.false_eq_true, if_false]
  have s2 := Heap.SameBut.update (s.heap.update S (Obj.mapSeq fun _ => (#[] : Array Value))) R (Obj.mapSeq fun _ => out)
  obtain ⟨c2, hc2⟩ : ∃ c2, ((s.heap.update S (Obj.mapSeq fun _ => (#[] : Array Value))).update R (Obj.mapSeq fun _ => out)).get? R = some (seqObj "list" out c2) := ⟨_, get?_update_seq hoR1 fun _ => out⟩
  have hR1 : upd σ S (some (9, .list [])) R = some (9, rawC (seqObj "list" #[] e1)) := by rw [upd_ne (Ne.symm hne)]; exact hR
  have hs2 := hs1.put (k' := 9) (cl' := .list (out.toList.map er)) hR1 (fun b o q z => (s2.2 b q).trans z) hc2 ⟨_, c2, rfl, rfl⟩
  exact wpAny_pure (h _ _ ((Ext.upd_own hS (by simp)).trans (Ext.upd_own hR1 (by simp))) upd_self hs2)
/-- the keys stand in S: they are sorted -/
theorem sort_end {R S : Addr} {e1 e : Nat} {vs : List Value} {us : Array Value} {rs : List (List Int)} {P : PySem.Fin → Shared → Prop} {E : Value → Shared → Prop} (hu : A.units < cLine) (hR : σ R = some (9, rawC (seqObj "list" #[] e1))) (hS : σ S = some (9, rawC (seqObj "list" us e))) (hne : S ≠ R)
    (hl : us.size = vs.length) (h64 : vs.length < 64) (hK : KeysAt σ us.toList rs) (T : Tot (fun i j => ltL (rs.getD i []) (rs.getD j [])) vs.length) {s : Shared} (hs : St c ⟨fs, σ, g⟩ s)
    (h : ∀ p σ' s', Sorted rs vs.length p → Ext [9] σ σ' → σ' R = some (9, .list ((p.toList.map fun i => vs.getD i Value.none).map er)) → St c ⟨fs, σ', g⟩ s' → P (.done (.ret .none)) s') :
    wpAny (model c.prog c.w) A (ksk_end R false vs.toArray e1 (.ref S) us) P E s := by
  have fin : ∀ {st : SortSt} {p : Array Nat} {s : Shared}, St c ⟨fs, σ, g⟩ s → failedOf st = none → p.size = vs.length → arrOf st = p.map (kas_item (us.zip vs.toArray)) → Sorted rs vs.length p → wpAny (model c.prog c.w) A (ksk_tail R false e1 (.ref S) st) P E s := fun {st p s} hs hf hp ha hso => by
    refine sort_tail (out := (p.map (kas_item (us.zip vs.toArray))).map (·.2)) hR hS hne (by rw [hl]; exact h64) (by rw [ha]) (by rw [Array.size_map, Array.size_map, hp]; exact h64) hf hs fun σ' s' X h1 hs' => ?_
    rw [out_of hl hp hso] at h1
    exact h p σ' s' hso X h1 hs'
  have hzs : (us.zip vs.toArray).size = vs.length := by rw [Array.size_zip, hl, List.size_toArray, Nat.min_self]
  unfold ksk_end
  dsimp only
  rw [if_neg Bool.false_ne_true]
  by_cases h2 : vs.toArray.size < 2
  · rw [if_pos h2, if_pos h2]
    refine wpAny_bind (wpAny_pure (wpAny_bind ?_))
    rw [StateT.run_pure]
    refine wpAny_pure ?_
    rw [if_neg Bool.false_ne_true]
    rw [List.size_toArray] at h2
    refine fin (p := List.toArray (List.range vs.length)) hs rfl (by simp) ?_ ⟨⟨by simp, fun i hi => ?_, fun i j hi hj _ => by omega⟩, fun i j hij hj => by omega⟩
    · have := kas_range (us.zip vs.toArray)
      rw [hzs] at this
      exact this.symm
    · rw [getD_of (v := i) (by simp [hi])]; exact hi
  · rw [if_neg h2, if_neg h2, if_neg Bool.false_ne_true]
    rw [List.size_toArray] at h2
    have hus : us = us.toList.toArray := by simp
    refine wpAny_bind ?_
    rw [hus]
    refine kas_kind (T := .type "list") (by rw [Array.length_toList, hl]; omega) (fun v hv => ?_) (by decide) (by decide) ?_
    · obtain ⟨i, hi⟩ := List.mem_iff_getElem?.mp hv
      obtain ⟨a, kr, rfl, ha, _⟩ := hK i v hi
      obtain ⟨ws, n, ho, _⟩ := own_list hs ha
      exact fun A Q E s' kk q => wpAny_typeOf ⟨_, kk _ _ ho, rfl⟩ q
    · rw [← hus]
      have hst : SortSt.mk' oneType' (us.zip vs.toArray) #[] 7 none = kas_st oneType' (us.zip vs.toArray) (List.toArray (List.range vs.length)) := by
        have := kas_range (us.zip vs.toArray)
        rw [hzs] at this
        unfold kas_st; rw [this]
      rw [hst]
      have key : CmpOk (kas_cmp c.prog c.w A oneType' (us.zip vs.toArray)) (fun s => St c ⟨fs, σ, g⟩ s) (fun i j => ltL (rs.getD i []) (rs.getD j [])) vs.length := key_cmp hu fun i hi => by
        have hi' : i < us.toList.length := by rw [Array.length_toList, hl]; exact hi
        obtain ⟨a, kr, e1, ha, _⟩ := hK i _ (List.getElem?_eq_getElem hi')
        refine ⟨a, kr, ?_, ha⟩
        rw [← e1]
        unfold kas_item
        rw [Array.getD_eq_getD_getElem?, Array.getElem?_eq_getElem (by rw [hzs]; exact hi), Option.getD_some, Array.getElem_zip]
        rfl
      have run := sort_wp key T (by omega) hs (G := fun p s' => St c ⟨fs, σ, g⟩ s' ∧ Sorted rs vs.length p) fun p s' hs' a b => ⟨hs', a, b⟩
      refine wpAny_bind (wpAny_mono (kas_runs (E := E) (Q := fun _ st' s' => ∃ p : Array Nat, p.size = vs.length ∧ arrOf st' = p.map (kas_item (us.zip vs.toArray)) ∧ failedOf st' = none ∧ St c ⟨fs, σ, g⟩ s' ∧ Sorted rs vs.length p) (by omega) h64 (fun p' st' s' a1 a2 a3 a4 => ⟨p', a1, a2, a3, a4⟩) run) ?_ fun _ _ e => e)
      rintro ⟨⟨⟩, st'⟩ s' ⟨p, hp, ha, hf, hs', hso⟩
      exact fin hs' hf hp ha hso
end
end Mine.Internal

namespace Mine.Internal
open PySem PySem.W PyProof.Rows PySem.Calls PySem.F PySem.SeqAt

section
variable {c : Cx} {A : Around} {E : Value → AS → Prop} {fs : List Frm} {σ : Addr → Option (Nat × Cell)} {g : Array GenState}
/-- what the key function gives -/
noncomputable def KeyFn (c : Cx) (A : Around) (fs : List Frm) (g : Array GenState) (σ : Addr → Option (Nat × Cell)) (f : Addr) (vs : List Value) (rs : List (List Int)) : Prop :=
  ∀ i x σ', vs[i]? = some x → Ext [9] σ σ' → ∀ Q : Value → AS → Prop, (∀ a kr σ'', Ext [] σ' σ'' → σ'' a = some (kr, .list (I2 (rs.getD i []))) → kr ≠ 9 → Q (.ref a) ⟨fs, σ'', g⟩) → W c A (call (.ref f) [x]) Q (fun _ _ => False) ⟨fs, σ', g⟩
inductive RestI (c : Cx) (fs : List Frm) (g : Array GenState) (σ₀ : Addr → Option (Nat × Cell)) (R S : Addr) (e1 : Nat) (rs : List (List Int)) (i : Nat) (s : Shared) : Prop
  | mk (σ : Addr → Option (Nat × Cell)) (us : Array Value) (e : Nat) : St c ⟨fs, σ, g⟩ s → Ext [9] σ₀ σ → σ R = some (9, rawC (seqObj "list" #[] e1)) → σ S = some (9, rawC (seqObj "list" us e)) → us.size = i → KeysAt σ us.toList rs → RestI c fs g σ₀ R S e1 rs i s

theorem sort_rest {σ₀ : Addr → Option (Nat × Cell)} {f R S : Addr} {e1 e : Nat} {vs : List Value} {rs : List (List Int)} {P : PySem.Fin → Shared → Prop} {E : Value → Shared → Prop} (hu : A.units < cLine) (hne : S ≠ R) (h64 : vs.length < 64) (K : KeyFn c A fs g σ₀ f vs rs) (T : Tot (fun i j => ltL (rs.getD i []) (rs.getD j [])) vs.length)
    (hR : σ R = some (9, rawC (seqObj "list" #[] e1))) (hS : σ S = some (9, rawC (seqObj "list" #[] e))) (hX : Ext [9] σ₀ σ) {s : Shared} (hs : St c ⟨fs, σ, g⟩ s)
    (h : ∀ p σ' s', Sorted rs vs.length p → Ext [9] σ₀ σ' → σ' R = some (9, .list ((p.toList.map fun i => vs.getD i Value.none).map er)) → St c ⟨fs, σ', g⟩ s' → P (.done (.ret .none)) s') :
    wpAny (model c.prog c.w) A (ksk_rest R (.ref f) false vs.toArray e1 (.ref S)) P E s := by
  unfold ksk_rest
  refine wpAny_bind (wpAny_rule ?_)
  first
    | rw [List.forIn_toArray]
    | (rw [← Array.forIn_toList]; simp only [List.toList_toArray])
    | rw [← Array.forIn_toList]
  refine wpAny_bind (ksk_fold (RestI c fs g σ₀ R S e1 rs) vs 0 s ⟨σ, #[], e, hs, hX, hR, hS, rfl, fun i v hv => by simp at hv⟩ ?step ?done)
  case step =>
    rintro j x s' hx ⟨σ1, us, e, hs1, X1, hR1, hS1, hz, hK⟩
    rw [Nat.zero_add] at hz ⊢
    have hj : j < vs.length := (List.getElem?_eq_some_iff.mp hx).1
    refine wpAny_bind (wpAny_attempt (wpAny_mono (K j x σ1 hx X1 (fun v a => ∃ r kr σ2, v = .ref r ∧ a = ⟨fs, σ2, g⟩ ∧ Ext [] σ1 σ2 ∧ σ2 r = some (kr, .list (I2 (rs.getD j []))) ∧ kr ≠ 9) (fun r kr σ2 a b d => ⟨r, kr, σ2, rfl, rfl, a, b, d⟩) s' hs1) (fun v s2 q => ?_) fun _ _ ⟨_, _, x⟩ => x.elim))
    obtain ⟨_, hs2, r, kr, σ2, rfl, rfl, X2, hr, hkr⟩ := q
    dsimp only
    have hS2 := X2 _ _ _ hS1 List.not_mem_nil
    obtain ⟨oS, hoS, rfl⟩ := own_raw hs2 hS2
    have s1 := Heap.SameBut.update s2.heap S (Obj.mapSeq (·.push (.ref r)))
    obtain ⟨c2, hc2⟩ : ∃ c2, (s2.heap.update S (Obj.mapSeq (·.push (Value.ref r)))).get? S = some (seqObj "list" (us.push (.ref r)) c2) := ⟨_, get?_update_seq hoS (·.push (.ref r))⟩
    have hs3 := hs2.put (k' := 9) (cl' := rawC (seqObj "list" (us.push (.ref r)) c2)) hS2 (fun b o q z => (s1.2 b q).trans z) hc2 rfl
    have X3 : Ext [9] σ2 (upd σ2 S (some (9, rawC (seqObj "list" (us.push (.ref r)) c2)))) := Ext.upd_own hS2 (by simp)
    refine wpAny_bind (listUpdate_at hoS rfl ?_ (by rw [hz, sizeLine_eq]; omega) (by rw [Array.size_push, hz, sizeLine_eq]; omega))
    refine wpAny_pure ⟨rfl, _, us.push (.ref r), c2, hs3, X1.trans (X2.nil.trans X3), ?_, upd_self, by rw [Array.size_push, hz], fun i v hv => ?_⟩
    · show upd σ2 S _ R = _
      rw [upd_ne (Ne.symm hne)]; exact X2 _ _ _ hR1 List.not_mem_nil
    · rw [Array.toList_push] at hv
      by_cases hi : i < us.size
      · rw [List.getElem?_append_left (by rw [Array.length_toList]; exact hi)] at hv
        exact (KeysAt.ext hK (X2.nil.trans X3)) i v hv
      · have h1 := (List.getElem?_eq_some_iff.mp hv).1
        rw [List.length_append, Array.length_toList] at h1
        obtain rfl : i = us.size := Nat.le_antisymm (Nat.le_of_lt_succ h1) (Nat.le_of_not_lt hi)
        rw [List.getElem?_append_right (by rw [Array.length_toList]; exact Nat.le_refl _), Array.length_toList, Nat.sub_self] at hv
        cases hv
        exact ⟨r, kr, rfl, by rw [hz]; exact X3 _ _ _ hr (fun z => hkr (List.mem_singleton.mp z)), hkr⟩
  case done =>
    rintro s' ⟨σ1, us, e, hs1, X1, hR1, hS1, hz, hK⟩
    rw [Nat.zero_add] at hz
    obtain ⟨oS, hoS, rfl⟩ := own_raw hs1 hS1
    refine wpAny_bind (listItems_at hoS rfl ?_)
    exact sort_end hu hR1 hS1 hne hz h64 hK T hs1 fun p σ' s' a b d hs' => h p σ' s' a (X1.trans b) d hs'

/-- sorted(a dict, key=f) -/
theorem W_sorted {D f : Addr} {k ep : Nat} {kvs : List (AV × AV)} {rs : List (List Int)} {Q : Value → AS → Prop} (hA : AOk A fs (d + 3)) (hl : σ D = some (k, .dict kvs ep)) (h64 : kvs.length < 64)
    (K : ∀ vs : List Value, vs.map er = kvs.map (·.1) → KeyFn c A.in1.in1 fs g σ f vs rs) (T : Tot (fun i j => ltL (rs.getD i []) (rs.getD j [])) kvs.length)
    (h : ∀ R p σ', Sorted rs kvs.length p → Ext [9] σ σ' → σ' R = some (9, .list (p.toList.map fun i => (kvs.map (·.1)).getD i .none)) → Q (.ref R) ⟨fs, σ', g⟩) :
    W c A (call (.builtin "sorted") [.ref D] [("key", .ref f)]) Q E ⟨fs, σ, g⟩ := fun s hs => by
  obtain ⟨kvs', hd, e⟩ := own_dict hs hl
  have hlen : kvs'.length = kvs.length := by rw [e]; simp
  refine call_function_entry_kw kind_sorted plain_sorted entry_sorted (ksk_s1 _ _) ?_
  unfold Builtin.«sorted»
  refine wpAny_bind (m := checkCount "sorted" 1 1 _) (wpAny_pure ?_)
  refine wpAny_bind (kdu_collect (A := A.in1) (kdl_dict (notSys hs hl)) hA.in1.handled hd (by rw [hlen, sizeLine_eq]; omega) fun h' tk acc hk hacc => ?_)
  have hs1 : St c ⟨fs, σ, g⟩ { s with heap := h', toks := tk } := (hs.grow hk).of_eq
  obtain ⟨hz, hit⟩ := hacc
  have hvs : acc.toList.map er = kvs.map (·.1) := by
    refine List.ext_getElem? fun i => ?_
    rw [List.getElem?_map, List.getElem?_map]
    by_cases hi : i < acc.size
    · have h1 : acc[i]? = some acc[i] := Array.getElem?_eq_getElem hi
      obtain ⟨kk, x, h2, h3⟩ := hit i _ h1
      rw [Array.getElem?_toList, h1, e, List.getElem?_map, h2]
      exact congrArg some (avKind_is.mp h3).1
    · rw [List.getElem?_eq_none (by rw [Array.length_toList]; omega), List.getElem?_eq_none (by rw [← hlen, ← hz]; omega)]; rfl
  have hvl : acc.toList.length = kvs.length := by rw [Array.length_toList, hz, hlen]
  refine wpAny_bind (wpAny_newList ?_ (by rw [hvl, sizeLine_eq]; omega))
  have hs2 := hs1.alloc (k := 9) (cl := rawC (seqObj "list" acc.toList.toArray 0)) (o := seqObj "list" acc.toList.toArray 0) rfl rfl
  have hR0 : σ h'.objs.size = none := hs1.fresh.1
  have hoR : (h'.push (seqObj "list" acc.toList.toArray 0)).get? h'.objs.size = some (seqObj "list" acc.toList.toArray 0) := Heap.get?_push_size _ rfl
  refine wpAny_bind (wpAny_holding (wpAny_call_entry_kw PySem.F.slot_list_sort ⟨_, hoR, rfl⟩ PySem.F.entry_list_sort ?body (ksk_l1 _ _)))
  case body =>
    show wpAny (model c.prog c.w) A.in1.in1 (Builtin.«list.sort» ⟨[.ref h'.objs.size], [(Str.ofString "key", .ref f)]⟩) _ _ _
    rw [ksk_t1]
    have Kf := K _ hvs
    generalize acc.toList = vs at *
    generalize hRR : h'.objs.size = R at *
    have hs2' : St c ⟨fs, upd σ R (some (9, rawC (seqObj "list" vs.toArray 0))), g⟩ { s with heap := h'.push (seqObj "list" vs.toArray 0), toks := tk } := hs2
    have X1 : Ext [9] σ (upd σ R (some (9, rawC (seqObj "list" vs.toArray 0)))) := Ext.upd_new hR0
    have s1 := Heap.SameBut.update (h'.push (seqObj "list" vs.toArray 0)) R (Obj.mapSeq fun _ => (#[] : Array Value))
    obtain ⟨e1, ho1⟩ : ∃ e1, ((h'.push (seqObj "list" vs.toArray 0)).update R (Obj.mapSeq fun _ => (#[] : Array Value))).get? R = some (seqObj "list" #[] e1) := ⟨_, get?_update_seq hoR fun _ => #[]⟩
    have hs3 := hs2'.put (k' := 9) (cl' := rawC (seqObj "list" #[] e1)) (x := R) upd_self (fun b o q z => (s1.2 b q).trans z) ho1 rfl
    rw [show upd (⟨fs, upd σ R (some (9, rawC (seqObj "list" vs.toArray 0))), g⟩ : AS).σ R (some (9, rawC (seqObj "list" #[] e1))) = upd σ R (some (9, rawC (seqObj "list" #[] e1))) from upd_upd] at hs3
    unfold ksk_tree
    refine wpAny_bind (listItems_at hoR rfl ?_)
    refine wpAny_bind (listUpdate_at hoR rfl ?_ (by rw [List.size_toArray, sizeLine_eq]; omega) (Nat.zero_le _))
    refine wpAny_bind (seqEpoch_at ho1 rfl ?_)
    have hs4 := hs3.alloc (k := 9) (cl := rawC (seqObj "tuple" vs.toArray 0)) (o := seqObj "tuple" vs.toArray 0) rfl rfl
    refine wpAny_bind (wpAny_newTuple ?_ (by rw [hvl, sizeLine_eq]; omega))
    have hs5 := hs4.alloc (k := 9) (cl := rawC (seqObj "list" #[] 0)) (o := seqObj "list" #[] 0) rfl rfl
    refine wpAny_bind (wpAny_newList ?_ (Nat.zero_le _))
    refine wpAny_holding ?_
    have f4 := hs3.fresh.1
    have f5 := hs4.fresh.1
    dsimp only at f4 f5 hs4 hs5 ⊢
    generalize ((h'.push (seqObj "list" vs.toArray 0)).update R (Obj.mapSeq fun _ => (#[] : Array Value))).objs.size = Tu at *
    generalize (((h'.push (seqObj "list" vs.toArray 0)).update R (Obj.mapSeq fun _ => (#[] : Array Value))).push (seqObj "tuple" vs.toArray 0)).objs.size = S at *
    have nTR : Tu ≠ R := fun z => by rw [z, upd_self] at f4; cases f4
    have nSR : S ≠ R := fun z => by rw [z, upd_ne (Ne.symm nTR), upd_self] at f5; cases f5
    have X3 : Ext [9] σ (upd σ R (some (9, rawC (seqObj "list" #[] e1)))) := Ext.upd_new hR0
    have X5 := X3.trans ((Ext.upd_new f4).trans (Ext.upd_new (x := some (9, rawC (seqObj "list" #[] 0))) f5))
    have T' : Tot (fun i j => ltL (rs.getD i []) (rs.getD j [])) vs.length := by rw [hvl]; exact T
    refine sort_rest (A := A.in1.in1) hA.in1.in1.lt nSR (by omega) Kf T' ?_ upd_self X5 hs5 fun p σ' s' a b d hs' => ⟨_, rfl, ?_⟩
    · rw [upd_ne (Ne.symm nSR), upd_ne (Ne.symm nTR)]; exact upd_self
    · refine wpAny_pure ⟨_, rfl, ⟨fs, σ', g⟩, hs', h R p σ' (by rw [← hvl]; exact a) b ?_⟩
      rw [d, List.map_map, ← hvs]
      refine congrArg (fun l => some (9, Cell.list l)) (List.map_congr_left fun i _ => ?_)
      show er (vs.getD i .none) = (vs.map er).getD i .none
      rw [List.getD_eq_getElem?_getD, List.getD_eq_getElem?_getD, List.getElem?_map]
      cases vs[i]? <;> rfl
end
end Mine.Internal

namespace Mine.Internal
open PySem PySem.W PyProof.Rows PySem.Calls PySem.F PySem.SeqAt

noncomputable def codeC (q : Str) : Cell := .raw fun o => ∃ vs t, o.data = .fields vs ∧ vs[1]? = some (.str q t)
/-- what the making of a function reads of the base -/
noncomputable def BaseOk (c : Cx) (P : Addr) : Prop := ∃ mg, c.base.Ns mainGlobals mg ∧ c.base.BuiltinsAt mg P

section
variable {c : Cx} {A : Around} {E : Value → AS → Prop} {fs : List Frm} {σ : Addr → Option (Nat × Cell)} {g : Array GenState} {d : Nat}
theorem St.big {a : AS} {s : Shared} (hs : St c a s) {b : Addr} (hb : s.heap.objs.size ≤ b) : a.σ b = none ∧ b ∉ a.fs.flatMap Frm.as ∧ c.base.get? b = none := by
  have lt : ∀ {o}, s.heap.get? b = some o → False := fun e => absurd (Heap.lt_size e) (Nat.not_lt.mpr hb)
  refine ⟨?_, fun hm => ?_, ?_⟩
  · cases e : a.σ b with
    | none => rfl
    | some p =>
      obtain ⟨⟨o, ho, _⟩, _⟩ := hs.own b p.1 p.2 e
      exact (lt ho).elim
  · obtain ⟨f, hf, hx⟩ := List.mem_flatMap.mp hm
    obtain ⟨m, ⟨o, es, ep, ho, _⟩, _, h3⟩ := hs.fr f hf
    rcases List.mem_cons.mp hx with e | hx
    · exact lt (e ▸ ho)
    · obtain ⟨p, hp, e⟩ := List.mem_map.mp hx
      obtain ⟨ov, ⟨oc, hc, _⟩, _⟩ := h3 p hp
      exact lt (e ▸ hc)
  · cases e : c.base.get? b with
    | none => rfl
    | some o => exact (lt (hs.keep _ _ e)).elim

/-- a lambda is made -/
theorem W_Lambda {env : Env} {params : Arguments} {body : Expr} {scope : Scope} {pos : Pos} {P cd : Addr} {k : Nat} {clos : List (Str × Addr)} {Q : Value → AS → Prop}
    (hcode : env.code = .ref cd) (hgl : env.globals = mainGlobals) (hC : CodeHd c.base cd P) (hB : BaseOk c P) (hP : σ P = some (k, rawC (tabObj #[]))) (hcl : closureFor scope env = pure clos) (hdef : defaultsOf params env = ([], []))
    (h : ∀ f c' pm ctv ps σ', σ f = none → σ c' = none → f ≠ c' → σ' = upd (upd (upd σ P (some (k, rawC (tabObj ps)))) c' (some (7, codeC (env.qual ++ "<lambda>")))) f (some (7, rawC (kla_obj "<lambda>" (env.qual ++ "<lambda>") params body scope clos pm c' ctv))) → Q (.ref f) ⟨fs, σ', g⟩) :
    W c A (eval (.Lambda params body scope pos) env) Q E ⟨fs, σ, g⟩ := fun s hs => by
  obtain ⟨mg, hg, bm, ob, b1, b2, b3, b4, b5, b6⟩ := hB
  obtain ⟨oP, hoP, rfl⟩ := own_raw hs hP
  obtain ⟨_, hbP, _⟩ := hs.own P k _ hP
  have hgs := hg.keeps hs.keep
  have hgP : mainGlobals ≠ P := fun q => by
    obtain ⟨o, es, ep, e, _⟩ := hg
    rw [q, hbP] at e; cases e
  refine kla_eval hdef (kla_makeFunction (mg := mg) hcl hgl hgs hcode (hC.keeps hs.keep) hoP (ps := #[]) trivial rfl hgP ⟨bm, ob, b1, b2, b3, b4, hs.keep _ _ b5, b6⟩ fun c' ctv h' tk hx hge hlt hrec htb => ?_)
  obtain ⟨c₂, oc, vs, t, e2, hoc, hd, hv⟩ := hrec
  cases e2
  obtain ⟨n1, n2, n3⟩ := hs.big hge
  have S1 := hs.put (k' := k) (cl' := rawC (tabObj (#[] ++ #[rawInt pos.line, rawInt pos.col, .ref c']))) hP (fun b o q z => hx b o q z) htb rfl
  have S2 := S1.take (cl := codeC (env.qual ++ "<lambda>")) 7 n3 n2 hoc ⟨vs, t, hd, hv⟩
  have f3 := S2.fresh.1
  have S3 := S2.alloc (k := 7) (cl := rawC (kla_obj "<lambda>" (env.qual ++ "<lambda>") params body scope clos ((mg "__name__").getD .none) c' ctv)) (o := kla_obj "<lambda>" (env.qual ++ "<lambda>") params body scope clos ((mg "__name__").getD .none) c' ctv) rfl rfl
  have hf : s.heap.objs.size ≤ h'.objs.size := Nat.le_trans hge (Nat.le_of_lt hlt)
  exact ⟨_, S3.of_eq, h _ c' _ ctv _ _ (hs.big hf).1 n1 (Nat.ne_of_gt hlt) rfl⟩

/-- and called -/
theorem W_callLam {f c' : Addr} {qual y : Str} {params : Arguments} {body : Expr} {scope : Scope} {clos : List (Str × Addr)} {pm ctv x : Value} {Q : Value → AS → Prop} (hf : σ f = some (7, rawC (kla_obj "<lambda>" qual params body scope clos pm c' ctv))) (hc : σ c' = some (7, codeC qual)) (hA : AOk A fs (d + 1))
    (hbind : bindArgs (kla_fn "<lambda>" qual params body scope clos pm (.ref c') ctv) ⟨[x], []⟩ = pure [(y, x)]) (hloc : scope.names.lookup y = some .local) (hcell : ∀ z ∈ scope.names, z.2 ≠ .cell)
    (hco : scope.isCoroutine = false) (hgen : scope.isGenerator = false) (hk : scope.kind = .function)
    (h : ∀ L, σ L = none → AOk (A.deeper (envX qual scope L f (.ref c') clos)) (⟨L, [], [y], [some (er x)]⟩ :: fs) d →
      W c (A.deeper (envX qual scope L f (.ref c') clos)) (eval body (envX qual scope L f (.ref c') clos)) (fun v a' => Pop fs (Q v) a') (fun _ _ => False) ⟨⟨L, [], [y], [some (er x)]⟩ :: fs, σ, g⟩) :
    W c A (call (.ref f) [x]) Q E ⟨fs, σ, g⟩ := W_call fun s hs => by
  obtain ⟨of, hof, rfl⟩ := own_raw hs hf
  obtain ⟨oc, hoc, vs, t, hd, hv⟩ := own_raw hs hc
  refine kla_callFunE hA.room hof rfl hco hgen rfl ⟨c', oc, vs, t, rfl, hoc, hd, hv⟩ ?_
  rw [hbind]
  refine wpAny_pure (wpAny_newFunctionEnv hcell (fun z hz => by rw [List.mem_singleton.mp hz]; exact hloc) (fun h₁ hns hsb => ⟨(c.nolim.keeps hs.keep).fresh _ hsb, ?_⟩) hk)
  show codeAny _ _ (.expr body (envX qual scope s.heap.objs.size f (.ref c') clos)) _ _
  have hk₁ : ∀ b o, s.heap.get? b = some o → h₁.get? b = some o := fun b o e => hsb.extBut b o (Nat.ne_of_lt (Heap.lt_size e)) (Heap.get?_push_of_some _ e)
  obtain ⟨f1, f2, f3⟩ := hs.fresh
  have S : St c ⟨⟨s.heap.objs.size, [], [y], [some (er x)]⟩ :: fs, σ, g⟩ { s with heap := h₁, toks := s.toks + 1 } := by
    refine ⟨fun b o e => hk₁ b o (hs.keep b o e), fun f' hf => ?_, fun f' hf => ?_, ?_, fun z k cl e => ?_, hs.os, hs.gens⟩
    · rcases List.mem_cons.mp hf with rfl | hf
      · refine ⟨_, hns, fun z _ => ?_, fun p hp => by cases hp⟩
        show (([(y, x)] : List (Str × Value)).lookup z).map er = gv [y] [some (er x)] z
        rw [List.lookup_cons]
        unfold gv
        by_cases q : y = z
        · subst q; simp
        · rw [beq_eq_false_iff_ne.mpr (Ne.symm q), if_neg q]; rfl
      · exact (hs.fr f' hf).keeps fun b _ o e => hk₁ b o e
    · rcases List.mem_cons.mp hf with rfl | hf
      · intro z hz
        rw [List.mem_singleton.mp hz]; exact f3
      · exact hs.nb f' hf
    · rw [List.flatMap_cons]
      exact List.nodup_append.mpr ⟨by simp [Frm.as], hs.nd, fun z hz y hy e => f2 (by have e2 : z = s.heap.objs.size := List.mem_singleton.mp hz; rw [← e2, e]; exact hy)⟩
    · obtain ⟨⟨o', ho', ok⟩, r1, r2⟩ := hs.own z k cl e
      refine ⟨⟨o', hk₁ _ _ ho', ok⟩, r1, fun q => ?_⟩
      rw [List.flatMap_cons] at q
      rcases List.mem_append.mp q with q | q
      · have q := List.mem_singleton.mp q
        rw [q] at e; dsimp only at e f1; rw [f1] at e; cases e
      · exact r2 q
  refine kla_codeExpr (wpAny_mono (h _ f1 (hA.deeper hk rfl) _ S) (fun v s' ⟨a', h1, f', e1, q⟩ => ?_) fun e s' ⟨_, _, z⟩ => z.elim)
  obtain ⟨fs', σ', g'⟩ := a'
  dsimp only at e1 q; subst e1
  exact ⟨_, h1.pop, q⟩

/-- a name of the scope around -/
theorem W_NameFree {env : Env} {x : Str} {pos : Pos} {v : AV} {L ca : Addr} {cl : List (Str × Addr)} {ns : List Str} {vs : List (Option AV)} {a : AS} {Q : Value → AS → Prop} (hk : env.scope.kind = .function) (hd : (x == ("__debug__" : Str)) = false) (hl : env.kindOf x = some .free) (hc : env.cells.lookup x = some ca) (hcl : cl.lookup x = some ca) (hf : ⟨L, cl, ns, vs⟩ ∈ a.fs) (hv : VarAt ns vs x (some v)) (hnd : ns.Nodup)
    (hn : (x == ("__classdict__" : Str)) = false) (h : All v (fun u => Q u a)) : W c A (eval (.Name x pos) env) Q E a := by
  intro s hs
  obtain ⟨e, hm⟩ := hv.gv hnd
  obtain ⟨m, hns, h2, h3⟩ := hs.fr _ hf
  obtain ⟨ov, hov, eo⟩ := h3 _ (lookup_mem hcl)
  obtain ⟨u, rfl, eu⟩ := map_some_of (eo.trans e)
  exact wpAny_Name (wpAny_loadName_free hk hl hc hov ⟨_, hs, h.at eu⟩ hn) hd
theorem W_call_GCc {K : Frag} {f : Addr} {nk : List (Str × Bool)} {ps rs ns : List Str} {gs : List (Str × Value)} {args : List Value} {us : List AV} {vs : List (Option AV)} {Q : Value → AS → Prop}
    (hK : c.K = K) (hf : FnOkC K f nk (gs.map (·.1))) (hnk : nk.map (·.1) = ps ++ rs) (hns : ns = ps ++ rs) (hbind : bindArgs (fdOf K f) ⟨args, []⟩ = pure (ps.zip args)) (hu : args.map er = us) (hi : Init ps us rs vs) (hglob : ∀ p ∈ gs, Glob c p.1 p.2) (hA : AOk A fs (d + 1))
    (h : ∀ L cl env B P X, env.code = (fdOf K f).code → env.globals = mainGlobals → env.builtins = builtinsNs → env.frame = some L → B.handled = none → σ L = none → AOk B (⟨L, cl, ns, vs⟩ :: fs) d → (∃ outer, B.frames = some (env :: outer)) → EnvOk c env L cl ns gs → CapOk env cl ((nk.filter (·.2)).map (·.1)) → Fx fs Q P → Ux L fs E X →
      W c B (execs (bodyOf (fdOf K f)) env) P X ⟨⟨L, cl, ns, vs⟩ :: fs, σ, g⟩) :
    W c A (call (.ref f) args) Q E ⟨fs, σ, g⟩ := by
  refine W_call_C hK hf hnk hns hbind hu hi hglob hA fun L cl env he hL hA' hE hC => ?_
  have hfr : env.frame = some L := by rw [he]; rfl
  have hcd : env.code = (fdOf K f).code := by rw [he]; rfl
  have ho := hA.head env
  refine h L cl env _ _ _ hcd hE.gl hE.bl hfr hA'.handled hL hA' ho hE hC ⟨fun _ _ _ q => Pop.mk q, fun _ _ _ _ q => Pop.mk q⟩ ⟨fun e t cls ar tb cl ns' vs' σ1 g1 hx q => ?_⟩
  obtain ⟨outer, ho⟩ := ho
  exact W_leaving (hA'.pop fun f hf => (List.mem_cons.mp hf).elim (fun z => ⟨⟨L, cl, ns', vs'⟩, List.mem_cons_self .., by rw [z]⟩) fun z => ⟨f, List.mem_cons_of_mem _ z, rfl⟩).link ho hfr hx fun σ' T x1 x2 => Pop.mk (q σ' T x1 x2)
end
end Mine.Internal

namespace Mine.Internal
open PySem PySem.W PyProof.Rows PySem.Calls PySem.SeqAt

noncomputable def grpStep (rw : AV → List Int) (gs : List (List AV)) (x : AV) : List (List AV) := if (gs.length : Int) < (rw x).headD 0 then gs ++ [[x]] else gs.dropLast ++ [gs.getLastD [] ++ [x]]
noncomputable def grpF (rw : AV → List Int) (l : List AV) : List (List AV) := l.foldl (grpStep rw) []
theorem grpF_take {rw : AV → List Int} {l : List AV} {i : Nat} {x : AV} (h : l[i]? = some x) : grpF rw (l.take (i + 1)) = grpStep rw (grpF rw (l.take i)) x := by
  rw [List.take_add_one, h]; unfold grpF; rw [List.foldl_append]; rfl
theorem grpF_len {rw : AV → List Int} {l : List AV} : ∀ i, (grpF rw (l.take i)).length ≤ i ∧ ∀ r ∈ grpF rw (l.take i), r.length ≤ i
  | 0 => ⟨Nat.le_refl 0, fun r h => (List.not_mem_nil h).elim⟩
  | i + 1 => by
    obtain ⟨h1, h2⟩ := grpF_len (rw := rw) (l := l) i
    cases h : l[i]? with
    | none => rw [List.take_add_one, h, Option.toList_none, List.append_nil]; exact ⟨Nat.le_succ_of_le h1, fun r hr => Nat.le_succ_of_le (h2 r hr)⟩
    | some x =>
      rw [grpF_take h]
      generalize grpF rw (l.take i) = gs at *
      unfold grpStep
      split
      · refine ⟨by rw [List.length_append]; exact Nat.succ_le_succ h1, fun r hr => ?_⟩
        rcases List.mem_append.mp hr with hr | hr
        · exact Nat.le_succ_of_le (h2 r hr)
        · rw [List.mem_singleton.mp hr]; exact Nat.succ_le_succ (Nat.zero_le i)
      · refine ⟨by rw [List.length_append, List.length_dropLast, List.length_singleton]; omega, fun r hr => ?_⟩
        rcases List.mem_append.mp hr with hr | hr
        · exact Nat.le_succ_of_le (h2 r (List.dropLast_sublist _ |>.subset hr))
        · rw [List.mem_singleton.mp hr, List.length_append]
          cases e : gs.getLast? with
          | none => rw [List.getLastD_eq_getLast?, e]; exact Nat.succ_le_succ (Nat.zero_le i)
          | some r' => rw [List.getLastD_eq_getLast?, e]; exact Nat.succ_le_succ (h2 r' (List.mem_of_getLast? e))
section
variable {σ σ' : Addr → Option (Nat × Cell)} {R : Addr} {k kr : Nat} {as : List Addr} {rs : List (List AV)}
/-- a new row -/
theorem LL.new (h : LL σ R k kr as rs) (hk : k ≠ kr) {p : Addr} {r : List AV} (e : Ext [] σ σ') (hp : σ p = none) (hp' : σ' p = some (kr, .list r)) : LL (upd σ' R (some (k, .list (as.map AV.ref ++ [.ref p])))) R k kr (as ++ [p]) (rs ++ [r]) := by
  have ne : ∀ {x cl}, σ' x = some (kr, cl) → x ≠ R := fun {x cl} q z => by rw [z, e _ _ _ h.d List.not_mem_nil] at q; exact hk (congrArg Prod.fst (Option.some.inj q))
  refine ⟨by rw [upd_self, List.map_append]; rfl, by rw [List.length_append, List.length_append, h.len]; rfl, fun j p' q' a b => ?_, ?_⟩
  · by_cases hj : j < rs.length
    · rw [List.getElem?_append_left (by rw [h.len]; exact hj)] at a
      rw [List.getElem?_append_left hj] at b
      have := e _ _ _ (h.row j p' q' a b) List.not_mem_nil
      rw [upd_ne (ne this)]; exact this
    · have hj2 := (List.getElem?_eq_some_iff.mp b).1
      rw [List.length_append] at hj2
      obtain rfl : j = rs.length := Nat.le_antisymm (Nat.le_of_lt_succ hj2) (Nat.le_of_not_lt hj)
      rw [List.getElem?_append_right (Nat.le_refl _), Nat.sub_self] at b
      rw [List.getElem?_append_right (by rw [h.len]; exact Nat.le_refl _), h.len, Nat.sub_self] at a
      cases a; cases b; rw [upd_ne (ne hp')]; exact hp'
  · refine List.nodup_append.mpr ⟨h.nd, by simp, fun x hx z hz q => ?_⟩
    rw [List.mem_singleton.mp hz] at q
    obtain ⟨j, hj⟩ := List.mem_iff_getElem?.mp hx
    have hj' : j < rs.length := by rw [← h.len]; exact (List.getElem?_eq_some_iff.mp hj).1
    have := h.row j x _ hj (List.getElem?_eq_getElem hj')
    rw [q, hp] at this; cases this
/-- the last row changes -/
theorem LL.last (h : LL σ R k kr as rs) (hk : k ≠ kr) {as' : List Addr} {p : Addr} {r' : List AV} (ea : as = as' ++ [p]) : LL (upd σ p (some (kr, .list r'))) R k kr as (rs.dropLast ++ [r']) := by
  have hl := h.len
  rw [ea, List.length_append] at hl
  have hl : as'.length + 1 = rs.length := hl
  have hp : σ p = some (kr, .list (rs[as'.length]'(by omega))) := h.row as'.length p _ (by rw [ea]; simp) (List.getElem?_eq_getElem (by omega))
  have nR : R ≠ p := fun z => by rw [← z, h.d] at hp; exact hk (congrArg Prod.fst (Option.some.inj hp))
  refine ⟨by rw [upd_ne nR]; exact h.d, by rw [h.len, List.length_append, List.length_dropLast, List.length_singleton]; omega, fun j q r a b => ?_, h.nd⟩
  have hj := (List.getElem?_eq_some_iff.mp a).1
  rw [h.len] at hj
  by_cases e : j = as'.length
  · subst e
    rw [ea, List.getElem?_append_right (Nat.le_refl _), Nat.sub_self] at a
    rw [List.getElem?_append_right (by rw [List.length_dropLast]; omega), List.length_dropLast, show as'.length - (rs.length - 1) = 0 by omega] at b
    cases a; cases b; exact upd_self
  · have hq : q ≠ p := fun z => e (nodup_idx' h.nd a (by rw [z, ea]; simp))
    rw [List.getElem?_append_left (by rw [List.length_dropLast]; omega), List.getElem?_dropLast, if_pos (by omega)] at b
    rw [upd_ne hq]; exact h.row j q r a b
theorem LL.turn (h : LL σ R k kr as rs) (f : Nat → Nat) : LL (recol f σ) R (f k) (f kr) as rs :=
  ⟨by show (σ R).map _ = _; rw [h.d]; rfl, h.len, fun j p r a b => by show (σ p).map _ = _; rw [h.row j p r a b]; rfl, h.nd⟩
end
section
variable {c : Cx} {A : Around} {E : Value → AS → Prop} {fs : List Frm} {σ : Addr → Option (Nat × Cell)} {g : Array GenState} {d : Nat}
theorem fn_groups {w : World} : FnOkC (KK w) 179 [("rows", true), ("groups", false), ("x", false)] ["sorted", "len"] := ⟨rfl, rfl, rfl, rfl, rfl, rfl, rfl, rfl, rfl, rfl, by decide +kernel⟩
/-- a call with one argument by place and one by name -/
theorem W_CallKw {env : Env} {x n : Str} {np kp pos : Pos} {e v : Expr} {a : AS} {Q : Value → AS → Prop}
    (h : W c A (eval (.Name x np) env) (fun f a₁ => W c A (eval e env) (fun u a₂ => W c A (eval v env) (fun w a₃ => Kp c f a₃ ∧ W c A (call f [u] [(n, w)]) Q E a₃) E a₂) E a₁) E a) (he : starEach [e] env = (false, eval e env) :: starEach [] env) :
    W c A (eval (.Call (.Name x np) [e] [⟨some n, v, kp⟩] pos) env) Q E a := by
  show W c A (eval (.Name x np) env >>= fun f => callWith pos f [] (backTo pos (starEach [e] env)) (backToKw pos (keywordEach [⟨some n, v, kp⟩] env))) Q E a
  refine W_bind (W_mono h (fun f a₁ q => W_callWith fun s hs => evalArgs_kw2 rfl ?_ he) fun _ _ x => x)
  refine W_spl (Q := fun vs a' => W c A (evalAll ((backToKw pos (keywordEach [⟨some n, v, kp⟩] env)).map (·.2))) (fun ks a'' => Kp c f a'' ∧ W c A (call f ([] ++ vs) (((backToKw pos (keywordEach [⟨some n, v, kp⟩] env)).filterMap (·.1)).zip ks)) Q E a'') E a') (W_mono q (fun u a₂ q => W_spl_nil fun s hs => ?_) fun _ _ x => x) he s hs |> fun z => wpAny_mono z (fun vs s1 ⟨a', h1, q'⟩ => q' s1 h1) fun _ _ x => x
  exact kwAll_cons (wpAny_mono (q s hs) (fun w s1 ⟨a3, h3, q3⟩ => kwAll_nil ⟨a3, h3, q3⟩) fun _ _ x => x)
end
end Mine.Internal

namespace Mine.Internal
open PySem PySem.W PyProof.Rows PySem.Calls PySem.SeqAt

noncomputable abbrev TB : Addr := 174
theorem head_178 {w : World} : codeHdIn (KK w) 178 TB = true := by kernel_rfl
section
variable {c : Cx} {A : Around} {E : Value → AS → Prop} {fs : List Frm} {σ : Addr → Option (Nat × Cell)} {g : Array GenState} {d : Nat}
theorem closure_lam {env : Env} {ca : Addr} (h : env.cells.lookup ("rows" : Str) = some ca) : closureFor { kind := .function, names := [(("y" : Str), .local), (("rows" : Str), .free)], isGenerator := false, isCoroutine := false } env = pure [(("rows" : Str), ca)] := by
  have hc : cellOf env ("rows" : Str) = pure ca := by unfold cellOf; rw [h]
  have := closure_loop (env := env) (fun p cs => if (p.2 == NameKind.free) = true then (do let a ← cellOf env p.1; pure (.yield ((p.1, a) :: cs))) else pure (.yield cs)) (fun _ _ _ => rfl) [(("y" : Str), .local), (("rows" : Str), .free)] [] (fun p hp hk => by
    rcases List.mem_cons.mp hp with rfl | hp
    · cases hk
    · rw [List.mem_singleton.mp hp]; exact ⟨ca, h⟩)
  have e : (([(("y" : Str), NameKind.local), (("rows" : Str), .free)].filter fun p => p.2 == NameKind.free).map fun p => (p.1, (env.cells.lookup p.1).getD 0)).reverse ++ [] = [(("rows" : Str), ca)] := by
    show [(("rows" : Str), (env.cells.lookup ("rows" : Str)).getD 0)] = _
    rw [h]; rfl
  rw [e] at this
  unfold closureFor
  refine Eq.trans (b := ((forIn [(("y" : Str), NameKind.local), (("rows" : Str), .free)] [] (fun p cs => if (p.2 == NameKind.free) = true then (do let a ← cellOf env p.1; pure (.yield ((p.1, a) :: cs))) else pure (.yield cs))) >>= fun cs => pure cs)) ?_ ?_
  · rfl
  · rw [this]; rfl
theorem code_groups {w : World} : (fdOf (KK w) 179).code = .ref 178 := by kernel_rfl

inductive GrpJ (rD R : Addr) (S : List (List AV)) (vv : List (Option AV)) (σ : Addr → Option (Nat × Cell)) : Prop
  | mk (as : List Addr) (b : Option AV) : vv = [some (.ref rD), some (.ref R), b] → LL σ R 5 6 as S → GrpJ rD R S vv σ
set_option maxHeartbeats 1000000 in
theorem groups_spec {rD : Addr} {ks : List AV} {rw : AV → List Int} {as : List Addr} {ep : Nat} {Q : Value → AS → Prop} (lv : Lv c) (hB : BaseOk c TB) (hA : AOk A fs (d + 6)) (hD : DL σ rD 0 0 ks as ep (fun y => I2 (rw y))) (hk : ∀ v ∈ ks, KO v) (h64 : ks.length < 64)
    (T : Tot (fun i j => ltL ((ks.map rw).getD i []) ((ks.map rw).getD j [])) ks.length) (hT : σ TB = some (7, rawC (tabObj #[]))) (h1 : ∀ v ∈ ks, ∃ a t, rw v = a :: t ∧ 1 ≤ a ∧ t.length ≤ 1000)
    (h : ∀ R as' p σ' ps, Ext [5, 6, 7, 9] σ σ' → Sorted (ks.map rw) ks.length p → σ' TB = some (7, rawC (tabObj ps)) → LL σ' R 0 0 as' (grpF rw (p.toList.map fun i => ks.getD i .none)) → Q (.ref R) ⟨fs, σ', g⟩) : W c A (call (.ref 179) [.ref rD]) Q E ⟨fs, σ, g⟩ := by
  refine W_call_GCc (d := d + 5) lv.K (ps := ["rows"]) (rs := ["groups", "x"]) (ns := ["rows", "groups", "x"]) (us := [.ref rD]) (gs := [("sorted", .builtin "sorted"), ("len", .builtin "len")]) fn_groups rfl rfl (by kernel_rfl) rfl (.cons (.rest (.rest .nil))) (by simp [lv.sorted, lv.len]) hA (fun L cl env B P X hcd hgl hbl hfr hh hL hA' hout hE hC hFx hUx => ?_)
  rw [code_groups] at hcd
  refine W_consG (fun _ _ => ?_)
  repeat walk_at "st"
  refine W_newList 5 (by simp) (fun R h2 σ1 e1 => ?_)
  have X1 : Ext [] σ σ1 := by rw [e1]; exact Ext.upd_new h2
  have L1 : LL σ1 R 5 6 [] [] := ⟨by rw [e1]; exact upd_self, rfl, fun j p r a => by simp at a, .nil⟩
  have D1 := hD.ext X1 (by decide) (by decide)
  have T1 := X1 _ _ _ hT (by decide)
  repeat walk_at "st"
  refine W_For (W_CallKw ?_ rfl)
  repeat walk_at "st"
  obtain ⟨cd1, cd2, ca, cd3, cd4⟩ := hC.cap "rows" (by simp)
  refine W_Lambda hcd hgl (codeHd_of_K c.inK (lv.K ▸ head_178)) hB T1 (closure_lam cd3) rfl (fun f c' pm ctv ps σ2 hf0 hc0 hfc e2 => ?_)
  have nPf : TB ≠ f := fun z => by rw [← z, T1] at hf0; cases hf0
  have nPc : TB ≠ c' := fun z => by rw [← z, T1] at hc0; cases hc0
  have X2 : Ext [7] σ1 σ2 := by
    rw [e2]
    refine (Ext.upd_own T1 (by simp)).trans ((Ext.upd_new (by rw [upd_ne (Ne.symm nPc)]; exact hc0)).trans (Ext.upd_new ?_))
    rw [upd_ne hfc, upd_ne (Ne.symm nPf)]; exact hf0
  have hf2 := (congrFun e2 f).trans upd_self
  have hc2 := (congrFun e2 c').trans ((upd_ne (Ne.symm hfc)).trans upd_self)
  have T2 : σ2 TB = some (7, rawC (tabObj ps)) := by rw [e2, upd_ne nPf, upd_ne nPc]; exact upd_self
  have D2 := D1.ext X2 (by decide) (by decide)
  have L2 := L1.ext X2 (by decide) (by decide)
  have kz : (ks.zip (as.map AV.ref)).map (·.1) = ks := List.map_fst_zip (by rw [List.length_map, D2.len]; exact Nat.le_refl _)
  have kl : (ks.zip (as.map AV.ref)).length = ks.length := by rw [List.length_zip, List.length_map, D2.len, Nat.min_self]
  clear e2 e1
  refine ⟨Kp.builtin, W_sorted (d := d) (rs := ks.map rw) (hA'.vs.le (by omega)) D2.d (by rw [kl]; exact h64) (fun vs hvs i x σ' hx X Q' q => ?_) (by rw [kl]; exact T) (fun D p σ3 hso X3 hD3 => ?_)⟩
  · rw [kz] at hvs
    have hxk : ks[i]? = some (er x) := by rw [← hvs, List.getElem?_map, hx]; rfl
    have hxm := List.mem_of_getElem? hxk
    have kx := (hk _ hxm).key
    have D3 := D2.ext X (by decide) (by decide)
    refine W_callLam (d := 0) (y := "y") (X _ _ _ hf2 (by decide)) (X _ _ _ hc2 (by decide)) (by exact ((hA'.vs.in1).in1.le (by omega))) (by kernel_rfl) rfl (by decide) rfl rfl rfl (fun L' hL' hA2 => ?_)
    refine W_Subscript (W_NameFree (ca := ca) rfl (by decide) rfl rfl cd4 (List.mem_cons_of_mem _ (List.mem_cons_self ..)) (by walk_at "var") hE.nd (by decide) (All.ref ?_))
    have hE2 : EnvOk c (envX (env.qual ++ "<lambda>") { kind := .function, names := [(("y" : Str), .local), (("rows" : Str), .free)], isGenerator := false, isCoroutine := false } L' f (.ref c') [(("rows" : Str), ca)]) L' [] ["y"] [] :=
      ⟨rfl, rfl, by simp, .nil, fun z hz => by rw [List.mem_singleton.mp hz]; exact ⟨by decide, .inl ⟨rfl, rfl⟩⟩, (fun p hp => by cases hp), rfl, rfl⟩
    obtain ⟨j, p, hj1, hj2, hg, hpr⟩ := D3.at_ hxm
    refine W_Name hE2 .here (All.key kx fun u eu => ⟨noGet_dict D3.d, W_dict_item D3.d (by rw [eu]; exact kx) (by rw [eu]; exact hg) (All.ref ⟨_, rfl, q p 0 σ' Ext.refl ?_ (by decide)⟩)⟩)
    rw [List.getD_eq_getElem?_getD, List.getElem?_map, hxk]; exact hpr
  · rw [kz] at hD3
    rw [kl] at hso
    have X13 : Ext [7, 9] σ1 σ3 := (X2.mono (by decide)).trans (X3.mono (by decide))
    have L3 := L2.ext X3 (by decide) (by decide)
    have D3' := D2.ext X3 (by decide) (by decide)
    have T3 := X3 _ _ _ T2 (by decide)
    have hLk : ∀ x ∈ p.toList.map (fun i => ks.getD i .none), x ∈ ks := fun x hx => by
      obtain ⟨i, hi, rfl⟩ := List.mem_map.mp hx
      obtain ⟨j, hj⟩ := List.mem_iff_getElem?.mp hi
      rw [Array.getElem?_toList] at hj
      have := hso.1.lt j (by rw [← hso.1.sz]; exact (Array.getElem?_eq_some_iff.mp hj).1)
      rw [getD_of hj] at this
      rw [List.getD_eq_getElem?_getD, List.getElem?_eq_getElem this]; exact List.getElem_mem this
    have hLl : (p.toList.map (fun i => ks.getD i .none)).length < 64 := by rw [List.length_map, Array.length_toList, hso.1.sz]; exact h64
    have fin := fun R as' σ' a b d => h R as' p σ' ps a hso b d
    clear h
    generalize p.toList.map (fun i => ks.getD i .none) = ls at *
    refine W_iter_list hD3 (fun it h4 σ4 e4 => ?_)
    refine Wk_loopG (IterOf.list (k := 9) hh) [5, 6] (by decide) (by decide) (fun i vv σ => GrpJ rD R (grpF rw (ls.take i)) vv σ)
      (fun i vv σ σ' q e => by obtain ⟨as, b, q1, q2⟩ := q; exact ⟨as, b, q1, q2.ext e (by decide) (by decide)⟩) h4 e4 (by rw [e4, upd_ne (fun q => by rw [← q, hD3] at h4; cases h4)]; exact hD3) ⟨_, _, rfl, L3⟩ ?_ ?_
    · rintro i v vv σ5 u5 P5 E5 hP5 hE5 ⟨as5, b, rfl, L5⟩ hv eu hsr Y5
      have hvm := hLk v (List.mem_of_getElem? hv)
      have kv := (hk v hvm).key
      have D5 := D3'.ext Y5 (by decide) (by decide)
      obtain ⟨a, t, hrw, ha1, htl⟩ := h1 v hvm
      obtain ⟨_, p, _, _, hg, hpr⟩ := D5.at_ hvm
      rw [hrw] at hpr
      obtain ⟨g1, g2⟩ := grpF_len (rw := rw) (l := ls) i
      have hi := (List.getElem?_eq_some_iff.mp hv).1
      have eS := grpF_take (rw := rw) hv
      generalize grpF rw (ls.take i) = S at *
      refine W_assign_Name (W_storeName (by assumption) (by walk_at "set") ?_)
      rw [eu]
      have hal : as5.length = S.length := L5.len
      refine W_consG fun P10 hP10 => ?_
      refine W_cutN (fun a' => ∃ as6 σ', a' = ⟨⟨L, cl, ["rows", "groups", "x"], [some (.ref rD), some (.ref R), some v]⟩ :: fs, σ', g⟩ ∧ Ext [5, 6] σ5 σ' ∧ LL σ' R 5 6 as6 (if (S.length : Int) < a then S ++ [[]] else S)) ?_ ?_
      · intro Pc hPc
        refine W_If ?_
        repeat walk_at "st"
        refine ⟨Kp.builtin, W_len_list L5.d (by rw [List.length_map]; omega) (fun t6 => ?_)⟩
        repeat walk_at "st"
        refine All.key kv fun u6 eu6 => ?_
        refine ⟨noGet_dict D5.d, W_dict_item D5.d (by rw [eu6]; exact kv) (by rw [eu6]; exact hg) ?_⟩
        repeat walk_at "st"
        refine ⟨noGet_list hpr, W_item_list hpr (by decide) (v := .int a) rfl (by rw [List.length_map]; exact Nat.le_trans (Nat.succ_le_succ htl) (by decide)) ?_⟩
        repeat walk_at "st"
        rw [List.length_map, hal]
        by_cases hlt : (S.length : Int) < a
        · rw [decide_eq_true hlt]
          repeat walk_at "st"
          intro pl
          refine W_meth_list F.slot_list_append F.type_list_append L5.d ?_
          repeat walk_at "st"
          refine W_newList 6 (by simp) (fun nl h7 σ7 e7 => ?_)
          have X7 : Ext [] σ5 σ7 := by rw [e7]; exact Ext.upd_new h7
          repeat walk_at "st"
          have hR7 := X7 _ _ _ L5.d (by decide)
          refine ⟨Kp.builtin, W_append hR7 (by rw [List.length_map]; omega) (fun σ8 e8 => ?_)⟩
          repeat walk_at "st"
          refine hPc _ ⟨as5 ++ [nl], σ8, rfl, X7.nil.trans (by rw [e8]; exact Ext.upd_own hR7 (by decide)), ?_⟩
          rw [if_pos hlt, e8]
          exact L5.new (by decide) X7 h7 (by rw [e7]; exact upd_self)
        · rw [decide_eq_false hlt]
          repeat walk_at "st"
          exact hPc _ ⟨as5, σ5, rfl, Ext.refl, by rw [if_neg hlt]; exact L5⟩
      · rintro a1 ⟨as6, σ6, rfl, X6, L6⟩
        have hne : (if (S.length : Int) < a then S ++ [[]] else S) ≠ [] := by
          split
          · exact List.append_ne_nil_of_right_ne_nil _ (List.cons_ne_nil _ _)
          · rename_i hlt
            intro z
            rw [z] at hlt
            exact hlt (Int.lt_of_lt_of_le (by decide) ha1)
        have hgs : grpStep rw S v = (if (S.length : Int) < a then S ++ [[]] else S).dropLast ++ [(if (S.length : Int) < a then S ++ [[]] else S).getLastD [] ++ [v]] := by
          unfold grpStep
          rw [hrw]
          show (if (S.length : Int) < a then _ else _) = _
          split <;> simp
        have hSl : (if (S.length : Int) < a then S ++ [[]] else S).length ≤ 100 ∧ ∀ r ∈ (if (S.length : Int) < a then S ++ [[]] else S), r.length ≤ 100 := by
          split
          · refine ⟨by rw [List.length_append, List.length_singleton]; omega, fun r hr => ?_⟩
            rcases List.mem_append.mp hr with hr | hr
            · exact Nat.le_trans (g2 r hr) (by omega)
            · rw [List.mem_singleton.mp hr]; exact Nat.zero_le _
          · exact ⟨by omega, fun r hr => Nat.le_trans (g2 r hr) (by omega)⟩
        generalize (if (S.length : Int) < a then S ++ [[]] else S) = S' at *
        rcases List.eq_nil_or_concat as6 with rfl | ⟨as7, p7, e7⟩
        · exact absurd (List.length_eq_zero_iff.mp L6.len.symm) hne
        rw [List.concat_eq_append] at e7
        have hR6 := L6.d
        have hl7 : as7.length + 1 = S'.length := by have := L6.len; rw [e7, List.length_append] at this; exact this
        have hp7 : σ6 p7 = some (6, .list (S'.getLastD [])) := by
          have := L6.row as7.length p7 _ (by rw [e7]; simp) (List.getElem?_eq_getElem (by omega))
          rw [this, List.getLastD_eq_getLast?, List.getLast?_eq_getElem?, show S'.length - 1 = as7.length by omega, List.getElem?_eq_getElem (by omega)]; rfl
        rw [e7, List.map_append] at hR6
        have hlast : (S'.getLastD []).length ≤ 100 := by
          cases e : S'.getLast? with
          | none => rw [List.getLastD_eq_getLast?, e]; exact Nat.zero_le _
          | some r => rw [List.getLastD_eq_getLast?, e]; exact hSl.2 r (List.mem_of_getLast? e)
        repeat walk_at "st"
        refine ⟨noGet_list hR6, W_last_list hR6 (by rw [List.length_map]; omega) ?_⟩
        repeat walk_at "st"
        intro pl
        refine W_meth_list F.slot_list_append F.type_list_append hp7 ?_
        repeat walk_at "st"
        refine All.key kv fun u8 eu8 => ?_
        repeat walk_at "st"
        refine ⟨Kp.builtin, W_append hp7 (by omega) (fun σ8 e8 => ?_)⟩
        rw [eu8] at e8
        repeat walk_at "st"
        refine hP5.nx _ σ8 (X6.trans (by rw [e8]; exact Ext.upd_own hp7 (by decide))) ⟨as6, _, rfl, ?_⟩
        rw [eS, hgs, e8]
        exact L6.last (by decide) e7
    · rintro vv σ5 ⟨as5, b, rfl, L5⟩ Y5
      rw [List.take_length] at L5
      refine Nx.nx (by assumption) _ (W_recol (fk 5) (W_recol (fk 6) ?_))
      show W c B _ _ _ ⟨_, recol (fk 6) (recol (fk 5) σ5), _⟩
      repeat walk_at "st"
      refine fin R as5 _ ((X1.nil.trans X13).mono (by decide) |>.trans ((Y5.mono (by decide)).trans ((Ext.recolk (by decide)).trans (Ext.recolk (by decide))))) ?_ ((L5.turn (fk 5)).turn (fk 6))
      exact recolk_ne (recolk_ne (Y5 _ _ _ T3 (by decide)) (by decide)) (by decide)
end
end Mine.Internal

namespace Mine.Internal
open PySem PySem.W PyProof.Rows PySem.Calls PySem.SeqAt

/-! what the law's last def finds in its ring and due -/
noncomputable def ringD : Option (List AV) → PyData
  | none => .none
  | some l => .list (l.map kd)
noncomputable def dueD : Option (List AV) → PyData
  | none => .list [.none]
  | some _ => .list [.str "CycleError"]
noncomputable def dueV : Option (List AV) → AV
  | none => .none
  | some _ => .str "CycleError"
inductive RgA (σ : Addr → Option (Nat × Cell)) : Option (List AV) → AV → Prop
  | no : RgA σ none .none
  | yes {l : List AV} {a : Addr} : σ a = some (0, .list l) → (∀ v ∈ l, KO v) → RgA σ (some l) (.ref a)
theorem RgA.ext {C : List Nat} {σ σ' : Addr → Option (Nat × Cell)} {r : Option (List AV)} {v : AV} (h : RgA σ r v) (e : Ext C σ σ') (h0 : 0 ∉ C) : RgA σ' r v := by
  cases h with
  | no => exact .no
  | yes h1 h2 => exact .yes (e _ _ _ h1 h0) h2
theorem RgA.rd {σ : Addr → Option (Nat × Cell)} {r : Option (List AV)} {v : AV} (h : RgA σ r v) : RdV σ v (ringD r) := by
  cases h with
  | no => exact .none
  | yes h1 h2 => exact .list h1 (KO.rds h2)
theorem RgA.sh {σ : Addr → Option (Nat × Cell)} {r : Option (List AV)} {v : AV} (h : RgA σ r v) : Sh 1 (ringD r) := by
  cases h with
  | no => exact .none
  | yes h1 h2 => exact KO.shL h2
theorem RgA.all {σ : Addr → Option (Nat × Cell)} {r : Option (List AV)} {v : AV} {P : Value → Prop} (h : RgA σ r v) (q : ∀ u, er u = v → P u) : All v P := by
  cases h with
  | no => exact All.none (q _ rfl)
  | yes h1 h2 => exact All.ref (q _ rfl)
theorem due_rd {σ : Addr → Option (Nat × Cell)} {r : Option (List AV)} {a : Addr} {k : Nat} (h : σ a = some (k, .list [dueV r])) : RdV σ (.ref a) (dueD r) := by
  cases r with
  | none => exact .list h (.cons .none .nil)
  | some l => exact .list h (.cons .str .nil)
theorem Sh.dueD {r : Option (List AV)} : Sh 1 (dueD r) := by
  cases r with
  | none => exact Sh.list fun d hd => by rw [List.mem_singleton.mp hd]; exact .none
  | some r => exact Sh.list fun d hd => by rw [List.mem_singleton.mp hd]; exact ⟨by decide +kernel, Nat.zero_le _⟩

/-- what plain Lean has to show of the graph -/
structure PureLaw (G : Gr) : Prop where
  ok : GrOk G
  nd : (G.map (·.1)).Nodup
  ko : ∀ q ∈ G, ∀ p ∈ q.2, KO p
  rg : RgOk (nmG G).1 (nmG G).2
  small : (nmG G).1.length ≤ 60
  gin : ∀ v ∈ (nmG G).1, ∀ p ∈ gp G v, p ∈ (nmG G).1
  su : ∀ k s, s ∈ (SS.adG G).su k → s ∈ (SS.adG G).keys
  kl : (SS.adG G).keys.length < 4000
  zs : ∀ k, ((SS.adG G).su k).length ≤ 10000
  ring : ∀ r r', RingRes (nmG G).1 (nmG G).2 r → RingRes (SS.adG G).keys (SS.adG G).su r' → r' = r
  rows : ∀ ks rw, RwOk G (nmG G).1 ks rw → Done G (nmG G).1 ks (nmG G).1.length → ∀ v ∈ ks, ∃ a t, rw v = a :: t ∧ 1 ≤ a ∧ t.length ≤ 1000
  tot : ∀ ks rw, RwOk G (nmG G).1 ks rw → Done G (nmG G).1 ks (nmG G).1.length → Tot (fun i j => ltL ((ks.map rw).getD i []) ((ks.map rw).getD j [])) ks.length
  no : ∀ ks rw, RwOk G (nmG G).1 ks rw → Done G (nmG G).1 ks (nmG G).1.length → ¬ ks.length < (nmG G).1.length → ∀ r, RingRes (SS.adG G).keys (SS.adG G).su r → r = none
  lack : ∀ ks rw, RwOk G (nmG G).1 ks rw → Done G (nmG G).1 ks (nmG G).1.length → ks.length < (nmG G).1.length → ¬ RingRes (nmG G).1 (nmG G).2 none
  runs : ∀ ks rw p, RwOk G (nmG G).1 ks rw → Done G (nmG G).1 ks (nmG G).1.length → Sorted (ks.map rw) ks.length p → RunsOk 10000 (SS.adG G).prep (grpF rw (p.toList.map fun i => ks.getD i .none))

theorem fn_law {w : World} : FnOk (KK w) 193 ["script"] ["graph", "named", "after", "rows", "due", "ring", "sorter"] ["_law_graph", "_law_named", "_law_rows", "len", "_law_ring", "TopologicalSorter", "_law_told", "_law_rounds", "_law_groups"] := ⟨rfl, rfl, rfl, rfl, rfl, rfl, rfl, rfl, rfl, by decide +kernel⟩
theorem keep_law {w : World} : ∀ f ∈ [146, 153, 158, 165, 172, 179, 186], keepIn (KK w) (.ref f) = true := by
  intro f hf
  simp only [List.mem_cons, List.not_mem_nil, or_false] at hf
  rcases hf with rfl | rfl | rfl | rfl | rfl | rfl | rfl <;> rfl

section
variable {c : Cx} {A : Around} {E : Value → AS → Prop} {fs : List Frm} {σ : Addr → Option (Nat × Cell)} {g : Array GenState} {d : Nat}
theorem W_Assign_T {a : AS} {env : Env} {t : Expr} {value : Expr} {pos : Pos} {Q : Flow → AS → Prop}
    (h : W c A (eval value env) (fun v a₁ => W c A (assign t env v) (fun _ => Q .next) E a₁) E a)
    (hs : exec (.Assign [t] value pos) env = (do standAt pos; let v ← eval value env; assign t env v; pure .next) := by with_unfolding_all rfl) : W c A (exec (.Assign [t] value pos) env) Q E a := by
  rw [hs]
  exact W_bind (W_standAt (W_bind (W_mono h (fun v a₁ q => W_bind (W_mono q (fun _ _ x => W_pure x) fun _ _ x => x)) fun _ _ x => x)))
theorem RingAt.toA {r : Option (List AV)} {v : Value} (h : RingAt σ r v) : RgA σ r (er v) := by
  cases h with
  | no => exact .no
  | yes h1 h2 => exact .yes h1 h2
theorem W_fc {y : Addr} {v0 : AV} {st : SS} {ring : Option (List AV)} {Q : Value → AS → Prop} (lv : Lv c) (hA : AOk A fs (d + 1)) (S : SO σ y st) (hsu : ∀ k s, s ∈ st.su k → s ∈ st.keys) (hz : st.keys.length < 4000) (hzs : ∀ k, (st.su k).length ≤ 10000)
    (hring : ∀ res, RingRes st.keys st.su res → res = ring) (hr0 : RgA σ ring v0) (h : ∀ v σ', Ext [3, 4, 8] σ σ' → RgA σ' ring (er v) → Q v ⟨fs, σ', g⟩) : W c A (call (.ref 127) [.ref y]) Q E ⟨fs, σ, g⟩ := by
  obtain ⟨dx, nd, rv, as, ep, S⟩ := S
  refine find_cycle_spec lv.toLw hA S hsu hz (fun k => Nat.le_trans (hzs k) (by decide)) (fun σ' hr X => ?_) (fun r l σ' hr _ X hl => ?_)
  · rw [← hring _ hr] at h
    exact h _ σ' X .no
  · rw [← hring _ hr] at h hr0
    cases hr0 with
    | yes _ hk => exact h _ σ' X (.yes hl hk)
theorem W_td {y : Addr} {st : SS} {ring : Option (List AV)} {Q : Value → AS → Prop} (lv : Lv c) (hA : AOk A fs (d + 3)) (S : SO σ y st) (hr : st.ready = none) (hsu : ∀ k s, s ∈ st.su k → s ∈ st.keys) (hz : st.keys.length < 4000) (hzs : ∀ k, (st.su k).length ≤ 10000)
    (hring : ∀ res, RingRes st.keys st.su res → res = ring) (h : ∀ l σ', Ext [1, 3, 4, 8] σ σ' → SO σ' y st.prep → σ' l = some (0, .list [dueV ring]) → Q (.ref l) ⟨fs, σ', g⟩) : W c A (call (.ref 165) [.ref y]) Q E ⟨fs, σ, g⟩ := by
  refine told_spec lv hA S hr hsu hz (fun k => Nat.le_trans (hzs k) (by decide)) (fun σ' l hr X S' hd => ?_) (fun r σ' l hr X S' hd => ?_)
  · rw [← hring _ hr] at h; exact h l σ' X S' hd
  · rw [← hring _ hr] at h; exact h l σ' X S' hd
theorem W_fcMeth {y : Addr} {pl : Sem Bool} {st : SS} {Q : Value × List Value → AS → Prop} (lv : Lv c) (S : SO σ y st) (h : Q (.ref 127, [.ref y]) ⟨fs, σ, g⟩) : W c A (getMethod (.ref y) "_find_cycle" pl) Q E ⟨fs, σ, g⟩ := by
  obtain ⟨dx, nd, rv, as, ep, S⟩ := S
  exact W_getMethod S.x S.dx (lv.K ▸ bo_find.get) (lv.K ▸ bo_find.find) (lv.K ▸ bo_find.fn) (no_attr (by decide +kernel)) h
theorem gr_rds {D : Addr} {k : Nat} {G : Gr} {as : List Addr} {ep : Nat} (h : GrAt σ D k as ep G) (ko : ∀ q ∈ G, ∀ p ∈ q.2, KO p) : RdL σ (as.map AV.ref) (G.map fun q => PyData.list (q.2.map kd)) := by
  have hl := h.len
  have hr := h.row
  clear h
  induction G generalizing as with
  | nil => cases as with | nil => exact .nil | cons a as => cases hl
  | cons q G ih =>
    cases as with
    | nil => cases hl
    | cons a as =>
      exact .cons (.list (hr 0 a q rfl rfl) (KO.rds (ko q List.mem_cons_self))) (ih (fun q' hq' => ko q' (List.mem_cons_of_mem _ hq')) (Nat.succ.inj hl) fun j p q' ha hq => hr (j + 1) p q' ha hq)
set_option maxHeartbeats 1000000

@[reducible] noncomputable def nsL : List Str := ["script", "graph", "named", "after", "rows", "due", "ring", "sorter"]
theorem law_spec {s : Addr} {is : List Int} {R : Result → AS → Prop} (lv : Lv c) (hB : BaseOk c TB) (hA : AOk A fs (d + 10)) (hs : BL c s (I2 is)) (hl : is.length ≤ 63) (hT : σ TB = some (7, rawC (tabObj #[]))) (hp : PureLaw (grOf (lawNs is)))
    (h : ∀ σ' ps, σ' TB = some (7, rawC (tabObj ps)) → R (.ok (.ret (.bool true))) ⟨fs, σ', g⟩) : Wk c A (.call (.ref 193) ⟨[.ref s], []⟩) R ⟨fs, σ, g⟩ := by
  refine Wk_call_G lv.K (ns := nsL) (us := [.ref s]) (gs := [("_law_graph", .ref 153), ("_law_named", .ref 172), ("_law_rows", .ref 158), ("len", .builtin "len"), ("_law_ring", .ref 146), ("TopologicalSorter", .ref 137), ("_law_told", .ref 165), ("_law_rounds", .ref 186), ("_law_groups", .ref 179)])
    fn_law rfl (by kernel_rfl) rfl (.cons (.rest (.rest (.rest (.rest (.rest (.rest (.rest .nil)))))))) (by simp [lv.graph, lv.named, lv.rows, lv.len, lv.ring, lv.TS, lv.told, lv.rounds, lv.groups]) hA (fun L env B P X hfr hh hL hA' hout hE hFx hUx => ?_)
  refine W_consG (fun _ _ => ?_)
  repeat walk_at "st"
  refine ⟨Kp.inK (lv.K ▸ keep_law 153 (by simp)), graph_spec lv (d := d) (hA'.le (by omega)) hs hl (fun gr gas gep σ1 X1 G1 => ?_)⟩
  have hgr0 : ∀ {d' : Nat} {A' : Around} {fs' : List Frm} {σ' : Addr → Option (Nat × Cell)} {E' : Value → AS → Prop} {Q' : Value → AS → Prop}, AOk A' fs' (d' + 1) → (∀ gr as ep σ'', Ext [5, 6] σ' σ'' → GrAt σ'' gr 0 as ep (grOf (lawNs is)) → Q' (.ref gr) ⟨fs', σ'', g⟩) → W c A' (call (.ref 153) [.ref s]) Q' E' ⟨fs', σ', g⟩ := fun hA0 h0 => graph_spec lv hA0 hs hl h0
  generalize grOf (lawNs is) = G at *
  have T1 := X1 _ _ _ hT (by decide)
  clear X1
  repeat walk_at "st"
  refine W_Assign_T ?_
  repeat walk_at "st"
  refine ⟨Kp.inK (lv.K ▸ keep_law 172 (by simp)), named_spec lv (d := d) (hA'.vs.le (by omega)) G1 hp.nd hp.ok (fun t2 nm af aas aep σ2 X2 ht2 N2 => ?_)⟩
  refine W_assign_T2 ⟨0, .inr ht2⟩ hh ?_
  repeat walk_at "st"
  have G2 := G1.ext X2 (by decide) (by decide)
  have T2 := X2 _ _ _ T1 (by decide)
  clear X2 T1 G1 ht2
  have hr2 := hp.rg
  have hNk : ∀ v ∈ (nmG G).1, KO v := hr2.key
  refine ⟨Kp.inK (lv.K ▸ keep_law 158 (by simp)), rows_spec lv (d := d) (hA'.vs.le (by omega)) G2 hp.nd hp.ok N2.nm hNk hr2.nd hr2.len hp.gin (fun rD ks rw ras rep σ3 X3 D3 hrw hdn => ?_)⟩
  have hkl : ks.length ≤ (nmG G).1.length := nodup_le hrw.nd hrw.sub
  have hsm := hp.small
  have G3 := G2.ext X3 (by decide) (by decide)
  have N3 := N2.ext X3 (by decide) (by decide)
  have T3 := X3 _ _ _ T2 (by decide)
  clear X3 T2 G2 N2
  repeat walk_at "st"
  refine W_newList 0 (by simp) (fun dv h4 σ4 e4 => ?_)
  have X4 : Ext [] σ3 σ4 := by rw [e4]; exact Ext.upd_new h4
  have V4 : σ4 dv = some (0, .list [dueV none]) := by rw [e4]; exact upd_self
  have G4 := G3.ext X4 (by decide) (by decide)
  have N4 := N3.ext X4 (by decide) (by decide)
  have T4 := X4 _ _ _ T3 (by decide)
  have D4 := D3.ext X4 (by decide) (by decide)
  clear X4 e4 h4 T3 G3 N3 D3
  refine W_storeName hE (by walk_at "set") ?_
  refine Nx.nx (by assumption) _ (W_consG fun _ _ => ?_)
  refine W_Assign_Name (W_Const_none (W_storeName hE (by walk_at "set") ?_))
  refine Nx.nx (by assumption) _ (W_consG fun _ _ => ?_)
  refine W_cutN (fun a' => ∃ dv rv ring σ', a' = ⟨⟨L, [], nsL, [some (.ref s), some (.ref gr), some (.ref nm), some (.ref af), some (.ref rD), some (.ref dv), some rv, none]⟩ :: fs, σ', g⟩ ∧ Ext [5] σ4 σ' ∧ σ' dv = some (0, .list [dueV ring]) ∧ RgA σ' ring rv ∧ ∀ res, RingRes (SS.adG G).keys (SS.adG G).su res → res = ring) ?_ ?_
  · intro Pc hPc
    have hzl : (ks.zip (ras.map AV.ref)).length = ks.length := by rw [List.length_zip, List.length_map, D4.len, Nat.min_self]
    repeat walk_at "st"
    refine ⟨Kp.builtin, W_len_dict D4.d (by omega) (fun t5 => ?_)⟩
    repeat walk_at "st"
    refine ⟨Kp.builtin, W_len_list N4.nm (by omega) (fun t6 => ?_)⟩
    repeat walk_at "st"
    rw [hzl]
    by_cases hlt : ks.length < (nmG G).1.length
    · rw [decide_eq_true (Int.ofNat_lt.mpr hlt)]
      repeat walk_at "st"
      refine W_newList 0 (by simp) (fun dw h5 σ5 e5 => ?_)
      have X5 : Ext [] σ4 σ5 := by rw [e5]; exact Ext.upd_new h5
      have N5 := N4.ext X5 (by decide) (by decide)
      repeat walk_at "st"
      refine ⟨Kp.inK (lv.K ▸ keep_law 146 (by simp)), ring_spec lv (d := d) (hA'.vs.le (by omega)) N5.nm N5.af hr2 (fun r v σ6 hr hat X6 => ?_)⟩
      repeat walk_at "st"
      have hu : ∀ res, RingRes (SS.adG G).keys (SS.adG G).su res → res = r := fun res q => hp.ring _ _ hr q
      refine hPc _ ⟨dw, er v, r, σ6, rfl, X5.nil.trans X6, ?_, hat.toA, hu⟩
      cases r with
      | none =>
        exfalso
        exact hp.lack ks rw hrw hdn hlt hr
      | some l => exact X6 _ _ _ (by rw [e5]; exact upd_self) (by decide)
    · rw [decide_eq_false (fun z => hlt (Int.ofNat_lt.mp z))]
      repeat walk_at "st"
      exact hPc _ ⟨dv, .none, none, σ4, rfl, Ext.refl, V4, .no, hp.no ks rw hrw hdn hlt⟩
  rintro a' ⟨dv, rv, ring, σ5, rfl, X5, V5, R5, hring⟩
  have G5 := G4.ext X5 (by decide) (by decide)
  have T5 := X5 _ _ _ T4 (by decide)
  have D5 := D4.ext X5 (by decide) (by decide)
  clear X5 T4 G4 N4 D4 V4
  repeat walk_at "st"
  refine ⟨Kp.inK (lv.K ▸ keep_TS), W_make 1 (lv.K ▸ makes_TS) (lv.K ▸ init_TS) (lv.K ▸ fnt_TS) (fun y dy hy hdy hne σ6 e6 => ?_)⟩
  have X6 : Ext [] σ5 σ6 := by
    rw [e6]
    refine Ext.trans (Ext.upd_new hdy) (Ext.upd_new ?_)
    rw [upd_ne hne]; exact hy
  have G6 := G5.ext X6 (by decide) (by decide)
  refine tinit2_spec lv.toLw (d := d) ((hA'.vs.le (d' := d + 7) (by omega)).underMake) (by rw [e6]; exact upd_self) (by rw [e6, upd_ne (Ne.symm hne)]; exact upd_self) G6 hp.ok (fun σ7 X7 S7 => ⟨rfl, ?_⟩)
  have V7 := X7 _ _ _ (X6 _ _ _ V5 (by decide)) (by decide)
  have R7 := (R5.ext X6 (by decide)).ext X7 (by decide)
  have G7 := G6.ext X7 (by decide) (by decide)
  have T7 := X7 _ _ _ (X6 _ _ _ T5 (by decide)) (by decide)
  have D7 := (D5.ext X6 (by decide) (by decide)).ext X7 (by decide) (by decide)
  clear X6 X7 e6 G6 V5 R5 G5 T5 D5 hy hdy hne
  repeat walk_at "st"
  intro plx
  refine W_fcMeth lv S7 ?_
  repeat walk_at "st"
  refine ⟨Kp.inK (lv.K ▸ keep_find), W_fc lv (d := d) (hA'.vs.le (by omega)) S7 hp.su hp.kl hp.zs hring R7 (fun v8 σ8 X8 F8 => ?_)⟩
  have R8 := R7.ext X8 (by decide)
  have V8 := X8 _ _ _ V7 (by decide)
  have T8 := X8 _ _ _ T7 (by decide)
  have G8 := G7.ext X8 (by decide) (by decide)
  have D8 := D7.ext X8 (by decide) (by decide)
  have S8 := S7.ext X8 (by decide) (by decide)
  clear X8 R7 V7 T7 G7 D7 S7
  repeat walk_at "st"
  refine R8.all fun u8 e8 => ?_
  refine W_neD hA' F8.rd (by rw [e8]; exact R8.rd) R8.sh.ok R8.sh.ok ?_
  rw [eqv_self R8.sh]
  repeat walk_at "st"
  have hrd : (SS.adG G).ready = none := by
    have := (adG_facts (G := G) G.length).1
    rwa [List.take_length] at this
  refine ⟨Kp.inK (lv.K ▸ keep_law 165 (by simp)), W_td lv (d := d) (hA'.vs.le (by omega)) S8 hrd hp.su hp.kl hp.zs hring (fun l9 σ9 X9 S9 hl9 => ?_)⟩
  have R9 := R8.ext X9 (by decide)
  have V9 := X9 _ _ _ V8 (by decide)
  have T9 := X9 _ _ _ T8 (by decide)
  have G9 := G8.ext X9 (by decide) (by decide)
  have D9 := D8.ext X9 (by decide) (by decide)
  clear X9 R8 V8 T8 G8 D8 S8 F8 e8
  repeat walk_at "st"
  refine W_neD hA' (due_rd hl9) (due_rd V9) Sh.dueD.ok Sh.dueD.ok ?_
  rw [eqv_self Sh.dueD]
  repeat walk_at "st"
  refine ⟨Kp.inK (lv.K ▸ keep_law 179 (by simp)), groups_spec lv (d := d) hB (hA'.vs.le (by omega)) D9 (fun v hv => hNk v (hrw.sub v hv)) (by omega) (hp.tot ks rw hrw hdn) T9 (hp.rows ks rw hrw hdn) (fun R10 as10 p σ10 ps X10 hso T10 L10 => ?_)⟩
  have hrun := hp.runs ks rw p hrw hdn hso
  have hgl : (grpF rw (p.toList.map fun i => ks.getD i .none)).length ≤ 1000 := by
    have := (grpF_len (rw := rw) (l := p.toList.map fun i => ks.getD i .none) (p.toList.map fun i => ks.getD i .none).length).1
    have hz : p.toList.length = ks.length := by rw [Array.length_toList]; exact hso.1.sz
    rw [List.take_length, List.length_map] at this
    omega
  generalize grpF rw (p.toList.map fun i => ks.getD i .none) = rs at *
  have R10' := R9.ext X10 (by decide)
  have G10 := G9.ext X10 (by decide) (by decide)
  have S10 := S9.ext X10 (by decide) (by decide)
  clear X10 R9 V9 T9 G9 D9 S9 hl9
  repeat walk_at "st"
  refine ⟨Kp.inK (lv.K ▸ keep_law 186 (by simp)), rounds_spec lv (d := d) (N := 10000) (hA'.vs.le (by omega)) S10 L10 hgl (by decide) hrun hp.su hp.zs (fun σ11 st' X11 S11 hk11 hs11 => ?_)⟩
  have R11 := R10'.ext X11 (by decide)
  have G11 := G10.ext X11 (by decide) (by decide)
  have T11 := X11 _ _ _ T10 (by decide)
  have hk' : st'.keys = (SS.adG G).keys := hk11
  have hs' : st'.su = (SS.adG G).su := hs11
  clear X11 R10' G10 S10 T10 L10
  repeat walk_at "st"
  intro ply
  refine W_fcMeth lv S11 ?_
  repeat walk_at "st"
  refine ⟨Kp.inK (lv.K ▸ keep_find), W_fc lv (d := d) (ring := ring) (hA'.vs.le (by omega)) S11 (by rw [hk', hs']; exact hp.su) (by rw [hk']; exact hp.kl) (by rw [hs']; exact hp.zs) (by rw [hk', hs']; exact hring) R11 (fun v12 σ12 X12 F12 => ?_)⟩
  have R12 := R11.ext X12 (by decide)
  have G12 := G11.ext X12 (by decide) (by decide)
  have T12 := X12 _ _ _ T11 (by decide)
  clear X12 R11 G11 T11 S11
  repeat walk_at "st"
  refine R12.all fun u12 e12 => ?_
  refine W_eqD hA' F12.rd (by rw [e12]; exact R12.rd) R12.sh.ok R12.sh.ok ?_
  rw [eqv_self R12.sh]
  repeat walk_at "st"
  refine ⟨Kp.inK (lv.K ▸ keep_law 153 (by simp)), hgr0 (d' := d) (hA'.vs.le (by omega)) (fun gr2 gas2 gep2 σ13 X13 G13 => ?_)⟩
  have G13' := G12.ext X13 (by decide) (by decide)
  have T13 := X13 _ _ _ T12 (by decide)
  repeat walk_at "st"
  have kz : ∀ {as : List Addr}, as.length = G.length → ((G.map (·.1)).zip (as.map AV.ref)).map (·.1) = G.map (·.1) ∧ ((G.map (·.1)).zip (as.map AV.ref)).map (·.2) = as.map AV.ref := fun {as} e =>
    ⟨List.map_fst_zip (by rw [List.length_map, List.length_map, e]; exact Nat.le_refl _), List.map_snd_zip (by rw [List.length_map, List.length_map, e]; exact Nat.le_refl _)⟩
  refine W_dict_eq (d := d) (n := 1) (ds := G.map fun q => PyData.list (q.2.map kd)) (hA'.le (by omega)) G13'.d G13.d ?_ ?_ ?_ ?_ ?_ (by decide) ?_
  · rw [(kz G13.len).1, (kz G13'.len).1]
  · rw [(kz G13'.len).2]; exact gr_rds G13' hp.ko
  · rw [(kz G13.len).2]; exact gr_rds G13 hp.ko
  · intro q hq
    obtain ⟨q', _, rfl⟩ := List.mem_map.mp hq
    exact ⟨_, rfl⟩
  · intro q hq
    obtain ⟨q', hq', rfl⟩ := List.mem_map.mp hq
    exact KO.shL (hp.ko q' hq')
  repeat walk_at "st"
  exact h σ13 _ T13
end
end Mine.Internal

namespace Mine.Internal
open PySem PySem.W PyProof.Rows PySem.Calls PySem.SeqAt

/-! counting down -/
section
variable {α : Type} [DecidableEq α]
noncomputable def zs (np : α → Int) : List α → List α
  | [] => []
  | s :: T => (if np s - 1 = 0 then [s] else []) ++ zs (fun y => if y = s then np s - 1 else np y) T
theorem zs_congr : ∀ {T : List α} {np np' : α → Int}, (∀ x ∈ T, np x = np' x) → zs np T = zs np' T
  | [], _, _, _ => rfl
  | s :: T, np, np', h => by
    have hs := h s (List.mem_cons_self ..)
    unfold zs
    rw [hs, zs_congr (T := T) (np := fun y => if y = s then np' s - 1 else np y) (np' := fun y => if y = s then np' s - 1 else np' y)]
    intro x hx
    rw [h x (List.mem_cons_of_mem _ hx)]
theorem zs_append : ∀ {S T : List α} {np : α → Int}, zs np (S ++ T) = zs np S ++ zs (fun x => np x - (S.count x : Int)) T
  | [], T, np => by simp [zs]
  | s :: S, T, np => by
    rw [List.cons_append, zs, zs, zs_append (S := S) (T := T), List.append_assoc]
    congr 2
    apply zs_congr
    intro x _
    rw [List.count_cons]
    by_cases e : x = s
    · subst e; simp; omega
    · simp [e, Ne.symm e]
theorem zs_none : ∀ {T : List α} {np : α → Int}, (∀ x ∈ T, (T.count x : Int) < np x) → zs np T = []
  | [], _, _ => rfl
  | s :: T, np, h => by
    have hs := h s (List.mem_cons_self ..)
    rw [List.count_cons_self] at hs
    unfold zs
    rw [if_neg (by omega), zs_none (T := T)]
    · rfl
    · intro x hx
      have := h x (List.mem_cons_of_mem _ hx)
      rw [List.count_cons] at this
      by_cases e : x = s
      · subst e; simp at this ⊢; omega
      · simp [e, Ne.symm e] at this ⊢; exact this
theorem zs_all : ∀ {B : List α} {np : α → Int}, B.Nodup → (∀ x ∈ B, np x = 1) → zs np B = B
  | [], _, _, _ => rfl
  | s :: B, np, hd, h => by
    rw [List.nodup_cons] at hd
    have hs := h s (List.mem_cons_self ..)
    unfold zs
    rw [if_pos (by omega), zs_all (B := B) hd.2]
    · rfl
    · intro x hx
      have hne : x ≠ s := fun z => hd.1 (z ▸ hx)
      simp only [if_neg hne]
      exact h x (List.mem_cons_of_mem _ hx)

/-- blocks: what is not yet ready, and behind it what gets ready -/
theorem zs_blocks : ∀ {bl : List (List α × List α)} {np : α → Int},
    (∀ x ∈ bl.flatMap (fun b => b.1 ++ b.2), (x ∈ bl.flatMap (·.2) → np x = ((bl.flatMap (fun b => b.1 ++ b.2)).count x : Int)) ∧ (x ∉ bl.flatMap (·.2) → ((bl.flatMap (fun b => b.1 ++ b.2)).count x : Int) < np x)) →
    (∀ bl1 b bl2, bl = bl1 ++ b :: bl2 → b.2.Nodup ∧ ∀ x ∈ b.2, x ∉ bl2.flatMap (fun b => b.1 ++ b.2)) →
    zs np (bl.flatMap (fun b => b.1 ++ b.2)) = bl.flatMap (·.2)
  | [], _, _, _ => rfl
  | b :: bl, np, h, hb => by
    obtain ⟨b1, b2⟩ := hb [] b bl rfl
    simp only [List.flatMap_cons] at h ⊢
    generalize hrest : bl.flatMap (fun b => b.1 ++ b.2) = rest at *
    generalize hB : bl.flatMap (·.2) = Bs at *
    have hBs : ∀ x, x ∈ Bs → x ∈ rest := fun x hx => by
      rw [← hB] at hx; rw [← hrest]
      obtain ⟨c, hc, hx⟩ := List.mem_flatMap.mp hx
      exact List.mem_flatMap.mpr ⟨c, hc, List.mem_append_right _ hx⟩
    rw [zs_append, zs_append]
    have e1 : zs np b.1 = [] := zs_none fun x hx => by
      have hm : x ∈ b.1 ++ b.2 ++ rest := by simp [hx]
      obtain ⟨p1, p2⟩ := h x hm
      by_cases q : x ∈ b.2 ++ Bs
      · have := p1 q
        rw [List.count_append, List.count_append] at this
        have h3 : 0 < b.2.count x + rest.count x := by
          rcases List.mem_append.mp q with z | z
          · have := List.count_pos_iff.mpr z; omega
          · have := List.count_pos_iff.mpr (hBs x z); omega
        omega
      · have := p2 q
        rw [List.count_append, List.count_append] at this; omega
    have e2 : zs (fun x => np x - (b.1.count x : Int)) b.2 = b.2 := zs_all b1 fun x hx => by
      have hm : x ∈ b.1 ++ b.2 ++ rest := by simp [hx]
      have := (h x hm).1 (by simp [hx])
      rw [List.count_append, List.count_append] at this
      have h0 : rest.count x = 0 := List.count_eq_zero.mpr (b2 x hx)
      have h1 : b.2.count x = 1 := by rw [b1.count, if_pos hx]
      omega
    rw [e1, e2, List.nil_append]
    congr 1
    subst hrest hB
    refine zs_blocks (fun x hx => ⟨fun hB => ?_, fun hB => ?_⟩) fun bl1 b' bl2 e => hb (b :: bl1) b' bl2 (by rw [e]; rfl)
    · have := (h x (by simp only [List.mem_append]; exact .inr hx)).1 (by simp only [List.mem_append]; exact .inr hB)
      rw [List.count_append] at this
      omega
    · have hnb : x ∉ b.2 := fun z => b2 x z hx
      have := (h x (by simp only [List.mem_append]; exact .inr hx)).2 (by simp only [List.mem_append, not_or]; exact ⟨hnb, hB⟩)
      rw [List.count_append] at this
      omega
end

/-! what done does -/
theorem decs_np {x : AV} : ∀ {T : List AV} {st : SS}, (T.foldl (fun (s : SS) p => s.dec p) st).np x = st.np x - (T.count x : Int)
  | [], _ => by simp
  | s :: T, st => by
    rw [List.foldl_cons, decs_np (T := T), List.count_cons]
    show fset st.np s (st.np s - 1) x - _ = _
    by_cases e : x = s
    · subst e; rw [fset_self]; simp; omega
    · rw [fset_ne e]; simp [Ne.symm e]
theorem decs_ready : ∀ {T : List AV} {st : SS} {r : List AV}, st.ready = some r → (T.foldl (fun s p => s.dec p) st).ready = some (r ++ zs st.np T)
  | [], _, _, h => by simp [zs, h]
  | s :: T, st, r, h => by
    have h1 : (st.dec s).ready = some (r ++ if st.np s - 1 = 0 then [s] else []) := by
      unfold SS.dec; dsimp only
      by_cases q : st.np s - 1 = 0
      · rw [if_pos q, if_pos q, h]; rfl
      · rw [if_neg q, if_neg q, h]; simp
    rw [List.foldl_cons, decs_ready h1, zs, List.append_assoc]
    rfl
theorem done_eff : ∀ {l : List AV} {st : SS} {r : List AV}, st.ready = some r → l.Nodup → (∀ v ∈ l, ∀ s ∈ st.su v, s ∉ l) →
    (∀ x, x ∉ l → (st.done l).np x = st.np x - ((l.flatMap st.su).count x : Int)) ∧ (st.done l).ready = some (r ++ zs st.np (l.flatMap st.su))
  | [], st, r, h, _, _ => ⟨fun x _ => by simp [SS.done], by simp [SS.done, zs, h]⟩
  | v :: l, st, r, h, hd, hs => by
    rw [List.nodup_cons] at hd
    have hsu : (st.done1 v).su = st.su := SS.done1_same.2.1
    have n1 : ∀ x, x ≠ v → (st.done1 v).np x = st.np x - ((st.su v).count x : Int) := fun x hx => by
      show ((st.su v).foldl (fun (s : SS) p => s.dec p) { st with np := fset st.np v (-2) }).np x = _
      rw [decs_np]; dsimp only; rw [fset_ne hx]
    have r1 : (st.done1 v).ready = some (r ++ zs st.np (st.su v)) := by
      show ((st.su v).foldl (fun (s : SS) p => s.dec p) { st with np := fset st.np v (-2) }).ready = _
      rw [decs_ready (st := { st with np := fset st.np v (-2) }) (r := r) h]
      congr 2
      apply zs_congr
      intro x hx
      have : x ≠ v := fun z => hs v (List.mem_cons_self ..) x hx (by rw [z]; simp)
      exact fset_ne this
    obtain ⟨i1, i2⟩ := done_eff (l := l) r1 hd.2 (by rw [hsu]; exact fun u hu s q z => hs u (List.mem_cons_of_mem _ hu) s q (List.mem_cons_of_mem _ z))
    rw [hsu] at i1 i2
    have e : st.done (v :: l) = (st.done1 v).done l := rfl
    refine ⟨fun x hx => ?_, ?_⟩
    · simp only [List.mem_cons, not_or] at hx
      rw [e, i1 x hx.2, n1 x hx.1, List.flatMap_cons, List.count_append]; omega
    · rw [e, i2, List.flatMap_cons, zs_append, List.append_assoc]
      congr 3
      apply zs_congr
      intro x hx
      refine n1 x fun z => ?_
      obtain ⟨u, hu, q⟩ := List.mem_flatMap.mp hx
      exact hs u (List.mem_cons_of_mem _ hu) x q (by rw [z]; simp)

theorem out_np {x : AV} : ∀ {l : List AV} {np : AV → Int}, (x ∉ l → SS.out np l x = np x) ∧ (x ∈ l → SS.out np l x = -1)
  | [], _ => ⟨fun _ => rfl, fun h => by cases h⟩
  | k :: l, np => by
    obtain ⟨a, b⟩ := out_np (l := l) (np := fset np k (-1)) (x := x)
    show (x ∉ k :: l → SS.out (fset np k (-1)) l x = _) ∧ (_ → SS.out (fset np k (-1)) l x = _)
    constructor
    · intro h
      simp only [List.mem_cons, not_or] at h
      rw [a h.2, fset_ne h.1]
    · intro h
      by_cases q : x ∈ l
      · exact b q
      · rw [a q]
        have : x = k := (List.mem_cons.mp h).resolve_right q
        rw [this, fset_self]

/-! edges -/
noncomputable abbrev Eds := List (AV × AV)
noncomputable def outE (E : Eds) (p : AV) : List AV := (E.filter fun e => decide (e.1 = p)).map (·.2)
noncomputable def inE (E : Eds) (dn : List AV) (x : AV) : Nat := E.countP fun e => decide (e.2 = x) && decide (e.1 ∉ dn)

theorem count_outE {E : Eds} {x : AV} : ∀ {r : List AV}, r.Nodup → (r.flatMap (outE E)).count x = E.countP fun e => decide (e.2 = x) && decide (e.1 ∈ r)
  | [], _ => by simp
  | v :: r, hd => by
    rw [List.nodup_cons] at hd
    rw [List.flatMap_cons, List.count_append, count_outE hd.2]
    have h1 : (outE E v).count x = E.countP fun e => decide (e.2 = x) && decide (e.1 = v) := by
      unfold outE
      rw [List.count, List.countP_map, List.countP_filter]
      apply List.countP_congr
      intro e _
      simp
    rw [h1]
    clear h1
    induction E with
    | nil => rfl
    | cons e E ih =>
      rw [List.countP_cons, List.countP_cons, List.countP_cons]
      have : ∀ a b c : Nat, a + b = c → True := fun _ _ _ _ => trivial
      by_cases q1 : e.2 = x
      · by_cases q2 : e.1 = v
        · have q3 : e.1 ∉ r := by rw [q2]; exact hd.1
          simp only [q1, q2, hd.1, decide_true, decide_false, Bool.and_true, Bool.and_false, List.mem_cons, true_or, if_true, Bool.false_eq_true, if_false] at ih ⊢
          omega
        · by_cases q3 : e.1 ∈ r
          · simp only [q1, q2, q3, decide_true, decide_false, Bool.and_true, Bool.and_false, List.mem_cons, or_true, if_true, Bool.false_eq_true, if_false] at ih ⊢
            omega
          · simp only [q1, q2, q3, decide_true, decide_false, Bool.and_true, Bool.and_false, List.mem_cons, or_self, if_true, Bool.false_eq_true, if_false] at ih ⊢
            omega
      · simp only [q1, decide_false, Bool.false_and, Bool.false_eq_true, if_false] at ih ⊢
        omega
theorem inE_split {E : Eds} {dn r : List AV} {x : AV} (hd : r.Nodup) (hx : ∀ v ∈ r, v ∉ dn) : inE E dn x = (r.flatMap (outE E)).count x + inE E (dn ++ r) x := by
  rw [count_outE hd]
  unfold inE
  induction E with
  | nil => rfl
  | cons e E ih =>
    rw [List.countP_cons, List.countP_cons, List.countP_cons]
    by_cases q1 : e.2 = x
    · by_cases q2 : e.1 ∈ r
      · have q3 := hx _ q2
        simp only [q1, q2, q3, decide_true, Bool.and_true, List.mem_append, or_true, not_true, not_false_iff, decide_false, Bool.and_false, if_true, Bool.false_eq_true, if_false] at ih ⊢
        omega
      · by_cases q3 : e.1 ∈ dn
        · simp only [q1, q2, q3, decide_true, Bool.and_true, List.mem_append, true_or, not_true, decide_false, Bool.and_false, if_true, Bool.false_eq_true, if_false] at ih ⊢
          omega
        · simp only [q1, q2, q3, decide_true, Bool.and_true, List.mem_append, or_self, not_false_iff, decide_false, Bool.and_false, if_true, Bool.false_eq_true, if_false] at ih ⊢
          omega
    · simp only [q1, decide_false, Bool.false_and, Bool.false_eq_true, if_false] at ih ⊢
      omega


/-- a round and what gets ready by it -/
noncomputable def RC (E : Eds) : List AV → List (List AV) → Prop
  | _, [] => True
  | dn, r :: rs => r ≠ [] ∧ r.Nodup ∧ (∀ v ∈ r, v ∉ dn) ∧ (r.length ≤ 90 ∧ ∀ v ∈ r, KO v) ∧ (∀ e ∈ E, e.1 ∈ r → e.2 ∉ dn ++ r) ∧ zs (fun x => (inE E dn x : Int)) (r.flatMap (outE E)) = rs.headD [] ∧ RC E (dn ++ r) rs

theorem runs_of {E : Eds} {N : Nat} : ∀ {rs : List (List AV)} {dn : List AV} {st : SS}, RC E dn rs → st.su = outE E → (∀ x, x ∉ dn → st.np x = (inE E dn x : Int)) → st.nfin = st.npass → (∀ r ∈ rs, ∀ x ∈ r, x ∈ st.keys) →
    (∀ k, (st.su k).length ≤ N) → st.ready = some (rs.headD []) → RunsOk N st rs
  | [], dn, st, _, _, _, hn, _, _, hr => ⟨hr, by omega⟩
  | r :: rs, dn, st, hc, hsu, hnp, hn, hk, hN, hr => by
    obtain ⟨c1, c2, c3, c4, c5, c6, c7⟩ := hc
    have hT : ∀ x ∈ r.flatMap (outE E), x ∉ dn ++ r := fun x hx => by
      obtain ⟨v, hv, hx⟩ := List.mem_flatMap.mp hx
      unfold outE at hx
      obtain ⟨e, he, rfl⟩ := List.mem_map.mp hx
      rw [List.mem_filter, decide_eq_true_eq] at he
      exact c5 e he.1 (by rw [he.2]; exact hv)
    have hsu' : (st.getReady r).su = outE E := hsu
    have hdis : ∀ v ∈ r, ∀ s ∈ (st.getReady r).su v, s ∉ r := fun v hv s hs hm => hT s (List.mem_flatMap.mpr ⟨v, hv, by rw [hsu'] at hs; exact hs⟩) (List.mem_append_right _ hm)
    have hgr : (st.getReady r).ready = some [] := rfl
    refine ⟨hr, c1, c4, fun k hk' => hk r (List.mem_cons_self ..) k hk', fun i k hi => ?_, ?_⟩
    · have hsub : ∀ y, y ∈ r.take i → y ∈ r := fun y hy => List.mem_of_mem_take hy
      obtain ⟨a, _⟩ := done_eff (l := r.take i) hgr (c2.sublist (List.take_sublist ..)) fun v hv s hs hm => hdis v (hsub v hv) s hs (hsub s hm)
      have hkm : k ∈ r := List.mem_of_getElem? hi
      have hkn : k ∉ r.take i := fun z => by
        obtain ⟨j, hj, e⟩ := List.mem_take_iff_getElem.mp z
        have h1 : r[j]? = some k := by rw [List.getElem?_eq_getElem (by omega), e]
        have := nodup_idx' c2 h1 hi
        omega
      rw [a k hkn]
      have h0 : ((r.take i).flatMap (st.getReady r).su).count k = 0 := List.count_eq_zero.mpr fun z => by
        obtain ⟨v, hv, hs⟩ := List.mem_flatMap.mp z
        exact hdis v (hsub v hv) k hs hkm
      rw [h0]
      show SS.out st.np r k - 0 = -1
      rw [out_np.2 hkm]; rfl
    · obtain ⟨a, b⟩ := done_eff (l := r) hgr c2 hdis
      have hsame := SS.done_same (l := r) (st := st.getReady r) (N := N) hN
      have hout : ∀ x, x ∉ dn ++ r → (st.getReady r).np x = (inE E dn x : Int) := fun x hx => by
        show SS.out st.np r x = _
        rw [List.mem_append, not_or] at hx
        rw [out_np.1 hx.2, hnp x hx.1]
      refine runs_of c7 (hsame.2.1.trans hsu') (fun x hx => ?_) ?_ (fun r' hr' x hx => by rw [hsame.1]; exact hk r' (List.mem_cons_of_mem _ hr') x hx) (fun k => by rw [hsame.2.1]; exact hN k) ?_
      · rw [a _ (fun z => hx (List.mem_append_right _ z)), hout x hx, hsu', inE_split c2 c3]; omega
      · rw [hsame.2.2.2.2.1, hsame.2.2.2.1]
        show st.nfin + _ = st.npass + _
        rw [hn]
      · rw [b, hsu', List.nil_append]
        congr 1
        rw [← c6]
        apply zs_congr
        intro x hx
        exact hout x (hT x hx)
end Mine.Internal

namespace Mine.Internal
open PySem PySem.W PyProof.Rows PySem.Calls PySem.SeqAt

/-! the order of rows -/
theorem ltL_irr : ∀ {l : List Int}, ltL l l = false
  | [] => rfl
  | x :: xs => by rw [ltL, if_pos rfl]; exact ltL_irr
theorem ltL_cons {x y : Int} {xs ys : List Int} : ltL (x :: xs) (y :: ys) = true ↔ x < y ∨ x = y ∧ ltL xs ys = true := by
  rw [ltL]
  split
  · rename_i e; subst e; exact ⟨fun h => .inr ⟨rfl, h⟩, fun h => (h.resolve_left (Int.lt_irrefl _)).2⟩
  · rename_i e; exact ⟨fun h => .inl (of_decide_eq_true h), fun h => decide_eq_true (h.resolve_right fun z => e z.1)⟩
theorem ltL_tr : ∀ {a b c : List Int}, ltL a b = true → ltL b c = true → ltL a c = true
  | [], [], _, h, _ => nomatch h
  | _ :: _, [], _, h, _ => nomatch h
  | _, _ :: _, [], _, h => nomatch h
  | [], _ :: _, _ :: _, _, _ => rfl
  | x :: xs, y :: ys, z :: zs, h1, h2 => by
    rw [ltL_cons] at *
    rcases h1 with h1 | ⟨rfl, h1⟩
    · rcases h2 with h2 | ⟨rfl, h2⟩
      · exact .inl (Int.lt_trans h1 h2)
      · exact .inl h1
    · rcases h2 with h2 | ⟨rfl, h2⟩
      · exact .inl h2
      · exact .inr ⟨rfl, ltL_tr h1 h2⟩
theorem ltL_tot : ∀ {a b : List Int}, a ≠ b → ltL a b = true ∨ ltL b a = true
  | [], [], h => (h rfl).elim
  | [], _ :: _, _ => .inl rfl
  | _ :: _, [], _ => .inr rfl
  | x :: xs, y :: ys, h => by
    rw [ltL_cons, ltL_cons]
    rcases Int.lt_trichotomy x y with q | rfl | q
    · exact .inl (.inl q)
    · rcases ltL_tot (a := xs) (b := ys) (fun z => h (by rw [z])) with q | q
      · exact .inl (.inr ⟨rfl, q⟩)
      · exact .inr (.inr ⟨rfl, q⟩)
    · exact .inr (.inl q)
theorem ltL_asym {a b : List Int} (h : ltL a b = true) : ltL b a = false := by
  cases q : ltL b a with
  | false => rfl
  | true => have := ltL_tr h q; rw [ltL_irr] at this; cases this
/-- behind rows of one length what follows counts when they are alike -/
theorem ltL_app {x y : Int} : ∀ {a b : List Int}, a.length = b.length → (ltL (a ++ [x]) (b ++ [y]) = true ↔ ltL a b = true ∨ a = b ∧ x < y)
  | [], [], _ => by
    rw [List.nil_append, List.nil_append, ltL_cons]
    exact ⟨fun h => .inr ⟨rfl, h.resolve_right fun z => nomatch z.2⟩, fun h => .inl (h.resolve_left fun z => nomatch z).2⟩
  | u :: a, v :: b, h => by
    rw [List.cons_append, List.cons_append, ltL_cons, ltL_cons, ltL_app (Nat.succ.inj h)]
    constructor
    · rintro (q | ⟨rfl, q | ⟨rfl, q⟩⟩)
      · exact .inl (.inl q)
      · exact .inl (.inr ⟨rfl, q⟩)
      · exact .inr ⟨rfl, q⟩
    · rintro ((q | ⟨rfl, q⟩) | ⟨e, q⟩)
      · exact .inl q
      · exact .inr ⟨rfl, .inl q⟩
      · cases e; exact .inr ⟨rfl, .inr ⟨rfl, q⟩⟩
/-- none is greater than the best -/
theorem bestR_max {rs : List (List Int)} : ∀ {n i : Nat}, i ≤ n → ltL (rs.getD (bestR rs n) []) (rs.getD i []) = false
  | 0, i, h => by rw [Nat.le_zero.mp h]; exact ltL_irr
  | n + 1, i, h => by
    unfold bestR
    by_cases q : ltL (rs.getD (bestR rs n) []) (rs.getD (n + 1) []) = true
    · rw [if_pos q]
      by_cases e : i = n + 1
      · rw [e]; exact ltL_irr
      · have ih := bestR_max (rs := rs) (n := n) (i := i) (by omega)
        by_cases e2 : rs.getD (n + 1) [] = rs.getD i []
        · rw [e2]; exact ltL_irr
        · cases q2 : ltL (rs.getD (n + 1) []) (rs.getD i []) with
          | false => rfl
          | true => rw [ltL_tr q q2] at ih; cases ih
    · rw [if_neg q]
      by_cases e : i = n + 1
      · rw [e]; exact Bool.eq_false_iff.mpr q
      · exact bestR_max (by omega)
theorem bestOf_max {rw : AV → List Int} {ps : List AV} {p : AV} (hp : p ∈ ps) : ltL (bestOf rw ps) (rw p) = false := by
  obtain ⟨i, hi, e⟩ := List.mem_iff_getElem.mp hp
  have := bestR_max (rs := ps.map rw) (n := ps.length - 1) (i := i) (by omega)
  rwa [show (ps.map rw).getD i [] = rw p by rw [List.getD_eq_getElem?_getD, List.getElem?_map, List.getElem?_eq_getElem hi, e]; rfl] at this
/-- two rising lists of the same items are one -/
theorem rise_eq {α : Type} {lt : α → α → Prop} (irr : ∀ a, ¬ lt a a) (as : ∀ a b, lt a b → ¬ lt b a) : ∀ {l m : List α}, l.Pairwise lt → m.Pairwise lt → (∀ x, x ∈ l ↔ x ∈ m) → l = m
  | [], [], _, _, _ => rfl
  | [], b :: m, _, _, h => absurd ((h b).mpr List.mem_cons_self) List.not_mem_nil
  | a :: l, [], _, _, h => absurd ((h a).mp List.mem_cons_self) List.not_mem_nil
  | a :: l, b :: m, hl, hm, h => by
    rw [List.pairwise_cons] at hl hm
    have e : a = b := by
      rcases List.mem_cons.mp ((h a).mp List.mem_cons_self) with q | q
      · exact q
      · rcases List.mem_cons.mp ((h b).mpr List.mem_cons_self) with q2 | q2
        · exact q2.symm
        · exact absurd (hl.1 b q2) (as _ _ (hm.1 a q))
    subst e
    rw [rise_eq irr as hl.2 hm.2 fun x => ?_]
    have hx := h x
    constructor
    · intro q
      exact (List.mem_cons.mp (hx.mp (List.mem_cons_of_mem _ q))).resolve_left fun z => irr a (by have := hl.1 x q; rwa [z] at this)
    · intro q
      exact (List.mem_cons.mp (hx.mpr (List.mem_cons_of_mem _ q))).resolve_left fun z => irr a (by have := hm.1 x q; rwa [z] at this)
end Mine.Internal

namespace Mine.Internal
open PySem PySem.W PyProof.Rows PySem.Calls PySem.SeqAt

noncomputable def lev (rw : AV → List Int) (x : AV) : Nat := (rw x).tail.length
section
variable {G : Gr} {N ks : List AV} {rw : AV → List Int}
theorem RwOk.ind {P : AV → Prop} (R : RwOk G N ks rw) (h : ∀ x ∈ ks, (∀ p ∈ gp G x, p ∈ ks ∧ P p) → P x) : ∀ x ∈ ks, P x := by
  have key : ∀ n, ∀ pre post, ks = pre ++ post → pre.length = n → ∀ x ∈ pre, P x := by
    intro n
    induction n with
    | zero => intro pre post e hl x hx; rw [List.length_eq_zero_iff.mp hl] at hx; cases hx
    | succ n ih =>
      intro pre post e hl x hx
      have hne : pre ≠ [] := fun z => by rw [z] at hl; cases hl
      obtain ⟨pre', y, rfl⟩ : ∃ l y, pre = l ++ [y] := ⟨_, _, (List.dropLast_concat_getLast hne).symm⟩
      rw [List.append_assoc] at e
      have ih' := ih pre' _ e (by rw [List.length_append] at hl; exact Nat.succ.inj hl)
      rcases List.mem_append.mp hx with hx | hx
      · exact ih' x hx
      · rw [List.mem_singleton.mp hx]
        exact h y (by rw [e]; simp) fun p hp => ⟨R.prev' (by rw [e]; simp) p hp, ih' p (R.prev pre' y post e p hp)⟩
  exact fun x hx => key _ ks [] (List.append_nil _).symm rfl x hx
/-- a row's head is its length -/
theorem RwOk.hd (R : RwOk G N ks rw) : ∀ x ∈ ks, rw x = (lev rw x : Int) :: (rw x).tail ∧ 1 ≤ lev rw x := R.ind fun x hx ih => by
  have hv := R.val x hx
  unfold lev
  generalize rw x = r at hv
  unfold rowF at hv
  by_cases q : gp G x = []
  · rw [if_pos q] at hv
    subst hv; exact ⟨rfl, Nat.le_refl 1⟩
  · rw [if_neg q] at hv
    obtain ⟨p, hp, e⟩ := bestOf_mem rw q
    obtain ⟨h1, _⟩ := (ih p hp).2
    rw [e] at hv
    subst hv
    rw [List.tail_cons, List.length_append, List.length_singleton]
    refine ⟨?_, Nat.le_add_left 1 _⟩
    congr 1
    rw [h1]; unfold lev; simp
theorem RwOk.one (R : RwOk G N ks rw) {x : AV} (hx : x ∈ ks) (q : gp G x = []) : rw x = [1, (N.idxOf x : Int)] := by
  rw [R.val x hx]; unfold rowF; rw [if_pos q]
theorem RwOk.up (R : RwOk G N ks rw) {x : AV} (hx : x ∈ ks) (q : gp G x ≠ []) : ∃ p ∈ gp G x, bestOf rw (gp G x) = rw p ∧ rw x = (lev rw p + 1 : Int) :: ((rw p).tail ++ [((G.map (·.1)).idxOf x : Int)]) ∧ lev rw x = lev rw p + 1 := by
  obtain ⟨p, hp, e⟩ := bestOf_mem rw q
  have h1 : rw x = (lev rw p + 1 : Int) :: ((rw p).tail ++ [((G.map (·.1)).idxOf x : Int)]) := by
    rw [R.val x hx]; unfold rowF; rw [if_neg q, e]
    congr 1
    rw [(R.hd p (R.prev' hx p hp)).1]; rfl
  refine ⟨p, hp, e, h1, ?_⟩
  unfold lev; rw [h1, List.tail_cons, List.length_append]; rfl
theorem RwOk.lv (R : RwOk G N ks rw) {x y : AV} (hx : x ∈ ks) (hy : y ∈ ks) (h : lev rw x < lev rw y) : ltL (rw x) (rw y) = true := by
  rw [(R.hd x hx).1, (R.hd y hy).1, ltL_cons]
  exact .inl (Int.ofNat_lt.mpr h)
theorem RwOk.down (R : RwOk G N ks rw) {x p : AV} (hx : x ∈ ks) (hp : p ∈ gp G x) : lev rw p < lev rw x := by
  obtain ⟨b, hb, e, _, h2⟩ := R.up hx (List.ne_nil_of_mem hp)
  rw [h2]
  refine Nat.lt_succ_of_le (Nat.le_of_not_lt fun z => ?_)
  have := bestOf_max (rw := rw) hp
  rw [e, R.lv (R.prev' hx b hb) (R.prev' hx p hp) z] at this
  cases this
theorem idx_inj {l : List AV} {x y : AV} (hx : x ∈ l) (hy : y ∈ l) (h : l.idxOf x = l.idxOf y) : x = y := by
  have h1 := List.getElem_idxOf (List.idxOf_lt_length_of_mem hx)
  have h2 := List.getElem_idxOf (List.idxOf_lt_length_of_mem hy)
  rw [← h1, ← h2]; congr 1
theorem gp_in {x : AV} (h : gp G x ≠ []) : x ∈ G.map (·.1) := Classical.byContradiction fun z => h (gp_no z)
theorem RwOk.inj (R : RwOk G N ks rw) {x y : AV} (hx : x ∈ ks) (hy : y ∈ ks) (h : rw x = rw y) : x = y := by
  have hl : lev rw x = lev rw y := by unfold lev; rw [h]
  by_cases q : gp G x = []
  · by_cases q2 : gp G y = []
    · rw [R.one hx q, R.one hy q2] at h
      exact idx_inj (R.sub x hx) (R.sub y hy) (Int.ofNat.inj (List.cons.inj (List.cons.inj h).2).1)
    · obtain ⟨p, hp, _, _, e⟩ := R.up hy q2
      have h1 : lev rw x = 1 := by unfold lev; rw [R.one hx q]; rfl
      have := (R.hd p (R.prev' hy p hp)).2
      omega
  · obtain ⟨p, hp, _, e1, e2⟩ := R.up hx q
    by_cases q2 : gp G y = []
    · have h1 : lev rw y = 1 := by unfold lev; rw [R.one hy q2]; rfl
      have := (R.hd p (R.prev' hx p hp)).2
      omega
    · obtain ⟨p', hp', _, e1', _⟩ := R.up hy q2
      rw [e1, e1', List.cons.injEq] at h
      have := List.append_inj_right' h.2 rfl
      exact idx_inj (gp_in q) (gp_in q2) (Int.ofNat.inj (List.cons.inj this).1)
theorem RwOk.tot (R : RwOk G N ks rw) : Tot (fun i j => ltL ((ks.map rw).getD i []) ((ks.map rw).getD j [])) ks.length := by
  have g : ∀ i (hi : i < ks.length), (ks.map rw).getD i [] = rw ks[i] := fun i hi => by
    rw [List.getD_eq_getElem?_getD, List.getElem?_map, List.getElem?_eq_getElem hi]; rfl
  refine ⟨fun i _ => ltL_irr, fun i j k _ _ _ h1 h2 => ltL_tr h1 h2, fun i j hi hj hne => ?_⟩
  rw [g i hi, g j hj]
  exact ltL_tot fun z => hne (by
    have := R.inj (List.getElem_mem hi) (List.getElem_mem hj) z
    exact (List.getElem_inj R.nd).mp this)
/-- the sorted keys -/
theorem sorted_ls {p : Array Nat} (h : Sorted (ks.map rw) ks.length p) : (p.toList.map fun i => ks.getD i .none).Pairwise (fun x y => ltL (rw x) (rw y) = true) ∧ ∀ x, x ∈ (p.toList.map fun i => ks.getD i .none) ↔ x ∈ ks := by
  obtain ⟨P, U⟩ := h
  have gk : ∀ i (hi : i < p.toList.length), p.toList[i] = p.getD i 0 := fun i hi => by
    rw [Array.getElem_toList]
    exact (getD_of (Array.getElem?_eq_getElem (by simpa using hi))).symm
  have hsz : p.toList.length = ks.length := by rw [Array.length_toList]; exact P.sz
  have hk : ∀ i (hi : i < ks.length), ks.getD i .none = ks[i] := fun i hi => by rw [List.getD_eq_getElem?_getD, List.getElem?_eq_getElem hi]; rfl
  refine ⟨?_, fun x => ⟨fun hx => ?_, fun hx => ?_⟩⟩
  · rw [List.pairwise_map, List.pairwise_iff_getElem]
    intro i j hi hj hij
    have : ltL ((ks.map rw).getD (p.getD i 0) []) ((ks.map rw).getD (p.getD j 0) []) = true := U i j hij (by omega)
    have li := P.lt i (by omega)
    have lj := P.lt j (by omega)
    rw [gk i hi, gk j hj, hk _ li, hk _ lj]
    rw [List.getD_eq_getElem?_getD, List.getElem?_map, List.getElem?_eq_getElem li, List.getD_eq_getElem?_getD, List.getElem?_map, List.getElem?_eq_getElem lj] at this
    exact this
  · obtain ⟨i, hi, rfl⟩ := List.mem_map.mp hx
    obtain ⟨j, hj, rfl⟩ := List.mem_iff_getElem.mp hi
    rw [gk j hj, hk _ (P.lt j (by omega))]
    exact List.getElem_mem _
  · have hnd : p.toList.Nodup := by
      rw [List.nodup_iff_pairwise_ne, List.pairwise_iff_getElem]
      intro i j hi hj hij z
      rw [gk i hi, gk j hj] at z
      have := P.inj i j (by omega) (by omega) z
      omega
    obtain ⟨j, hj, rfl⟩ := List.mem_iff_getElem.mp hx
    refine List.mem_map.mpr ⟨j, ?_, hk j hj⟩
    -- all places occur
    refine Classical.byContradiction fun z => ?_
    have := nodup_le (l := j :: p.toList) (os := List.range ks.length) (List.nodup_cons.mpr ⟨z, hnd⟩) fun y hy => by
      rcases List.mem_cons.mp hy with rfl | hy
      · exact List.mem_range.mpr hj
      · obtain ⟨i, hi, rfl⟩ := List.mem_iff_getElem.mp hy
        rw [gk i hi]; exact List.mem_range.mpr (P.lt i (by omega))
    rw [List.length_cons, List.length_range] at this
    omega
end
end Mine.Internal

namespace Mine.Internal
open PySem PySem.W PyProof.Rows PySem.Calls PySem.SeqAt

/-! the groups are the levels -/
noncomputable def lvL (rw : AV → List Int) (ls : List AV) (k : Nat) : List AV := ls.filter fun x => decide (lev rw x = k)
theorem lvL_mem {rw : AV → List Int} {ls : List AV} {k : Nat} {x : AV} : x ∈ lvL rw ls k ↔ x ∈ ls ∧ lev rw x = k := by unfold lvL; rw [List.mem_filter, decide_eq_true_eq]
theorem grp_more {rw : AV → List Int} {gs : List (List AV)} : ∀ {b c : List AV}, (∀ x ∈ b, (rw x).headD 0 = (gs.length : Int) + 1) → b.foldl (grpStep rw) (gs ++ [c]) = gs ++ [c ++ b]
  | [], c, _ => by simp
  | x :: b, c, h => by
    have hx := h x List.mem_cons_self
    rw [List.foldl_cons]
    have : grpStep rw (gs ++ [c]) x = gs ++ [c ++ [x]] := by
      unfold grpStep
      rw [if_neg (by rw [hx, List.length_append, List.length_singleton]; omega), List.dropLast_concat, List.getLastD_concat]
    rw [this, grp_more fun y hy => h y (List.mem_cons_of_mem _ hy), List.append_assoc]; rfl
theorem grp_block {rw : AV → List Int} {gs : List (List AV)} {b : List AV} (hb : b ≠ []) (h : ∀ x ∈ b, (rw x).headD 0 = (gs.length : Int) + 1) : b.foldl (grpStep rw) gs = gs ++ [b] := by
  cases b with
  | nil => exact (hb rfl).elim
  | cons x b =>
    have hx := h x List.mem_cons_self
    rw [List.foldl_cons]
    have : grpStep rw gs x = gs ++ [[x]] := by unfold grpStep; rw [if_pos (by rw [hx]; omega)]
    rw [this, grp_more fun y hy => h y (List.mem_cons_of_mem _ hy)]; rfl
theorem grp_levels {rw : AV → List Int} {f : Nat → List AV} : ∀ {m : Nat}, (∀ k, k < m → f k ≠ [] ∧ ∀ x ∈ f k, (rw x).headD 0 = (k : Int) + 1) → grpF rw ((List.range m).flatMap f) = (List.range m).map f
  | 0, _ => rfl
  | m + 1, h => by
    have ih := grp_levels (rw := rw) (f := f) (m := m) fun k hk => h k (Nat.lt_succ_of_lt hk)
    obtain ⟨h1, h2⟩ := h m (Nat.lt_succ_self m)
    rw [List.range_succ, List.flatMap_append, List.map_append]
    unfold grpF at ih ⊢
    rw [List.foldl_append, ih, List.flatMap_singleton]
    exact grp_block h1 fun x hx => by rw [h2 x hx, List.length_map, List.length_range]
section
variable {G : Gr} {N ks ls : List AV} {rw : AV → List Int}
noncomputable abbrev Rise (rw : AV → List Int) (l : List AV) : Prop := l.Pairwise fun x y => ltL (rw x) (rw y) = true
theorem rise_of {l m : List AV} (hl : Rise rw l) (hm : Rise rw m) (h : ∀ x, x ∈ l ↔ x ∈ m) : l = m :=
  rise_eq (fun a q => by rw [ltL_irr] at q; cases q) (fun a b q q2 => by rw [ltL_asym q] at q2; cases q2) hl hm h
theorem RwOk.levels (R : RwOk G N ks rw) (hr : Rise rw ls) (hm : ∀ x, x ∈ ls ↔ x ∈ ks) {m : Nat} (h : ∀ x ∈ ks, lev rw x ≤ m) : ls = (List.range m).flatMap fun k => lvL rw ls (k + 1) := by
  refine rise_of hr ?_ fun x => ?_
  · refine List.pairwise_flatMap.mpr ⟨fun k _ => hr.sublist List.filter_sublist, ?_⟩
    refine List.pairwise_lt_range.imp fun {k j} hkj x hx y hy => ?_
    obtain ⟨x1, x2⟩ := lvL_mem.mp hx
    obtain ⟨y1, y2⟩ := lvL_mem.mp hy
    exact R.lv ((hm x).mp x1) ((hm y).mp y1) (by omega)
  · rw [List.mem_flatMap]
    constructor
    · intro hx
      have h1 := (R.hd x ((hm x).mp hx)).2
      have h2 := h x ((hm x).mp hx)
      exact ⟨lev rw x - 1, List.mem_range.mpr (by omega), lvL_mem.mpr ⟨hx, by omega⟩⟩
    · rintro ⟨k, _, hx⟩
      exact (lvL_mem.mp hx).1
/-- the greatest level -/
theorem max_lev : ∀ (l : List AV), ∃ m, (∀ x ∈ l, lev rw x ≤ m) ∧ (0 < m → ∃ x ∈ l, lev rw x = m)
  | [] => ⟨0, fun _ h => absurd h List.not_mem_nil, fun h => absurd h (Nat.lt_irrefl 0)⟩
  | a :: l => by
    obtain ⟨m, h1, h2⟩ := max_lev l
    by_cases q : lev rw a ≤ m
    · refine ⟨m, fun x hx => ?_, fun h => let ⟨x, a, b⟩ := h2 h; ⟨x, List.mem_cons_of_mem _ a, b⟩⟩
      rcases List.mem_cons.mp hx with rfl | hx
      · exact q
      · exact h1 x hx
    · refine ⟨lev rw a, fun x hx => ?_, fun _ => ⟨a, List.mem_cons_self, rfl⟩⟩
      rcases List.mem_cons.mp hx with rfl | hx
      · exact Nat.le_refl _
      · exact Nat.le_trans (h1 x hx) (Nat.le_of_not_le q)
theorem RwOk.below (R : RwOk G N ks rw) : ∀ (j k : Nat), 1 ≤ k → (∃ x ∈ ks, lev rw x = k + j) → ∃ x ∈ ks, lev rw x = k
  | 0, k, _, h => h
  | j + 1, k, hk, ⟨x, hx, e⟩ => by
    have q : gp G x ≠ [] := fun z => by
      have : lev rw x = 1 := by unfold lev; rw [R.one hx z]; rfl
      omega
    obtain ⟨p, hp, _, _, e2⟩ := R.up hx q
    exact R.below j k hk ⟨p, R.prev' hx p hp, by omega⟩
theorem RwOk.groups (R : RwOk G N ks rw) (hr : Rise rw ls) (hm : ∀ x, x ∈ ls ↔ x ∈ ks) : ∃ m, grpF rw ls = (List.range m).map (fun k => lvL rw ls (k + 1)) ∧ (∀ x ∈ ks, lev rw x ≤ m) ∧ ∀ k, k < m → lvL rw ls (k + 1) ≠ [] := by
  obtain ⟨m, h1, h2⟩ := max_lev (rw := rw) ks
  have hne : ∀ k, k < m → lvL rw ls (k + 1) ≠ [] := fun k hk => by
    obtain ⟨x, hx, e⟩ := R.below (m - (k + 1)) (k + 1) (Nat.le_add_left 1 k) (by
      obtain ⟨x, hx, e⟩ := h2 (by omega)
      exact ⟨x, hx, by omega⟩)
    exact List.ne_nil_of_mem (lvL_mem.mpr ⟨(hm x).mpr hx, e⟩)
  refine ⟨m, ?_, h1, hne⟩
  have e := R.levels hr hm h1
  have := grp_levels (rw := rw) (f := fun k => lvL rw ls (k + 1)) (m := m) fun k hk => ⟨hne k hk, fun x hx => by
    obtain ⟨x1, x2⟩ := lvL_mem.mp hx
    rw [(R.hd x ((hm x).mp x1)).1, List.headD_cons, x2]; rfl⟩
  rw [← e] at this
  exact this

/-! edges -/
noncomputable def edG (G : Gr) : Eds := G.flatMap fun q => q.2.map fun p => (p, q.1)
theorem outE_app {E F : Eds} {v : AV} : outE (E ++ F) v = outE E v ++ outE F v := by unfold outE; rw [List.filter_append, List.map_append]
theorem outE_one {x v : AV} : ∀ {ps : List AV}, outE (ps.map fun p => (p, x)) v = List.replicate (ps.count v) x
  | [] => rfl
  | p :: ps => by
    have ih := outE_one (x := x) (v := v) (ps := ps)
    unfold outE at ih ⊢
    rw [List.map_cons, List.filter_cons, List.count_cons]
    by_cases e : p = v
    · simp only [e, decide_true, if_true, List.map_cons, ih, beq_self_eq_true, List.replicate_succ]
    · simp only [e, decide_false, Bool.false_eq_true, if_false, ih, beq_iff_eq, Nat.add_zero]
theorem outE_edG {v : AV} : ∀ {G : Gr}, outE (edG G) v = G.flatMap fun q => List.replicate (q.2.count v) q.1
  | [] => rfl
  | q :: G => by
    have ih := outE_edG (v := v) (G := G)
    unfold edG at ih ⊢
    rw [List.flatMap_cons, outE_app, outE_one, ih, List.flatMap_cons]
theorem edG_mem {e : AV × AV} : e ∈ edG G ↔ ∃ q ∈ G, e.2 = q.1 ∧ e.1 ∈ q.2 := by
  unfold edG
  rw [List.mem_flatMap]
  constructor
  · rintro ⟨q, hq, h⟩
    obtain ⟨p, hp, rfl⟩ := List.mem_map.mp h
    exact ⟨q, hq, rfl, hp⟩
  · rintro ⟨q, hq, h1, h2⟩
    exact ⟨q, hq, List.mem_map.mpr ⟨e.1, h2, by rw [← h1]⟩⟩
theorem edG_gp (hn : (G.map (·.1)).Nodup) {p x : AV} : (p, x) ∈ edG G ↔ p ∈ gp G x := by
  rw [edG_mem]
  constructor
  · rintro ⟨q, hq, rfl, hp⟩
    obtain ⟨i, hi⟩ := List.mem_iff_getElem?.mp hq
    rw [gp_of hn hi]; exact hp
  · intro hp
    obtain ⟨q, hq, e⟩ := List.mem_map.mp (gp_in (G := G) (x := x) (List.ne_nil_of_mem hp))
    obtain ⟨i, hi⟩ := List.mem_iff_getElem?.mp hq
    subst e
    rw [gp_of hn hi] at hp
    exact ⟨q, hq, rfl, hp⟩
theorem inE_zero (hn : (G.map (·.1)).Nodup) {dn : List AV} {x : AV} : inE (edG G) dn x = 0 ↔ ∀ p ∈ gp G x, p ∈ dn := by
  unfold inE
  rw [List.countP_eq_zero]
  constructor
  · intro h p hp
    refine Classical.byContradiction fun z => h (p, x) ((edG_gp hn).mpr hp) ?_
    rw [decide_eq_true (show (p, x).2 = x from rfl), decide_eq_true (show (p, x).1 ∉ dn from z)]; rfl
  · rintro h ⟨p, y⟩ he q
    rw [Bool.and_eq_true, decide_eq_true_eq, decide_eq_true_eq] at q
    obtain ⟨rfl, q⟩ := q
    exact q (h p ((edG_gp hn).mp he))
end
end Mine.Internal

namespace Mine.Internal
open PySem PySem.W PyProof.Rows PySem.Calls PySem.SeqAt

section
variable {G : Gr} {N ks ls L : List AV} {rw : AV → List Int} {k : Nat}
/-- x gets ready when v is done -/
noncomputable def rdy (rw : AV → List Int) (ks : List AV) (v : AV) (q : AV × List AV) : Bool := decide (q.1 ∈ ks) && decide (v ∈ q.2) && decide (bestOf rw q.2 = rw v)
theorem rdy_iff {v : AV} {q : AV × List AV} : rdy rw ks v q = true ↔ q.1 ∈ ks ∧ v ∈ q.2 ∧ bestOf rw q.2 = rw v := by
  unfold rdy
  rw [Bool.and_eq_true, Bool.and_eq_true, decide_eq_true_eq, decide_eq_true_eq, decide_eq_true_eq, and_assoc]
noncomputable def blk (rw : AV → List Int) (ks : List AV) (w : AV × AV × List AV) : List AV × List AV := if rdy rw ks w.1 w.2 = true then (List.replicate (w.2.2.count w.1 - 1) w.2.1, [w.2.1]) else (List.replicate (w.2.2.count w.1) w.2.1, [])
theorem blk_all {w : AV × AV × List AV} : (blk rw ks w).1 ++ (blk rw ks w).2 = List.replicate (w.2.2.count w.1) w.2.1 := by
  unfold blk
  split
  · rename_i h
    have := List.count_pos_iff.mpr (rdy_iff.mp h).2.1
    show List.replicate (w.2.2.count w.1 - 1) w.2.1 ++ [w.2.1] = _
    rw [← List.replicate_succ', Nat.sub_add_cancel this]
  · exact List.append_nil _
theorem blk_2 {w : AV × AV × List AV} {x : AV} : x ∈ (blk rw ks w).2 ↔ rdy rw ks w.1 w.2 = true ∧ x = w.2.1 := by
  unfold blk
  split
  · rename_i h; exact List.mem_singleton.trans ⟨fun e => ⟨h, e⟩, fun e => e.2⟩
  · rename_i h; exact ⟨fun e => absurd e List.not_mem_nil, fun e => absurd e.1 h⟩
noncomputable def prs (L : List AV) (G : Gr) : List (AV × AV × List AV) := L.flatMap fun v => G.map fun q => (v, q)
theorem prs_mem {w : AV × AV × List AV} : w ∈ prs L G ↔ w.1 ∈ L ∧ w.2 ∈ G := by
  unfold prs
  rw [List.mem_flatMap]
  constructor
  · rintro ⟨v, hv, h⟩
    obtain ⟨q, hq, rfl⟩ := List.mem_map.mp h
    exact ⟨hv, hq⟩
  · rintro ⟨h1, h2⟩
    exact ⟨w.1, h1, List.mem_map.mpr ⟨w.2, h2, rfl⟩⟩
noncomputable def plc (G : Gr) (x : AV) : Nat := (G.map (·.1)).idxOf x
/-- the pairs rise -/
noncomputable def Rel (G : Gr) (rw : AV → List Int) (w w' : AV × AV × List AV) : Prop := ltL (rw w.1) (rw w'.1) = true ∨ w.1 = w'.1 ∧ plc G w.2.1 < plc G w'.2.1
theorem idx_at {l : List AV} (hn : l.Nodup) {i : Nat} (hi : i < l.length) : l.idxOf l[i] = i := by
  have h1 := List.idxOf_lt_length_of_mem (List.getElem_mem hi)
  exact (List.getElem_inj hn).mp (List.getElem_idxOf h1)
theorem prs_rel (hn : (G.map (·.1)).Nodup) (hL : Rise rw L) : (prs L G).Pairwise (Rel G rw) := by
  refine List.pairwise_flatMap.mpr ⟨fun v _ => ?_, hL.imp fun {v v'} h x hx y hy => ?_⟩
  · rw [List.pairwise_map, List.pairwise_iff_getElem]
    intro i j hi hj hij
    refine .inr ⟨rfl, ?_⟩
    have e : ∀ i (hi : i < G.length), plc G G[i].1 = i := fun i hi => by
      have := idx_at hn (i := i) (by rw [List.length_map]; exact hi)
      rwa [List.getElem_map] at this
    show plc G G[i].1 < plc G G[j].1
    rw [e i hi, e j hj]; exact hij
  · obtain ⟨q, _, rfl⟩ := List.mem_map.mp hx
    obtain ⟨q', _, rfl⟩ := List.mem_map.mp hy
    exact .inl h
theorem gp_eq (hn : (G.map (·.1)).Nodup) {q : AV × List AV} (hq : q ∈ G) : gp G q.1 = q.2 := by
  obtain ⟨i, hi⟩ := List.mem_iff_getElem?.mp hq
  exact gp_of hn hi
/-- what gets ready by v lies one level up -/
theorem RwOk.nxt (R : RwOk G N ks rw) (hn : (G.map (·.1)).Nodup) {v : AV} {q : AV × List AV} (hq : q ∈ G) (h : rdy rw ks v q = true) : v ∈ ks ∧ rw q.1 = (lev rw v + 1 : Int) :: ((rw v).tail ++ [(plc G q.1 : Int)]) ∧ lev rw q.1 = lev rw v + 1 := by
  obtain ⟨h1, h2, h3⟩ := rdy_iff.mp h
  have e := gp_eq hn hq
  have hv : v ∈ ks := R.prev' h1 v (by rw [e]; exact h2)
  obtain ⟨p, hp, e1, e2, e3⟩ := R.up h1 (by rw [e]; exact List.ne_nil_of_mem h2)
  rw [e, h3] at e1
  have : v = p := R.inj hv (R.prev' h1 p hp) e1
  subst this
  exact ⟨hv, e2, e3⟩
theorem lvl_tail {x y : AV} (R : RwOk G N ks rw) (hx : x ∈ ks) (hy : y ∈ ks) (e : lev rw x = lev rw y) (h : ltL (rw x) (rw y) = true) : ltL (rw x).tail (rw y).tail = true := by
  rw [(R.hd x hx).1, (R.hd y hy).1, e, ltL_cons] at h
  exact (h.resolve_left (Int.lt_irrefl _)).2
/-- the next level comes in its order -/
theorem RwOk.next_eq (R : RwOk G N ks rw) (hn : (G.map (·.1)).Nodup) (hr : Rise rw ls) (hm : ∀ x, x ∈ ls ↔ x ∈ ks) (hk : 1 ≤ k) : ((prs (lvL rw ls k) G).map (blk rw ks)).flatMap (·.2) = lvL rw ls (k + 1) := by
  have hL : Rise rw (lvL rw ls k) := hr.sublist List.filter_sublist
  refine rise_of ?_ (hr.sublist List.filter_sublist) fun x => ?_
  · rw [List.flatMap_map]
    refine List.pairwise_flatMap.mpr ⟨fun w _ => ?_, List.Pairwise.imp_of_mem ?_ (prs_rel hn hL)⟩
    · unfold blk
      split
      · exact List.pairwise_singleton ..
      · exact .nil
    · intro w w' hw hw' hrel x hx y hy
      obtain ⟨r1, rfl⟩ := blk_2.mp hx
      obtain ⟨r2, rfl⟩ := blk_2.mp hy
      obtain ⟨a1, a2⟩ := prs_mem.mp hw
      obtain ⟨b1, b2⟩ := prs_mem.mp hw'
      obtain ⟨c1, c2, _⟩ := R.nxt hn a2 r1
      obtain ⟨d1, d2, _⟩ := R.nxt hn b2 r2
      have el : lev rw w.1 = lev rw w'.1 := (lvL_mem.mp a1).2.trans (lvL_mem.mp b1).2.symm
      rw [c2, d2, ltL_cons]
      refine .inr ⟨by rw [el], (ltL_app (by have := el; unfold lev at this; exact this)).mpr ?_⟩
      rcases hrel with h | ⟨h1, h2⟩
      · exact .inl (lvl_tail R c1 d1 el h)
      · exact .inr ⟨by rw [h1], Int.ofNat_lt.mpr h2⟩
  · rw [List.flatMap_map, List.mem_flatMap, lvL_mem, hm]
    constructor
    · rintro ⟨w, hw, hx⟩
      obtain ⟨r1, rfl⟩ := blk_2.mp hx
      obtain ⟨a1, a2⟩ := prs_mem.mp hw
      obtain ⟨_, _, e⟩ := R.nxt hn a2 r1
      exact ⟨(rdy_iff.mp r1).1, by rw [e, (lvL_mem.mp a1).2]⟩
    · rintro ⟨hx, e⟩
      have q : gp G x ≠ [] := fun z => by
        have : lev rw x = 1 := by unfold lev; rw [R.one hx z]; rfl
        omega
      obtain ⟨p, hp, e1, _, e3⟩ := R.up hx q
      obtain ⟨y, hy, rfl⟩ := List.mem_map.mp (gp_in q)
      rw [gp_eq hn hy] at hp e1
      have hpk : p ∈ ks := R.prev' hx p (by rw [gp_eq hn hy]; exact hp)
      exact ⟨(p, y), prs_mem.mpr ⟨lvL_mem.mpr ⟨(hm p).mpr hpk, by show lev rw p = k; omega⟩, hy⟩, blk_2.mpr ⟨rdy_iff.mpr ⟨hx, hp, e1⟩, rfl⟩⟩
/-- one round -/
theorem RwOk.turn (R : RwOk G N ks rw) (hn : (G.map (·.1)).Nodup) (hr : Rise rw ls) (hm : ∀ x, x ∈ ls ↔ x ∈ ks) (hk : 1 ≤ k) (hG : ∀ q ∈ G, q.1 ∈ N) (hD : ∀ x ∈ N, (∀ p ∈ gp G x, p ∈ ks) → x ∈ ks) (hnd : ls.Nodup) {dn : List AV} (hdn : ∀ x, x ∈ dn ↔ x ∈ ks ∧ lev rw x < k) :
    zs (fun x => (inE (edG G) dn x : Int)) ((lvL rw ls k).flatMap (outE (edG G))) = lvL rw ls (k + 1) := by
  have hL : Rise rw (lvL rw ls k) := hr.sublist List.filter_sublist
  have hLn : (lvL rw ls k).Nodup := hnd.sublist List.filter_sublist
  have hLd : ∀ v ∈ lvL rw ls k, v ∉ dn := fun v hv z => by
    have := ((hdn v).mp z).2
    have := (lvL_mem.mp hv).2
    omega
  have hT : (lvL rw ls k).flatMap (outE (edG G)) = ((prs (lvL rw ls k) G).map (blk rw ks)).flatMap (fun b => b.1 ++ b.2) := by
    rw [List.flatMap_map]
    unfold prs
    rw [List.flatMap_assoc]
    congr 1
    funext v
    rw [outE_edG, List.flatMap_map]
    congr 1
    funext q
    exact (blk_all (rw := rw) (ks := ks) (w := (v, q))).symm
  have hB := R.next_eq (k := k) hn hr hm hk
  rw [← hB, hT]
  refine zs_blocks (fun x hx => ?_) fun bl1 b bl2 e => ?_
  · rw [hB, ← hT] at *
    have hsp := inE_split (E := edG G) (x := x) hLn hLd
    have hdl : ∀ p, p ∈ dn ++ lvL rw ls k ↔ p ∈ ks ∧ lev rw p < k + 1 := fun p => by
      rw [List.mem_append, hdn, lvL_mem, hm]
      constructor
      · rintro (⟨a, b⟩ | ⟨a, b⟩)
        · exact ⟨a, by omega⟩
        · exact ⟨a, by omega⟩
      · rintro ⟨a, b⟩
        by_cases z : lev rw p < k
        · exact .inl ⟨a, z⟩
        · exact .inr ⟨a, by omega⟩
    constructor
    · intro hb
      obtain ⟨h1, h2⟩ := lvL_mem.mp hb
      have : inE (edG G) (dn ++ lvL rw ls k) x = 0 := (inE_zero hn).mpr fun p hp => (hdl p).mpr ⟨R.prev' ((hm x).mp h1) p hp, by rw [← h2]; exact R.down ((hm x).mp h1) hp⟩
      rw [hsp, this, Nat.add_zero]
    · intro hb
      have : inE (edG G) (dn ++ lvL rw ls k) x ≠ 0 := fun z => hb (by
        have hp := (inE_zero hn).mp z
        obtain ⟨v, hv, hx⟩ := List.mem_flatMap.mp hx
        rw [outE_edG, List.mem_flatMap] at hx
        obtain ⟨q, hq, hx⟩ := hx
        obtain ⟨hc, rfl⟩ := List.mem_replicate.mp hx
        have hvq : v ∈ gp G q.1 := by rw [gp_eq hn hq]; exact List.count_pos_iff.mp (Nat.pos_of_ne_zero hc)
        have hxk : q.1 ∈ ks := hD _ (hG q hq) fun p h => ((hdl p).mp (hp p h)).1
        obtain ⟨b, hb1, _, _, hb3⟩ := R.up hxk (List.ne_nil_of_mem hvq)
        have h1 := R.down hxk hvq
        have h2 := ((hdl b).mp (hp b hb1)).2
        have h3 := (lvL_mem.mp hv).2
        exact lvL_mem.mpr ⟨(hm _).mpr hxk, by omega⟩)
      omega
  · have hp : ((prs (lvL rw ls k) G).map (blk rw ks)).Pairwise fun b b' => ∀ x ∈ b.2, x ∉ b'.1 ++ b'.2 := by
      rw [List.pairwise_map]
      refine List.Pairwise.imp_of_mem ?_ (prs_rel hn hL)
      intro w w' hw hw' hrel x hx hx'
      obtain ⟨r1, rfl⟩ := blk_2.mp hx
      rw [blk_all] at hx'
      obtain ⟨hc, e⟩ := List.mem_replicate.mp hx'
      obtain ⟨a1, a2⟩ := prs_mem.mp hw
      obtain ⟨b1, b2⟩ := prs_mem.mp hw'
      have e2 : w.2.2 = w'.2.2 := by rw [← gp_eq hn a2, ← gp_eq hn b2, e]
      have hb := (rdy_iff.mp r1).2.2
      have := bestOf_max (rw := rw) (p := w'.1) (ps := w.2.2) (by rw [e2]; exact List.count_pos_iff.mp (Nat.pos_of_ne_zero hc))
      rw [hb] at this
      rcases hrel with h | ⟨_, h⟩
      · rw [h] at this; cases this
      · rw [e] at h; exact Nat.lt_irrefl _ h
    rw [e, List.pairwise_append, List.pairwise_cons] at hp
    refine ⟨?_, fun x hx z => ?_⟩
    · have hb : b ∈ (prs (lvL rw ls k) G).map (blk rw ks) := by rw [e]; simp
      obtain ⟨w, _, rfl⟩ := List.mem_map.mp hb
      unfold blk
      split
      · simp
      · exact .nil
    · obtain ⟨b', hb', hx'⟩ := List.mem_flatMap.mp z
      exact hp.2.1.1 b' hb' x hx hx'
end
end Mine.Internal

namespace Mine.Internal
open PySem PySem.W PyProof.Rows PySem.Calls PySem.SeqAt

section
variable {G : Gr} {N ks ls : List AV} {rw : AV → List Int}
theorem RwOk.rc (R : RwOk G N ks rw) (hn : (G.map (·.1)).Nodup) (hr : Rise rw ls) (hm : ∀ x, x ∈ ls ↔ x ∈ ks) (hG : ∀ q ∈ G, q.1 ∈ N) (hD : ∀ x ∈ N, (∀ p ∈ gp G x, p ∈ ks) → x ∈ ks) (hnd : ls.Nodup) (hl : ls.length ≤ 90) (hko : ∀ x ∈ ls, KO x) :
    ∀ (j k : Nat) (dn : List AV), 1 ≤ k → (∀ x, x ∈ dn ↔ x ∈ ks ∧ lev rw x < k) → (∀ i, k ≤ i → i < k + j → lvL rw ls i ≠ []) → (∀ x ∈ ks, lev rw x < k + j) → RC (edG G) dn ((List.range' k j).map (lvL rw ls))
  | 0, k, dn, _, _, _, _ => trivial
  | j + 1, k, dn, hk, hdn, hne, hmx => by
    have ih := R.rc hn hr hm hG hD hnd hl hko j (k + 1) (dn ++ lvL rw ls k) (Nat.le_add_left 1 k) (fun x => ?_) (fun i h1 h2 => hne i (by omega) (by omega)) (fun x hx => by have := hmx x hx; omega)
    rw [List.range'_succ, List.map_cons]
    refine ⟨hne k (Nat.le_refl k) (by omega), hnd.sublist List.filter_sublist, fun v hv z => ?_, ⟨Nat.le_trans (List.length_filter_le ..) hl, fun v hv => hko v (lvL_mem.mp hv).1⟩, fun e he h1 z => ?_, ?_, ih⟩
    · have := ((hdn v).mp z).2
      have := (lvL_mem.mp hv).2
      omega
    · have hp : e.1 ∈ gp G e.2 := (edG_gp hn).mp he
      have h2 := (lvL_mem.mp h1).2
      rcases List.mem_append.mp z with z | z
      · obtain ⟨z1, z2⟩ := (hdn _).mp z
        have := R.down z1 hp
        omega
      · obtain ⟨z1, z2⟩ := lvL_mem.mp z
        have := R.down ((hm _).mp z1) hp
        omega
    · rw [R.turn hn hr hm hk hG hD hnd hdn]
      cases j with
      | zero =>
        refine List.eq_nil_iff_forall_not_mem.mpr fun x hx => ?_
        obtain ⟨h1, h2⟩ := lvL_mem.mp hx
        have := hmx x ((hm x).mp h1)
        omega
      | succ j => rw [List.range'_succ]; rfl
    · rw [List.mem_append, hdn, lvL_mem, hm]
      constructor
      · rintro (⟨a, b⟩ | ⟨a, b⟩)
        · exact ⟨a, by omega⟩
        · exact ⟨a, by omega⟩
      · rintro ⟨a, b⟩
        by_cases z : lev rw x < k
        · exact .inl ⟨a, z⟩
        · exact .inr ⟨a, by omega⟩
end

/-! what add makes of the graph -/
theorem uqA_app {S a b : List AV} : uqA S (a ++ b) = uqA (uqA S a) b := by unfold uqA; rw [List.foldl_append]
theorem uqA_ext : ∀ {b S : List AV}, ∃ r, uqA S b = S ++ r
  | [], S => ⟨[], (List.append_nil S).symm⟩
  | y :: b, S => by
    obtain ⟨r, e⟩ := uqA_ext (b := b) (S := if y ∈ S then S else S ++ [y])
    show ∃ r, uqA (if y ∈ S then S else S ++ [y]) b = _
    rw [e]
    split
    · exact ⟨r, rfl⟩
    · exact ⟨y :: r, by rw [List.append_assoc]; rfl⟩
theorem uqA_nd : ∀ {b S : List AV}, S.Nodup → (uqA S b).Nodup
  | [], S, h => h
  | y :: b, S, h => by
    refine uqA_nd (b := b) (S := if y ∈ S then S else S ++ [y]) ?_
    split
    · exact h
    · rename_i q
      refine List.nodup_append.mpr ⟨h, by simp, fun x hx z hz e => q ?_⟩
      rw [← List.mem_singleton.mp hz, ← e]; exact hx
theorem adds_all {k : AV} : ∀ {ps : List AV} {st : SS}, (ps.foldl (fun (s : SS) p => s.succ k p) st).keys = uqA st.keys ps ∧ (∀ y, (ps.foldl (fun (s : SS) p => s.succ k p) st).su y = st.su y ++ List.replicate (ps.count y) k) ∧ (ps.foldl (fun (s : SS) p => s.succ k p) st).np = st.np ∧ (ps.foldl (fun (s : SS) p => s.succ k p) st).nfin = st.nfin ∧ (ps.foldl (fun (s : SS) p => s.succ k p) st).npass = st.npass
  | [], st => ⟨rfl, fun y => (List.append_nil _).symm, rfl, rfl, rfl⟩
  | p :: ps, st => by
    obtain ⟨h1, h2, h3, h4, h5⟩ := adds_all (k := k) (ps := ps) (st := st.succ k p)
    refine ⟨h1, fun y => ?_, h3, h4, h5⟩
    rw [List.foldl_cons, h2, List.count_cons]
    show fset st.su p (st.su p ++ [k]) y ++ _ = _
    by_cases e : p = y
    · subst e
      rw [fset_self, beq_self_eq_true, if_pos rfl, List.replicate_succ, List.append_assoc]; rfl
    · rw [fset_ne (Ne.symm e), if_neg (by rw [beq_iff_eq]; exact e), Nat.add_zero]
theorem suA_eq {x y : AV} : ∀ {ps : List AV} {f : AV → List AV}, suA x f ps y = uqA (f y) (List.replicate (ps.count y) x)
  | [], f => rfl
  | p :: ps, f => by
    show suA x (if x ∈ f p then f else fset f p (f p ++ [x])) ps y = _
    rw [suA_eq, List.count_cons]
    by_cases e : p = y
    · subst e
      rw [beq_self_eq_true, if_pos rfl, List.replicate_succ]
      show _ = uqA (if x ∈ f p then f p else f p ++ [x]) _
      congr 1
      by_cases q : x ∈ f p
      · rw [if_pos q, if_pos q]
      · rw [if_neg q, if_neg q, fset_self]
    · rw [show (p == y) = false from beq_eq_false_iff_ne.mpr e, if_neg (c := false = true) Bool.false_ne_true, Nat.add_zero]
      congr 1
      by_cases q : x ∈ f p
      · rw [if_pos q]
      · rw [if_neg q, fset_ne (Ne.symm e)]
theorem inE_app {E F : Eds} {dn : List AV} {x : AV} : inE (E ++ F) dn x = inE E dn x + inE F dn x := List.countP_append
theorem inE_one {x y : AV} : ∀ {ps : List AV}, inE (ps.map fun p => (p, x)) [] y = if y = x then ps.length else 0
  | [] => by split <;> rfl
  | p :: ps => by
    have ih := inE_one (x := x) (y := y) (ps := ps)
    unfold inE at ih ⊢
    rw [List.map_cons, List.countP_cons, ih]
    by_cases e : y = x
    · subst e; simp
    · simp [e, Ne.symm e]
structure AdOk (G : Gr) (st st' : SS) (s' : List AV × (AV → List AV)) : Prop where
  keys : st'.keys = s'.1
  af : ∀ y, s'.2 y = uqA [] (st'.su y)
  su : ∀ y, st'.su y = st.su y ++ outE (edG G) y
  np : ∀ x, st'.np x = st.np x + (inE (edG G) [] x : Int)
  fin : st'.nfin = st.nfin
  pass : st'.npass = st.npass
theorem ad_all : ∀ {G : Gr} {st : SS} {s : List AV × (AV → List AV)}, st.keys = s.1 → (∀ y, s.2 y = uqA [] (st.su y)) → AdOk G st (G.foldl (fun s q => s.add q.1 q.2) st) (G.foldl (fun s q => (uqA s.1 (q.1 :: q.2), suA q.1 s.2 q.2)) s)
  | [], st, s, h1, h2 => ⟨h1, h2, fun y => (List.append_nil _).symm, fun x => (Int.add_zero _).symm, rfl, rfl⟩
  | q :: G, st, s, h1, h2 => by
    obtain ⟨a1, a2, a3, a4, a5⟩ := adds_all (k := q.1) (ps := q.2) (st := st.addN q.1 q.2.length)
    have A := ad_all (G := G) (st := st.add q.1 q.2) (s := (uqA s.1 (q.1 :: q.2), suA q.1 s.2 q.2)) (a1.trans (by rw [← h1]; rfl)) (fun y => by
      show suA q.1 s.2 q.2 y = uqA [] ((st.add q.1 q.2).su y)
      rw [suA_eq, h2]
      rw [show (st.add q.1 q.2).su y = _ from a2 y, uqA_app]; rfl)
    have e : edG (q :: G) = (q.2.map fun p => (p, q.1)) ++ edG G := by unfold edG; rw [List.flatMap_cons]
    refine ⟨A.keys, A.af, fun y => ?_, fun x => ?_, A.fin.trans a4, A.pass.trans a5⟩
    · rw [List.foldl_cons, A.su y, e, outE_app, outE_one, ← List.append_assoc]
      congr 1
      exact a2 y
    · rw [List.foldl_cons, A.np x, e, inE_app, inE_one, show (st.add q.1 q.2).np = fset st.np q.1 (st.np q.1 + (q.2.length : Int)) from a3]
      by_cases z : x = q.1
      · rw [z, fset_self, if_pos rfl]; omega
      · rw [fset_ne z, if_neg z]; omega
theorem ad_ok {G : Gr} : AdOk G SS.nil (SS.adG G) (nmG G) := ad_all rfl fun _ => rfl

/-! rings by either list -/
theorem first_uq {P : AV → Prop} {l a b : List AV} {w : AV} (e : l = a ++ w :: b) (ha : ∀ t ∈ a, ¬ P t) (hw : P w) : ∃ a' b', uqA [] l = a' ++ w :: b' ∧ ∀ t ∈ a', ¬ P t := by
  obtain ⟨r, hr⟩ := uqA_ext (b := b) (S := uqA [] a ++ [w])
  have hm : ∀ t, t ∈ uqA [] a → t ∈ a := fun t ht => (uqA_mem.mp ht).resolve_left List.not_mem_nil
  refine ⟨uqA [] a, r, ?_, fun t ht => ha t (hm t ht)⟩
  rw [e, uqA_app]
  show uqA (if w ∈ uqA [] a then uqA [] a else uqA [] a ++ [w]) b = _
  rw [if_neg fun z => ha w (hm w z) hw, hr, List.append_assoc]; rfl
theorem Chain.mono {α : Type} {R R' : α → α → Prop} (h : ∀ a b, R a b → R' a b) {l : List α} (c : Chain R l) : Chain R' l := by
  induction c with
  | one => exact .one
  | cons h1 _ ih => exact .cons (h _ _ h1) ih
theorem RingRes.map {α : Type} {keys : List α} {su af : α → List α} {r : Option (List α)} (h : RingRes keys su r) (hf : ∀ u w, FirstStay su u w → FirstStay af u w) (hs : ∀ v, Stay su v ↔ Stay af v) : RingRes keys af r := by
  cases h with
  | no h => exact .no fun k hk z => h k hk ((hs k).mpr z)
  | yes hk hp hn hh hl hc hf' => exact .yes hk (fun k hk z => hp k hk ((hs k).mpr z)) hn hh hl (hc.mono hf) (hf _ _ hf')
/-- where each has one ahead of it, some go on for ever -/
theorem stay_of_prev {α : Type} [DecidableEq α] {su : α → List α} : ∀ (n : Nat) (S : List α), S.length = n → S ≠ [] → (∀ x ∈ S, ∃ p ∈ S, x ∈ su p) → ∃ v ∈ S, Stay su v := by
  intro n
  induction n using Nat.strongRecOn with
  | _ n ih =>
    intro S hl hne hp
    by_cases h : ∀ v ∈ S, ∃ w ∈ su v, w ∈ S
    · obtain ⟨v, hv⟩ := List.exists_mem_of_ne_nil S hne
      exact ⟨v, hv, prune_stay h v hv⟩
    · obtain ⟨v, hv⟩ := Classical.not_forall.mp h
      obtain ⟨hv, hno⟩ := Classical.not_imp.mp hv
      have hlt : (S.filter fun x => decide (x ≠ v)).length < n := by
        rw [← hl]
        refine Nat.lt_of_le_of_ne (List.length_filter_le ..) fun z => ?_
        exact of_decide_eq_true (filter_len z v hv) rfl
      have hpv : ∀ x ∈ S, ∀ p ∈ S, x ∈ su p → p ≠ v := fun x hx p _ hxp z => hno ⟨x, z ▸ hxp, hx⟩
      obtain ⟨p0, hp0, hv0⟩ := hp v hv
      obtain ⟨u, hu, su'⟩ := ih _ hlt _ rfl (List.ne_nil_of_mem (a := p0) (List.mem_filter.mpr ⟨hp0, decide_eq_true (hpv v hv p0 hp0 hv0)⟩)) fun x hx => by
        obtain ⟨hx, _⟩ := List.mem_filter.mp hx
        obtain ⟨p, hp1, hp2⟩ := hp x hx
        exact ⟨p, List.mem_filter.mpr ⟨hp1, decide_eq_true (hpv x hx p hp1 hp2)⟩, hp2⟩
      exact ⟨u, (List.mem_filter.mp hu).1, su'⟩
end Mine.Internal

namespace Mine.Internal
open PySem PySem.W PyProof.Rows PySem.Calls PySem.SeqAt

/-- a graph that the law can draw -/
structure Drawn (G : Gr) : Prop where
  nd : (G.map (·.1)).Nodup
  ko : ∀ q ∈ G, KO q.1 ∧ ∀ p ∈ q.2, KO p
  wt : wtG G ≤ 10000
  small : (nmG G).1.length ≤ 60
section
variable {G : Gr} {ks : List AV} {rw : AV → List Int}
theorem nm_all : ∀ {G : Gr} {s : List AV × (AV → List AV)} {x : AV}, x ∈ (G.foldl (fun s q => (uqA s.1 (q.1 :: q.2), suA q.1 s.2 q.2)) s).1 ↔ x ∈ s.1 ∨ ∃ q ∈ G, x = q.1 ∨ x ∈ q.2
  | [], s, x => ⟨.inl, fun h => h.elim id fun ⟨_, h, _⟩ => absurd h List.not_mem_nil⟩
  | q :: G, s, x => by
    rw [List.foldl_cons, nm_all]
    show x ∈ uqA s.1 (q.1 :: q.2) ∨ _ ↔ _
    rw [uqA_mem, List.mem_cons]
    constructor
    · rintro ((h | h) | ⟨r, h1, h2⟩)
      · exact .inl h
      · exact .inr ⟨q, List.mem_cons_self, h⟩
      · exact .inr ⟨r, List.mem_cons_of_mem _ h1, h2⟩
    · rintro (h | ⟨r, h1, h2⟩)
      · exact .inl (.inl h)
      · rcases List.mem_cons.mp h1 with rfl | h1
        · exact .inl (.inr h2)
        · exact .inr ⟨r, h1, h2⟩
theorem nm_mem {x : AV} : x ∈ (nmG G).1 ↔ ∃ q ∈ G, x = q.1 ∨ x ∈ q.2 := nm_all.trans ⟨fun h => h.resolve_left List.not_mem_nil, .inr⟩
theorem nm_nd : ∀ {G : Gr} {s : List AV × (AV → List AV)}, s.1.Nodup → (G.foldl (fun s q => (uqA s.1 (q.1 :: q.2), suA q.1 s.2 q.2)) s).1.Nodup
  | [], s, h => h
  | q :: G, s, h => nm_nd (G := G) (s := (uqA s.1 (q.1 :: q.2), suA q.1 s.2 q.2)) (uqA_nd h)
theorem su_eq : (SS.adG G).su = outE (edG G) := funext fun y => (ad_ok.su y).trans (List.nil_append _)
theorem su_mem (hn : (G.map (·.1)).Nodup) {p x : AV} : x ∈ (SS.adG G).su p ↔ p ∈ gp G x := by
  rw [su_eq, ← edG_gp hn]
  unfold outE
  constructor
  · intro h
    obtain ⟨e, he, rfl⟩ := List.mem_map.mp h
    obtain ⟨h1, h2⟩ := List.mem_filter.mp he
    rw [← of_decide_eq_true h2]; exact h1
  · intro h
    exact List.mem_map.mpr ⟨(p, x), List.mem_filter.mpr ⟨h, decide_eq_true rfl⟩, rfl⟩
theorem af_mem {p x : AV} : x ∈ (nmG G).2 p ↔ x ∈ (SS.adG G).su p := by
  rw [ad_ok.af p, uqA_mem]; exact ⟨fun h => h.resolve_left List.not_mem_nil, .inr⟩
theorem stay_iff {v : AV} : Stay (SS.adG G).su v ↔ Stay (nmG G).2 v := ⟨Stay.of_mem fun _ _ => af_mem.mpr, Stay.of_mem fun _ _ => af_mem.mp⟩
theorem first_af {u w : AV} (h : FirstStay (SS.adG G).su u w) : FirstStay (nmG G).2 u w := by
  obtain ⟨a, b, e, h1, h2⟩ := h
  obtain ⟨a', b', e', h'⟩ := first_uq e h1 h2
  exact ⟨a', b', (ad_ok.af u).trans e', fun t ht z => h' t ht (stay_iff.mpr z), stay_iff.mp h2⟩
theorem key_in (D : Drawn G) {x : AV} {p : AV} (h : p ∈ gp G x) : x ∈ (nmG G).1 ∧ p ∈ (nmG G).1 := by
  obtain ⟨q, hq, rfl⟩ := List.mem_map.mp (gp_in (List.ne_nil_of_mem h))
  rw [gp_eq D.nd hq] at h
  exact ⟨nm_mem.mpr ⟨q, hq, .inl rfl⟩, nm_mem.mpr ⟨q, hq, .inr h⟩⟩
theorem done_all (h : Done G (nmG G).1 ks (nmG G).1.length) : ∀ x ∈ (nmG G).1, (∀ p ∈ gp G x, p ∈ ks) → x ∈ ks := fun x hx hp => by
  obtain ⟨j, hj⟩ := List.mem_iff_getElem?.mp hx
  exact (h j x (List.getElem?_eq_some_iff.mp hj).1 hj).resolve_right fun z => z hp
theorem drawn_law (D : Drawn G) : PureLaw G := by
  have hko : ∀ v ∈ (nmG G).1, KO v := fun v hv => by
    obtain ⟨q, hq, h⟩ := nm_mem.mp hv
    rcases h with rfl | h
    · exact (D.ko q hq).1
    · exact (D.ko q hq).2 v h
  have ok : GrOk G := ⟨fun q hq => ⟨(D.ko q hq).1.key, fun p hp => ((D.ko q hq).2 p hp).key⟩, Nat.le_trans D.wt (by decide)⟩
  have hnd : (nmG G).1.Nodup := nm_nd .nil
  have F := (adG_facts (G := G) G.length).2
  rw [List.take_length] at F
  have Nm := nm_ok ok G.length
  rw [List.take_length] at Nm
  have hk : (SS.adG G).keys = (nmG G).1 := ad_ok.keys
  have hring : ∀ r, RingRes (SS.adG G).keys (SS.adG G).su r → RingRes (nmG G).1 (nmG G).2 r := fun r h => by
    rw [hk] at h; exact h.map (fun _ _ => first_af) fun _ => stay_iff
  exact {
    ok := ok
    nd := D.nd
    ko := fun q hq => (D.ko q hq).2
    rg := ⟨Nat.le_trans D.small (by decide), hko, fun v _ w hw => (key_in D ((su_mem D.nd).mp (af_mem.mp hw))).1, fun v => Nat.le_trans (Nm.su v) (Nat.le_trans D.wt (by decide)), hnd⟩
    small := D.small
    gin := fun v _ p hp => (key_in D hp).2
    su := fun k s hs => by rw [hk]; exact (key_in D ((su_mem D.nd).mp hs)).1
    kl := by rw [hk]; exact Nat.lt_of_le_of_lt D.small (by decide)
    zs := fun k => Nat.le_trans (F.su k) D.wt
    ring := fun r r' h h' => (hring r' h').unique h
    rows := fun ks rw R _ v hv => ⟨_, _, (R.hd v hv).1, Int.ofNat_le.mpr (R.hd v hv).2, by
      have h1 := R.len v hv
      have h2 := nodup_le R.nd R.sub
      have h3 := D.small
      rw [List.length_tail]; omega⟩
    tot := fun ks rw R _ => R.tot
    no := fun ks rw R hd hn r hr => by
      have hin : ∀ x ∈ (nmG G).1, x ∈ ks := fun x hx => Classical.byContradiction fun z => hn (by
        have := nodup_le (l := x :: ks) (os := (nmG G).1) (List.nodup_cons.mpr ⟨z, R.nd⟩) fun y hy => by
          rcases List.mem_cons.mp hy with rfl | hy
          · exact hx
          · exact R.sub y hy
        exact this)
      obtain ⟨m, hm, _⟩ := max_lev (rw := rw) ks
      refine no_ring (rank := lev rw) (M := m) (fun p w hw => ?_) r hr
      have hp := (su_mem D.nd).mp hw
      have hwk := hin w (key_in D hp).1
      exact ⟨R.down hwk hp, hm w hwk⟩
    lack := fun ks rw R hd hlt hr => by
      have hS : ∀ x ∈ (nmG G).1.filter (fun x => decide (x ∉ ks)), ∃ p ∈ (nmG G).1.filter (fun x => decide (x ∉ ks)), x ∈ (nmG G).2 p := fun x hx => by
        obtain ⟨h1, h2⟩ := List.mem_filter.mp hx
        obtain ⟨p, hp⟩ := Classical.not_forall.mp fun z => of_decide_eq_true h2 (done_all hd x h1 z)
        obtain ⟨hp, hpk⟩ := Classical.not_imp.mp hp
        exact ⟨p, List.mem_filter.mpr ⟨(key_in D hp).2, decide_eq_true hpk⟩, af_mem.mpr ((su_mem D.nd).mpr hp)⟩
      have hne : (nmG G).1.filter (fun x => decide (x ∉ ks)) ≠ [] := fun z => by
        have : (nmG G).1.length ≤ ks.length := nodup_le hnd fun y hy => Classical.byContradiction fun q => by
          have : y ∈ (nmG G).1.filter (fun x => decide (x ∉ ks)) := List.mem_filter.mpr ⟨hy, decide_eq_true q⟩
          rw [z] at this; cases this
        omega
      obtain ⟨v, hv, hs⟩ := stay_of_prev _ _ rfl hne hS
      cases hr with
      | no h => exact h v (List.mem_filter.mp hv).1 hs
    runs := fun ks rw p R hd hso => by
      obtain ⟨hr, hm⟩ := sorted_ls hso
      have hlen : (p.toList.map fun i => ks.getD i .none).length ≤ 60 := by
        rw [List.length_map, Array.length_toList, hso.1.sz]
        exact Nat.le_trans (nodup_le R.nd R.sub) D.small
      generalize p.toList.map (fun i => ks.getD i .none) = ls at *
      have hlnd : ls.Nodup := by
        rw [List.nodup_iff_pairwise_ne]
        exact hr.imp fun {a b} h z => by rw [z, ltL_irr] at h; cases h
      obtain ⟨m, hg, hmx, hne⟩ := R.groups hr hm
      have hg' : grpF rw ls = (List.range' 1 m).map (lvL rw ls) := by
        rw [hg, List.range'_eq_map_range, List.map_map]
        refine List.map_congr_left fun k _ => ?_
        show _ = lvL rw ls (1 + k)
        rw [Nat.add_comm]
      have hG : ∀ q ∈ G, q.1 ∈ (nmG G).1 := fun q hq => nm_mem.mpr ⟨q, hq, .inl rfl⟩
      have hRC := R.rc (ls := ls) D.nd hr hm hG (done_all hd) hlnd (Nat.le_trans hlen (by decide)) (fun x hx => hko x (R.sub x ((hm x).mp hx))) m 1 [] (Nat.le_refl 1) (fun x => ⟨fun h => absurd h List.not_mem_nil, fun h => by have := (R.hd x h.1).2; omega⟩)
        (fun i h1 h2 => by have := hne (i - 1) (by omega); rwa [Nat.sub_add_cancel h1] at this) (fun x hx => by have := hmx x hx; omega)
      rw [hg']
      have hnp : ∀ x, (SS.adG G).np x = (inE (edG G) [] x : Int) := fun x => (ad_ok.np x).trans (Int.zero_add _)
      refine runs_of (st := (SS.adG G).prep) hRC su_eq (fun x _ => hnp x) (ad_ok.fin.trans ad_ok.pass.symm) (fun r hr' x hx => ?_) (fun k => Nat.le_trans (F.su k) D.wt) ?_
      · obtain ⟨k, _, rfl⟩ := List.mem_map.mp hr'
        show x ∈ (SS.adG G).keys
        rw [hk]
        exact R.sub x ((hm x).mp (lvL_mem.mp hx).1)
      · show some _ = some _
        congr 1
        rw [hk]
        have one : ∀ x, x ∈ (nmG G).1.filter (fun k => decide ((SS.adG G).np k = 0)) → x ∈ ks ∧ gp G x = [] := fun x hx => by
          obtain ⟨h1, h2⟩ := List.mem_filter.mp hx
          have h2 := of_decide_eq_true h2
          rw [hnp x] at h2
          have h3 := (inE_zero D.nd).mp (Int.ofNat.inj h2)
          have h4 : gp G x = [] := List.eq_nil_iff_forall_not_mem.mpr fun p hp => List.not_mem_nil (h3 p hp)
          exact ⟨done_all hd x h1 (fun p hp => by rw [h4] at hp; cases hp), h4⟩
        have e1 : (nmG G).1.filter (fun k => decide ((SS.adG G).np k = 0)) = lvL rw ls 1 := by
          refine rise_of (rw := rw) ?_ (hr.sublist List.filter_sublist) fun x => ?_
          · have hidx : (nmG G).1.Pairwise fun x y => (nmG G).1.idxOf x < (nmG G).1.idxOf y := by
              rw [List.pairwise_iff_getElem]
              intro i j hi hj hij
              rw [idx_at hnd, idx_at hnd]; exact hij
            refine List.Pairwise.imp_of_mem ?_ (hidx.sublist List.filter_sublist)
            intro x y hx hy h
            obtain ⟨x1, x2⟩ := one x hx
            obtain ⟨y1, y2⟩ := one y hy
            rw [R.one x1 x2, R.one y1 y2, ltL_cons, ltL_cons]
            exact .inr ⟨rfl, .inl (Int.ofNat_lt.mpr h)⟩
          · rw [lvL_mem, hm]
            constructor
            · intro hx
              obtain ⟨x1, x2⟩ := one x hx
              exact ⟨x1, by unfold lev; rw [R.one x1 x2]; rfl⟩
            · rintro ⟨h1, h2⟩
              have h4 : gp G x = [] := Classical.byContradiction fun z => by
                obtain ⟨p, hp, _, _, e⟩ := R.up h1 z
                have := (R.hd p (R.prev' h1 p hp)).2
                omega
              refine List.mem_filter.mpr ⟨R.sub x h1, decide_eq_true ?_⟩
              rw [hnp x, (inE_zero D.nd).mpr fun p hp => by rw [h4] at hp; cases hp]; rfl
        rw [e1]
        cases m with
        | zero =>
          refine List.eq_nil_iff_forall_not_mem.mpr fun x hx => ?_
          obtain ⟨h1, h2⟩ := lvL_mem.mp hx
          have := hmx x ((hm x).mp h1)
          omega
        | succ m => rw [List.range'_succ]; rfl
  }
end
end Mine.Internal

namespace Mine.Internal
open PySem PySem.W PyProof.Rows PySem.Calls PySem.SeqAt

theorem KO.pq {i : Int} : KO (pqS i) := by
  unfold pqS
  split
  · exact ⟨rfl, by decide +kernel, Nat.zero_le _⟩
  · exact ⟨rfl, by decide +kernel, Nat.zero_le _⟩
theorem pqS_two (i : Int) : pqS i ∈ [pqS 0, pqS 1] := by
  by_cases h : i = 0
  · rw [h]; exact List.mem_cons_self
  · refine List.mem_cons_of_mem _ (List.mem_singleton.mpr ?_)
    unfold pqS
    rw [if_neg h, if_neg (by decide)]
theorem nd_mem {N : List Int} {wild : Bool} {x : Int} : ∀ n, ∀ p ∈ (ndIt N wild x n).2, p ∈ N.map AV.int ++ [.int 0, pqS 0, pqS 1] ∧ KO p
  | 0 => fun p hp => absurd hp List.not_mem_nil
  | n + 1 => fun p hp => by
    have ih := nd_mem (N := N) (wild := wild) (x := x) n
    unfold ndIt ndStep at hp
    dsimp only at hp
    generalize (ndIt N wild x n).1.fmod (N.length + 2) = r at hp
    split at hp
    · rcases List.mem_append.mp hp with hp | hp
      · exact ih p hp
      · rw [List.mem_singleton.mp hp]
        exact ⟨List.mem_append_right _ (List.mem_cons_of_mem _ (pqS_two _)), KO.pq⟩
    · split at hp
      · rcases List.mem_append.mp hp with hp | hp
        · exact ih p hp
        · rw [List.mem_singleton.mp hp]
          refine ⟨?_, KO.int⟩
          rw [List.getD_eq_getElem?_getD]
          cases e : N[r.toNat]? with
          | none => exact List.mem_append_right _ List.mem_cons_self
          | some y => exact List.mem_append_left _ (List.mem_map_of_mem (List.mem_of_getElem? e))
      · exact ih p hp
theorem lawNs_ok (is : List Int) : (lawNs is).length ≤ 27 ∧ (lawNs is).Nodup := by
  have h := uq_le (is.take 24 ++ [-9, 14, 35]) (is.take 24 ++ [-9, 14, 35]).length
  rw [List.take_length] at h
  refine ⟨Nat.le_trans h.1 ?_, h.2⟩
  rw [List.length_append, List.length_take]
  exact Nat.add_le_add (Nat.min_le_left ..) (Nat.le_refl 3)
theorem sum_le' {α : Type} {f : α → Nat} {n : Nat} : ∀ {l : List α}, (∀ x ∈ l, f x ≤ n) → (l.map f).sum ≤ n * l.length
  | [], _ => Nat.zero_le _
  | a :: l, h => by
    rw [List.map_cons, List.sum_cons, List.length_cons, Nat.mul_succ, Nat.add_comm]
    exact Nat.add_le_add (sum_le' fun x hx => h x (List.mem_cons_of_mem _ hx)) (h a List.mem_cons_self)
theorem int_nd : ∀ {l : List Int}, l.Nodup → (l.map AV.int).Nodup
  | [], _ => .nil
  | a :: l, h => by
    rw [List.nodup_cons] at h
    rw [List.map_cons, List.nodup_cons]
    refine ⟨fun z => h.1 ?_, int_nd h.2⟩
    obtain ⟨b, hb, e⟩ := List.mem_map.mp z
    cases e; exact hb
theorem drawn_ok (is : List Int) : Drawn (grOf (lawNs is)) := by
  obtain ⟨h1, h2⟩ := lawNs_ok is
  have hk : (grOf (lawNs is)).map (·.1) = (lawNs is).map AV.int := by unfold grOf; rw [List.map_map]; rfl
  have hq : ∀ q ∈ grOf (lawNs is), q.1 ∈ (lawNs is).map AV.int ∧ KO q.1 ∧ q.2.length ≤ 5 ∧ ∀ p ∈ q.2, p ∈ (lawNs is).map AV.int ++ [.int 0, pqS 0, pqS 1] ∧ KO p := fun q hq => by
    have hm : q.1 ∈ (grOf (lawNs is)).map (·.1) := List.mem_map_of_mem hq
    rw [hk] at hm
    obtain ⟨x, hx, rfl⟩ := List.mem_map.mp hq
    refine ⟨hm, KO.int, Nat.le_trans (ndIt_len _) ?_, fun p hp => nd_mem _ p hp⟩
    have := Int.fmod_lt_of_pos x (show (0 : Int) < 6 by decide)
    omega
  refine ⟨by rw [hk]; exact int_nd h2, fun q hq' => ⟨(hq q hq').2.1, fun p hp => ((hq q hq').2.2.2 p hp).2⟩, ?_, ?_⟩
  · have := sum_le' (f := fun q : AV × List AV => q.2.length + 1) (n := 6) (l := grOf (lawNs is)) fun q hq' => Nat.succ_le_succ (hq q hq').2.2.1
    have hl : (grOf (lawNs is)).length = (lawNs is).length := by unfold grOf; rw [List.length_map]
    unfold wtG
    omega
  · have := nodup_le (l := (nmG (grOf (lawNs is))).1) (os := (lawNs is).map AV.int ++ [.int 0, pqS 0, pqS 1]) (nm_nd .nil) fun y hy => by
      obtain ⟨q, hq', h⟩ := nm_mem.mp hy
      rcases h with rfl | h
      · exact List.mem_append_left _ (hq q hq').1
      · exact ((hq q hq').2.2.2 y h).1
    rw [List.length_append, List.length_map] at this
    have h3 : [AV.int 0, pqS 0, pqS 1].length = 3 := rfl
    omega
theorem pure_law (is : List Int) : PureLaw (grOf (lawNs is)) := drawn_law (drawn_ok is)
end Mine.Internal

namespace Mine.Internal
open PySem PySem.W PyProof.Rows PySem.Calls

noncomputable def tokOf (K : Frag) (x : Str) : Tok := match nsIn K mainGlobals x with
  | some (some (.int _ t)) => t
  | _ => default
theorem g_out {w : World} : nsIn (KK w) mainGlobals "_NODE_OUT" = some (some (.int (-1) (tokOf (KK w) "_NODE_OUT"))) := by kernel_rfl
theorem g_done {w : World} : nsIn (KK w) mainGlobals "_NODE_DONE" = some (some (.int (-2) (tokOf (KK w) "_NODE_DONE"))) := by kernel_rfl

theorem mkLv {c : Cx} {mg mb : Str → Option Value} (hK : c.K = KK c.w) (hg : c.base.Ns mainGlobals mg) (hb : c.base.Ns builtinsNs mb) (hbb : ∀ x : Str, x ≠ "__name__" → mb x = bootBuiltins x) : Lv c := by
  have gm : ∀ {x : Str} {v : Value}, nsIn (KK c.w) mainGlobals x = some (some v) → Glob c x v := fun e => .inl ⟨mg, hg, mg_of c.inK hg (hK ▸ e)⟩
  have gb : ∀ {x : Str} {v : Value}, nsIn (KK c.w) mainGlobals x = some none ∧ bootBuiltins x = some v ∧ codeOf x ≠ codeOf "__name__" → Glob c x v := fun {x v} e =>
    .inr ⟨mg, mb, hg, mg_none_of c.inK hg (hK ▸ e.1), hb, (hbb x fun z => e.2.2 (by rw [z])).trans e.2.1⟩
  exact ⟨⟨hK, gb ⟨by kernel_rfl, by kernel_rfl, by decide +kernel⟩, gb ⟨by kernel_rfl, by kernel_rfl, by decide +kernel⟩, gb ⟨by kernel_rfl, by kernel_rfl, by decide +kernel⟩, gb ⟨by kernel_rfl, by kernel_rfl, by decide +kernel⟩, gm (by kernel_rfl), gb ⟨by kernel_rfl, by kernel_rfl, by decide +kernel⟩, gb ⟨by kernel_rfl, by kernel_rfl, by decide +kernel⟩, gb ⟨by kernel_rfl, by kernel_rfl, by decide +kernel⟩, ⟨_, gm g_out⟩, ⟨_, gm g_done⟩⟩, gm (by kernel_rfl), gm (by kernel_rfl), gb ⟨by kernel_rfl, by kernel_rfl, by decide +kernel⟩, gb ⟨by kernel_rfl, by kernel_rfl, by decide +kernel⟩, gb ⟨by kernel_rfl, by kernel_rfl, by decide +kernel⟩, gb ⟨by kernel_rfl, by kernel_rfl, by decide +kernel⟩, gb ⟨by kernel_rfl, by kernel_rfl, by decide +kernel⟩, gm (by kernel_rfl), gm (by kernel_rfl), gm (by kernel_rfl), gm (by kernel_rfl), gm (by kernel_rfl), gm (by kernel_rfl), gm (by kernel_rfl)⟩

theorem caller_ok {d : Nat} (h : d ≤ 40) : AOk callerA [] d :=
  ⟨by show 1 + claimMargin + 8 * d ≤ 900; unfold claimMargin; omega, by show 4 + 200 * d ≤ 9000; omega, ⟨[], rfl, fun e he => by cases he⟩, rfl, rfl⟩

noncomputable abbrev tabs2 : List (Addr × Addr) := [(178, TB)]
theorem tabs_at {w : World} {h : Heap} (X : (KK w).In h) (e : h.get? TB = some (tabObj #[])) : TabsAt tabs2 h :=
  List.forall_mem_cons.mpr ⟨⟨codeHd_of_K X head_178, e⟩, fun q hq => by cases hq⟩
/-- the law called from outside -/
theorem law_run {prog : Program} {w : World} {s : Shared} {mg mb : Str → Option Value} {fa l : Addr} {us : List Value} {is : List Int} {R : Result → Shared → Prop} (hT : TabsAt tabs2 s.heap) (X : (KK w).In s.heap) (hg : s.heap.Ns mainGlobals mg) (hb : s.heap.Ns builtinsNs mb) (hbb : ∀ x : Str, x ≠ "__name__" → mb x = bootBuiltins x) (hn : s.heap.NoLimit) (hs : s.heap.NoSeer)
    (hbm : ∃ bm ob, mg "__builtins__" = some (.ref bm) ∧ bm ≠ builtinsNs ∧ s.heap.get? bm = some ob ∧ ob.cls = .type "module" ∧ ob.dict = some builtinsNs ∧ ob.data = .plain) (hgen : s.gens = #[])
    (hfa : mg "law" = some (.ref fa)) (hl : s.heap.IsList l us.toArray) (hi : IntsAre us is) (h63 : is.length ≤ 63)
    (h : ∀ s', (∀ b o, (ghostOf s.heap tabs2).get? b = some o → s'.heap.get? b = some o) → s'.os = s.os → s'.gens = #[] → GrownAt TB s'.heap → R (.ok (.ret (.bool true))) s') :
    codeAny (model prog w) callerA (.call (.ref fa) ⟨[.ref l], []⟩) R s := by
  have hsys : ((ghostOf s.heap tabs2).get? sysModules).isSome = true := by
    obtain ⟨mm, hm, _⟩ := hs.mods
    obtain ⟨o, _, _, ho, _⟩ := ghost_ns hT hm
    rw [ho]; rfl
  have hn' : (ghostOf s.heap tabs2).NoLimit := let ⟨mc, a, r⟩ := hn; ⟨mc, ghost_ns hT a, r⟩
  have X' : (KK w).In (ghostOf s.heap tabs2) := ghost_K hT X (by kernel_rfl)
  let c : Cx := ⟨prog, w, ghostOf s.heap tabs2, s.os, KK w, X', hn', hsys⟩
  have hTB : s.heap.get? TB = some (tabObj #[]) := (hT (178, TB) (List.mem_singleton.mpr rfl)).2
  have hfa2 : fa = 193 := by
    have := mg_of X hg (show nsIn (KK w) mainGlobals "law" = some (some (.ref 193)) by kernel_rfl)
    rw [hfa] at this
    cases this; rfl
  subst hfa2
  have lv : Lv c := mkLv (c := c) rfl (ghost_ns hT hg) (ghost_ns hT hb) hbb
  have hB : BaseOk c TB := by
    obtain ⟨bm, ob, a1, a2, a3, a4, a5, a6⟩ := hbm
    refine ⟨mg, ghost_ns hT hg, bm, ob, a1, a2, fun z => ?_, fun z => ?_, ghost_get hT a3 (fun q => by rw [q] at a4; cases a4), a4, a5, a6⟩
    · obtain ⟨o, es, ep, e, hd, _⟩ := hg
      rw [z] at a3
      rw [a3] at e; cases e
      rw [a6] at hd; cases hd
    · rw [z, hTB] at a3
      cases a3; cases a4
  have St0 : St c ⟨[], upd (fun _ => none) TB (some (7, rawC (tabObj #[]))), #[]⟩ s := by
    refine ⟨(fun b o e => of_hideAll _ e), (fun f hf => by cases hf), (fun f hf => by cases hf), .nil, (fun x k cl e => ?_), rfl, hgen⟩
    by_cases z : x = TB
    · subst z
      have e : upd (fun _ => none) TB (some (7, rawC (tabObj #[]))) TB = some (k, cl) := e
      rw [upd_self] at e
      cases e
      exact ⟨⟨_, hTB, rfl⟩, hideAll_none _ (List.mem_singleton.mpr rfl), List.not_mem_nil⟩
    · have e : upd (fun _ => none) TB (some (7, rawC (tabObj #[]))) x = some (k, cl) := e
      rw [upd_ne z] at e
      cases e
  have hbl : BL c l (I2 is) := by
    refine ⟨us.toArray, ghost_list hT hl, ?_⟩
    show us.map er = I2 is
    clear hl h63
    induction hi with
    | nil => rfl
    | cons n t _ ih => rw [List.map_cons, ih]; rfl
  have := law_spec (c := c) (A := callerA) (fs := []) (σ := upd (fun _ => none) TB (some (7, rawC (tabObj #[])))) (g := #[]) (d := 0) (s := l) (is := is) (R := fun r a => r = .ok (.ret (.bool true)) ∧ a.gens = #[] ∧ ∃ ps, a.σ TB = some (7, rawC (tabObj ps))) lv hB (caller_ok (by decide)) hbl h63 upd_self (pure_law is) (fun σ' ps q => ⟨rfl, rfl, ps, q⟩)
  exact codeAny_mono (this s St0) fun r s' ⟨a, h1, q1, q2, ps, q3⟩ => by
    subst q1
    obtain ⟨o, ho, rfl⟩ := own_raw h1 q3
    exact h s' h1.keep h1.os (h1.gens.trans q2) ⟨ps, ho⟩
end Mine.Internal

open PySem PySem.W PyProof.Rows
set_option maxRecDepth 100000
set_option maxHeartbeats 4000000 in
theorem PySem.Challenge.cw_du0008_02_holds : PySem.Challenge.rw_du0008_02.Holds := by
  refine Mine.Internal.head ?_
  intro w s₀ s₁ mg mb G Y fa o pm cd doc dV kV ho hd hcd hD hmg hg args vals as hpre hlay hrd hwl hlo
  have KX := km_in_of Y
  have hT8 := km_tabs_of Y Mine.Internal.TB (List.mem_singleton.mpr rfl)
  have X := (Ground.X G).1
  have V := (Ground.X G).2
  refine Ground.open G ?_
  intro T B D TE TW
  try (refine guard_noD D (by decide +kernel) ?_; clear D)
  have hT9 := Mine.Internal.tabs_at KX hT8
  wrow_args hpre hlay hrd hwl hlo
  all_goals (
    first | refine callC_kw (enter_call ?_) | refine enter_call ?_ | refine callC_kw (enter_callW ?_) | refine enter_callW ?_ | w_how
    w_top on
    refine kn_post hT9 (fun _ _ => rfl) ?_
    refine Mine.Internal.law_run hT9 KX T.g T.b T.builtins T.nolimit (T.seer (by decide +kernel)) T.bmain hg hmg (by assumption) (by assumption) (by omega) fun s' h1 h2 h3 h4 => ?_
    refine ⟨⟨.inl ⟨.bool true, .bool true, [], rfl, fun cls => ?_, ?_, ?_, fun _ => ⟨.nil, fun a ha => by cases ha⟩⟩, h1, h2, h3⟩, h4, trivial⟩
    · rfl
    · exact .bool true
    · first | kernel_rfl | with_unfolding_all rfl | decide +kernel)

