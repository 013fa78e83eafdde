import PyProof.Rows.All
import Wide.All
import OpenK.AllK
import Wide.FinOn
import PySem.Challenge.RW_du0008_03
set_option Elab.async false
set_option linter.unusedSimpArgs false
set_option linter.unusedVariables false
namespace Mine
open PySem PySem.W PyProof.Rows PySem.Calls

inductive AV where
  | none | bool (b : Bool) | int (i : Int) | str (s : Str) | ref (a : Addr) | other (v : Value)
  deriving DecidableEq

@[reducible] noncomputable def er : Value → AV
  | .none => .none
  | .bool b => .bool b
  | .int i _ => .int i
  | .str s _ => .str s
  | .ref a => .ref a
  | v => .other v

theorem er_int {v : Value} {i : Int} (h : er v = .int i) : ∃ t, v = .int i t := by
  cases v <;> simp_all [er]
theorem er_str {v : Value} {x : Str} (h : er v = .str x) : ∃ t, v = .str x t := by
  cases v <;> simp_all [er]
theorem er_ref {v : Value} {a : Addr} (h : er v = .ref a) : v = .ref a := by
  cases v <;> simp_all [er]
theorem er_none {v : Value} (h : er v = .none) : v = .none := by
  cases v <;> simp_all [er]
theorem er_bool {v : Value} {b : Bool} (h : er v = .bool b) : v = .bool b := by
  cases v <;> simp_all [er]

noncomputable def AV.isKey : AV → Bool
  | .int _ => true
  | .str _ => true
  | _ => false

theorem isKey_cases {k : AV} (h : k.isKey = true) : (∃ i, k = .int i) ∨ ∃ x, k = .str x := by
  cases k <;> simp_all [AV.isKey]

noncomputable def avHash (w : World) : AV → Int
  | .int i => hashInt i
  | .str s => hashStr w s
  | _ => 0

section
variable {prog : Program} {w : World} {A : Around} {E : Value → Shared → Prop} {s : Shared}
theorem eqBool_int_str {a : Int} {b : Str} {t u : Tok} {Q : Bool → Shared → Prop} (h : Q false s) :
    wpAny (model prog w) A (eqBool (.int a t) (.str b u)) Q E s := by
  unfold eqBool
  refine wpAny_holding ?_
  rw [if_neg (by simp)]
  refine wpAny_bind ?_
  exact PySem.EqMixed.eq_int_str (by exact fun _ _ _ => h)
theorem eqBool_str_int {a : Str} {b : Int} {t u : Tok} {Q : Bool → Shared → Prop} (h : Q false s) :
    wpAny (model prog w) A (eqBool (.str a t) (.int b u)) Q E s := by
  unfold eqBool
  refine wpAny_holding ?_
  rw [if_neg (by simp)]
  refine wpAny_bind ?_
  exact PySem.EqMixed.eq_str_int (by exact fun _ _ _ => h)
end


noncomputable def avKind (prog : Program) (w : World) : KeyKind prog w AV where
  is k v := decide (er v = k) && k.isKey
  hash := avHash w
  inj := fun v a b ha hb => by
    simp only [Bool.and_eq_true, decide_eq_true_eq] at ha hb
    exact ha.1.symm.trans hb.1
  byValue := fun k v h => by
    simp only [Bool.and_eq_true, decide_eq_true_eq] at h
    obtain ⟨h, hk⟩ := h
    rcases isKey_cases hk with ⟨i, rfl⟩ | ⟨x, rfl⟩
    · obtain ⟨t, rfl⟩ := er_int h; rfl
    · obtain ⟨t, rfl⟩ := er_str h; rfl
  pyHash := fun {A E s k v Q} hv h => by
    simp only [Bool.and_eq_true, decide_eq_true_eq] at hv
    obtain ⟨e, hk⟩ := hv
    rcases isKey_cases hk with ⟨i, rfl⟩ | ⟨x, rfl⟩
    · obtain ⟨t, rfl⟩ := er_int e; exact wpAny_pyHash_int h
    · obtain ⟨t, rfl⟩ := er_str e; exact wpAny_pyHash_str h
  eqBool := fun {A E s a b u v Q} hu hv h => by
    simp only [Bool.and_eq_true, decide_eq_true_eq] at hu hv
    obtain ⟨eu, ku⟩ := hu
    obtain ⟨ev, kv⟩ := hv
    rcases isKey_cases ku with ⟨i, rfl⟩ | ⟨x, rfl⟩ <;> rcases isKey_cases kv with ⟨j, rfl⟩ | ⟨y, rfl⟩
    · obtain ⟨t, rfl⟩ := er_int eu; obtain ⟨t', rfl⟩ := er_int ev
      refine wpAny_eqBool_int ?_
      have : (i == j) = decide (AV.int i = AV.int j) := by rw [Bool.eq_iff_iff]; simp
      rw [this]; exact h
    · obtain ⟨t, rfl⟩ := er_int eu; obtain ⟨t', rfl⟩ := er_str ev
      exact eqBool_int_str (by simpa using h)
    · obtain ⟨t, rfl⟩ := er_str eu; obtain ⟨t', rfl⟩ := er_int ev
      exact eqBool_str_int (by simpa using h)
    · obtain ⟨t, rfl⟩ := er_str eu; obtain ⟨t', rfl⟩ := er_str ev
      refine wpAny_eqBool_str ?_
      have : decide (x = y) = decide (AV.str x = AV.str y) := by simp
      rw [this]; exact h
  «strs» := fun k x t v h => by
    simp only [Bool.and_eq_true] at h
    obtain ⟨h, hk⟩ := h
    have h : AV.str x = k := of_decide_eq_true h
    subst h
    cases v <;> simp [er, Value.isStr, AV.isKey]
    rename_i y _
    rw [Bool.eq_iff_iff]; simp

theorem avKind_is {prog : Program} {w : World} {k : AV} {v : Value} : (avKind prog w).is k v = true ↔ er v = k ∧ k.isKey = true := by
  simp [avKind]

theorem scannable_of_key {k : AV} {v : Value} (h : er v = k) (hk : k.isKey = true) : v.scannable = true := by
  rcases isKey_cases hk with ⟨i, rfl⟩ | ⟨x, rfl⟩
  · obtain ⟨t, rfl⟩ := er_int h; rfl
  · obtain ⟨t, rfl⟩ := er_str h; rfl

inductive Cell where
  | list (vs : List AV)
  | tuple (vs : List AV)
  | dict (kvs : List (AV × AV)) (ep : Nat)
  | set (S : AV → Bool) (n : Nat)
  | inst (C dx : Addr) (sl : List (Option AV))
  | attrs (kvs : List (Str × AV))
  | raw (P : Obj → Prop)

structure Frm where
  L : Addr
  cl : List (Str × Addr)
  ns : List Str
  vs : List (Option AV)

noncomputable def Frm.as (f : Frm) : List Addr := f.L :: f.cl.map (·.2)

structure AS where
  fs : List Frm
  σ : Addr → Option (Nat × Cell)
  gens : Array GenState

structure Cx where
  prog : Program
  w : World
  base : Heap
  os : OsState
  K : Frag
  inK : K.In base
  nolim : base.NoLimit
  sysm : (base.get? sysModules).isSome = true

noncomputable def gv : List Str → List (Option AV) → Str → Option AV
  | n :: ns, v :: vs, x => if n = x then v else gv ns vs x
  | _, _, _ => none

end Mine

namespace Mine
open PySem PySem.W PyProof.Rows PySem.Calls

inductive F2 {α β : Type} (R : α → β → Prop) : List α → List β → Prop
  | nil : F2 R [] []
  | cons {a b l m} : R a b → F2 R l m → F2 R (a :: l) (b :: m)

noncomputable def Cell.ok (c : Cx) : Cell → Obj → Prop
  | .list vs, o => ∃ us n, o = listOf us n ∧ us.toList.map er = vs
  | .tuple vs, o => ∃ us n, o = { cls := .type "tuple", data := .seq us n } ∧ us.toList.map er = vs
  | .dict kvs ep, o => o.ExactDict ∧ ∃ es kvs', o.data = .dict es ep ∧ KeysOf (avKind c.prog c.w) es ∧ Pairs (avKind c.prog c.w) es.toList kvs' ∧ kvs = kvs'.map (fun p => (p.1, er p.2)) ∧ (kvs.map (·.1)).Nodup
  | .set S n, o => o.SetObjOf (avKind c.prog c.w) S n
  | .inst C dx sl, o => o.cls = .ref C ∧ o.dict = some dx ∧ o.data = .plain ∧ o.slots.toList.map (·.map er) = sl
  | .attrs kvs, o => ∃ es n, o = dictOf es n ∧ F2 (fun (e : DictEntry) (p : Str × AV) => (∃ t, e.key = .str p.1 t) ∧ er e.val = p.2) es kvs
  | .raw P, o => P o

noncomputable def FrmOk (h : Heap) (f : Frm) : Prop :=
  ∃ m, h.Ns f.L m ∧ (∀ x, f.cl.lookup x = none → (m x).map er = gv f.ns f.vs x) ∧
    ∀ p ∈ f.cl, ∃ ov : Option Value, h.IsCell p.2 ov ∧ ov.map er = gv f.ns f.vs p.1

structure St (c : Cx) (a : AS) (s : Shared) : Prop where
  keep : ∀ b o, c.base.get? b = some o → s.heap.get? b = some o
  fr : ∀ f ∈ a.fs, FrmOk s.heap f
  nb : ∀ f ∈ a.fs, ∀ x ∈ f.as, c.base.get? x = none
  nd : (a.fs.flatMap Frm.as).Nodup
  own : ∀ x k cl, a.σ x = some (k, cl) → (∃ o, s.heap.get? x = some o ∧ cl.ok c o) ∧ c.base.get? x = none ∧ x ∉ a.fs.flatMap Frm.as
  os : s.os = c.os
  gens : s.gens = a.gens

theorem St.of_eq {c : Cx} {a : AS} {s s' : Shared} (h : St c a s) (e1 : s'.heap = s.heap := by rfl) (e2 : s'.os = s.os := by rfl) (e3 : s'.gens = s.gens := by rfl) : St c a s' :=
  ⟨by rw [e1]; exact h.keep, by rw [e1]; exact h.fr, h.nb, h.nd, by rw [e1]; exact h.own, e2.trans h.os, e3.trans h.gens⟩

theorem lookup_mem {x : Str} {ca : Addr} : ∀ {l : List (Str × Addr)}, l.lookup x = some ca → (x, ca) ∈ l
  | [], h => by simp at h
  | (y, b) :: l, h => by
    rw [List.lookup_cons] at h
    by_cases e : x == y
    · simp only [e] at h; cases h; simp [beq_iff_eq.mp e]
    · simp only [e] at h; exact List.mem_cons_of_mem _ (lookup_mem h)

/-- frames survive a change of the heap that keeps them -/
theorem FrmOk.keeps {h h' : Heap} {f : Frm} (x : FrmOk h f) (k : ∀ b ∈ f.as, ∀ o, h.get? b = some o → h'.get? b = some o) : FrmOk h' f := by
  obtain ⟨m, ⟨o, es, ep, ho, r⟩, h2, h3⟩ := x
  refine ⟨m, ⟨o, es, ep, k _ (by simp [Frm.as]) _ ho, r⟩, h2, fun p hp => ?_⟩
  obtain ⟨ov, ⟨oc, hc, hd⟩, q⟩ := h3 p hp
  exact ⟨ov, ⟨oc, k _ (by simp only [Frm.as, List.mem_cons]; exact .inr (List.mem_map_of_mem hp)) _ hc, hd⟩, q⟩

noncomputable def upd (σ : Addr → Option (Nat × Cell)) (l : Addr) (x : Option (Nat × Cell)) : Addr → Option (Nat × Cell) := fun y => if y = l then x else σ y
@[simp] theorem upd_self {σ : Addr → Option (Nat × Cell)} {l : Addr} {x} : upd σ l x l = x := by simp [upd]
theorem upd_ne {σ : Addr → Option (Nat × Cell)} {l y : Addr} {x} (h : y ≠ l) : upd σ l x y = σ y := by simp [upd, h]

noncomputable def Ext (C : List Nat) (σ σ' : Addr → Option (Nat × Cell)) : Prop := ∀ x k cl, σ x = some (k, cl) → k ∉ C → σ' x = some (k, cl)
theorem Ext.refl {C : List Nat} {σ} : Ext C σ σ := fun _ _ _ h _ => h
theorem Ext.trans {C : List Nat} {σ σ' σ''} (h : Ext C σ σ') (h' : Ext C σ' σ'') : Ext C σ σ'' := fun x k cl e n => h' x k cl (h x k cl e n) n
theorem Ext.mono {C D : List Nat} {σ σ'} (h : Ext C σ σ') (s : ∀ k ∈ C, k ∈ D) : Ext D σ σ' := fun x k cl e n => h x k cl e fun q => n (s k q)
theorem Ext.nil {C : List Nat} {σ σ'} (h : Ext [] σ σ') : Ext C σ σ' := h.mono (by simp)
theorem Ext.upd_new {C : List Nat} {σ : Addr → Option (Nat × Cell)} {l : Addr} {x} (h : σ l = none) : Ext C σ (upd σ l x) := fun y k cl e _ => by
  rw [upd_ne (fun q => by rw [q, h] at e; cases e)]; exact e
theorem Ext.upd_own {C : List Nat} {σ : Addr → Option (Nat × Cell)} {l : Addr} {k cl x} (h : σ l = some (k, cl)) (hk : k ∈ C) : Ext C σ (upd σ l x) := fun y k' cl' e n => by
  rw [upd_ne (fun q => by rw [q, h] at e; cases e; exact n hk)]; exact e

theorem St.fresh {c : Cx} {a : AS} {s : Shared} (h : St c a s) : a.σ s.heap.objs.size = none ∧ s.heap.objs.size ∉ a.fs.flatMap Frm.as ∧ c.base.get? s.heap.objs.size = none := by
  refine ⟨?_, fun hm => ?_, ?_⟩
  · cases e : a.σ s.heap.objs.size with
    | none => rfl
    | some p =>
      obtain ⟨⟨o, ho, _⟩, _⟩ := h.own _ p.1 p.2 e
      exact absurd (Heap.lt_size ho) (Nat.lt_irrefl _)
  · obtain ⟨f, hf, hx⟩ := List.mem_flatMap.mp hm
    obtain ⟨m, hn, _, h3⟩ := h.fr f hf
    simp only [Frm.as, List.mem_cons, List.mem_map] at hx
    rcases hx with e | ⟨p, hp, e⟩
    · exact absurd (e ▸ hn.lt) (Nat.lt_irrefl _)
    · obtain ⟨ov, ⟨oc, hc, _⟩, _⟩ := h3 p hp
      exact absurd (e ▸ Heap.lt_size hc) (Nat.lt_irrefl _)
  · cases e : c.base.get? s.heap.objs.size with
    | none => rfl
    | some o => exact absurd (Heap.lt_size (h.keep _ _ e)) (Nat.lt_irrefl _)
end Mine

namespace Mine
open PySem PySem.W PyProof.Rows PySem.Calls

/-- another heap that keeps all but x; x is forgotten -/
theorem St.drop {c : Cx} {a : AS} {s : Shared} {h' : Heap} {x : Addr} {p : Nat × Cell} (h : St c a s) (hx : a.σ x = some p)
    (hs : ∀ b o, b ≠ x → s.heap.get? b = some o → h'.get? b = some o) : St c { a with σ := upd a.σ x none } { s with heap := h' } := by
  have hxo := h.own x p.1 p.2 hx
  refine ⟨fun b o e => hs b o (fun q => by rw [q, hxo.2.1] at e; cases e) (h.keep b o e), fun f hf => (h.fr f hf).keeps fun b hb o e => hs b o (fun q => ?_) e, h.nb, h.nd, fun y k cl e => ?_, h.os, h.gens⟩
  · exact hxo.2.2 (List.mem_flatMap.mpr ⟨f, hf, q ▸ hb⟩)
  · by_cases q : y = x
    · subst q; simp [upd] at e
    · simp only [upd_ne q] at e
      obtain ⟨⟨o, ho, ok⟩, r⟩ := h.own y k cl e
      exact ⟨⟨o, hs y o q ho, ok⟩, r⟩

theorem St.put {c : Cx} {a : AS} {s : Shared} {h' : Heap} {x : Addr} {p : Nat × Cell} {k' : Nat} {cl' : Cell} {o' : Obj} (h : St c a s) (hx : a.σ x = some p)
    (hs : ∀ b o, b ≠ x → s.heap.get? b = some o → h'.get? b = some o) (ho : h'.get? x = some o') (hk : cl'.ok c o') :
    St c { a with σ := upd a.σ x (some (k', cl')) } { s with heap := h' } := by
  have hxo := h.own x p.1 p.2 hx
  have D := h.drop hx hs
  refine ⟨D.keep, D.fr, D.nb, D.nd, fun y k cl e => ?_, D.os, D.gens⟩
  by_cases q : y = x
  · subst q
    simp only [upd_self, Option.some.injEq, Prod.mk.injEq] at e
    obtain ⟨rfl, rfl⟩ := e
    exact ⟨⟨o', ho, hk⟩, hxo.2⟩
  · simp only [upd_ne q] at e
    exact D.own y k cl (by simp only [upd_ne q]; exact e)

theorem St.alloc {c : Cx} {a : AS} {s : Shared} {k : Nat} {cl : Cell} {o : Obj} (h : St c a s) (hk : cl.ok c o) (hf : o.isFreed = false) :
    St c { a with σ := upd a.σ s.heap.objs.size (some (k, cl)) } { s with heap := s.heap.push o } := by
  obtain ⟨f1, f2, f3⟩ := h.fresh
  have hs : ∀ b o', s.heap.get? b = some o' → (s.heap.push o).get? b = some o' := fun b o' e => Heap.get?_push_of_some _ e
  refine ⟨fun b o e => hs b o (h.keep b o e), fun f hf => (h.fr f hf).keeps fun b _ o e => hs b o e, h.nb, h.nd, fun y k' cl' e => ?_, h.os, h.gens⟩
  by_cases q : y = s.heap.objs.size
  · subst q
    simp only [upd_self, Option.some.injEq, Prod.mk.injEq] at e
    obtain ⟨rfl, rfl⟩ := e
    exact ⟨⟨o, Heap.get?_push_size _ hf, hk⟩, f3, f2⟩
  · simp only [upd_ne q] at e
    obtain ⟨⟨o', ho, ok⟩, r⟩ := h.own y k' cl' e
    exact ⟨⟨o', hs y o' ho, ok⟩, r⟩

/-- a heap that keeps everything (new, unowned objects may stand in it) -/
theorem St.grow {c : Cx} {a : AS} {s : Shared} {h' : Heap} (h : St c a s) (hs : ∀ b o, s.heap.get? b = some o → h'.get? b = some o) : St c a { s with heap := h' } :=
  ⟨fun b o e => hs b o (h.keep b o e), fun f hf => (h.fr f hf).keeps fun b _ o e => hs b o e, h.nb, h.nd,
    fun y k cl e => let ⟨⟨o, ho, ok⟩, r⟩ := h.own y k cl e; ⟨⟨o, hs y o ho, ok⟩, r⟩, h.os, h.gens⟩

noncomputable def W (c : Cx) {α : Type} (A : Around) (t : Sem α) (Q : α → AS → Prop) (E : Value → AS → Prop) (a : AS) : Prop :=
  ∀ s, St c a s → wpAny (model c.prog c.w) A t (fun v s' => ∃ a', St c a' s' ∧ Q v a') (fun e s' => ∃ a', St c a' s' ∧ E e a') s

noncomputable def Wk (c : Cx) (A : Around) (k : Code) (R : Result → AS → Prop) (a : AS) : Prop :=
  ∀ s, St c a s → codeAny (model c.prog c.w) A k (fun r s' => ∃ a', St c a' s' ∧ R r a') s

section
variable {c : Cx} {α β : Type} {A : Around} {E : Value → AS → Prop} {a : AS} {env : Env}

theorem W_pure {v : α} {Q : α → AS → Prop} (h : Q v a) : W c A (pure v) Q E a := fun s hs => wpAny_pure ⟨a, hs, h⟩
theorem W_mono {t : Sem α} {Q Q' : α → AS → Prop} {E' : Value → AS → Prop} (h : W c A t Q E a) (hQ : ∀ v a, Q v a → Q' v a) (hE : ∀ e a, E e a → E' e a) : W c A t Q' E' a :=
  fun s hs => wpAny_mono (h s hs) (fun v s' ⟨a', h1, q⟩ => ⟨a', h1, hQ _ _ q⟩) fun e s' ⟨a', h1, q⟩ => ⟨a', h1, hE _ _ q⟩
theorem W_bind {t : Sem α} {f : α → Sem β} {Q : β → AS → Prop} (h : W c A t (fun v a' => W c A (f v) Q E a') E a) : W c A (t >>= f) Q E a :=
  fun s hs => wpAny_bind (wpAny_mono (h s hs) (fun v s' ⟨a', h1, q⟩ => q s' h1) fun _ _ x => x)
theorem W_holding {vs : List Value} {t : Sem α} {Q : α → AS → Prop} (h : W c A t Q E a) : W c A (holding vs t) Q E a := fun s hs => wpAny_holding (h s hs)
theorem W_standAt {p : Pos} {Q : Unit → AS → Prop} (h : Q () a) : W c A (standAt p) Q E a := fun s hs => wpAny_standAt ⟨a, hs, h⟩
theorem W_rule {p : String} {Q : Unit → AS → Prop} (h : Q () a) : W c A (rule p) Q E a := fun s hs => wpAny_rule ⟨a, hs, h⟩
/-- a rule of the library that takes one tree and its rest -/
theorem W_of1 {t : Sem β} {t1 : Sem α} {k : α → Sem β} {Q : β → AS → Prop}
    (R : ∀ (Q : β → Shared → Prop) (E : Value → Shared → Prop) (s : Shared), wpAny (model c.prog c.w) A t1 (fun v s1 => wpAny (model c.prog c.w) A (k v) Q E s1) E s → wpAny (model c.prog c.w) A t Q E s)
    (h : W c A t1 (fun v a1 => W c A (k v) Q E a1) E a) : W c A t Q E a := fun s hs => R _ _ _ (wpAny_mono (h s hs) (fun v s1 ⟨a1, h1, q⟩ => q s1 h1) fun _ _ x => x)
/-! statements -/
theorem W_nil {Q : Flow → AS → Prop} (h : Q .next a) : W c A (execs [] env) Q E a := fun s hs => wpAny_execs_nil ⟨a, hs, h⟩
theorem W_cons {st : Stmt} {rest : List Stmt} {Q : Flow → AS → Prop}
    (h : W c A (exec st env) (fun f a' => match f with | .next => W c A (execs rest env) Q E a' | f => Q f a') E a) : W c A (execs (st :: rest) env) Q E a := fun s hs =>
  wpAny_execs_cons (wpAny_mono (h s hs) (fun f s' ⟨a', h1, q⟩ => by cases f <;> first | exact q s' h1 | exact ⟨a', h1, q⟩) fun _ _ x => x)
theorem W_Expr {e : Expr} {pos : Pos} {Q : Flow → AS → Prop} (h : W c A (eval e env) (fun _ a' => Q .next a') E a)
    (hi : interactive env = false := by with_unfolding_all rfl) (hs : swapsWith e none pos.line env = pure false := by with_unfolding_all rfl) : W c A (exec (.Expr e pos) env) Q E a := fun s hs' =>
  wpAny_Expr_any (h s hs') hi hs
theorem W_Assign_Name {x : Str} {pos' : Pos} {value : Expr} {pos : Pos} {Q : Flow → AS → Prop}
    (h : W c A (eval value env) (fun v a₁ => W c A (storeName env x v) (fun _ => Q .next) E a₁) E a)
    (hs : swapsWith value (some (.Name x pos')) pos.line env = pure false := by with_unfolding_all rfl) : W c A (exec (.Assign [.Name x pos'] value pos) env) Q E a := fun s hs' =>
  wpAny_Assign_Name (wpAny_mono (h s hs') (fun v s₁ ⟨a1, h1, q⟩ => q s₁ h1) fun _ _ x => x) hs
theorem W_If {test : Expr} {body orelse : List Stmt} {pos : Pos} {Q : Flow → AS → Prop}
    (h : W c A (isTrue test env (eval test env)) (fun b a₂ => if b then W c A (execs body env) Q E a₂ else W c A (execs orelse env) Q E a₂) E a) : W c A (exec (.If test body orelse pos) env) Q E a := fun s hs =>
  wpAny_If (wpAny_mono (h s hs) (fun b s₂ ⟨a₂, h2, q⟩ => by cases b <;> exact q s₂ h2) fun _ _ x => x)
theorem W_Return_some {e : Expr} {pos : Pos} {Q : Flow → AS → Prop} (h : W c A (eval e env) (fun v a' => Q (.ret v) a') E a) : W c A (exec (.Return (some e) pos) env) Q E a := fun s hs =>
  wpAny_Return_some (h s hs)
theorem W_Break {pos : Pos} {Q : Flow → AS → Prop} (h : Q .brk a) : W c A (exec (.Break pos) env) Q E a := fun s hs => wpAny_Break ⟨a, hs, h⟩
theorem W_Continue {pos : Pos} {Q : Flow → AS → Prop} (h : Q .cont a) : W c A (exec (.Continue pos) env) Q E a := fun s hs => wpAny_Continue ⟨a, hs, h⟩
/-! expressions -/
theorem W_BinOp {l : Expr} {op : Operator} {r : Expr} {pos : Pos} {Q : Value → AS → Prop}
    (h : W c A (eval l env) (fun u a₁ => W c A (eval r env) (fun v a₂ => W c A (binaryOp op u v) Q E a₂) E a₁) E a) : W c A (eval (.BinOp l op r pos) env) Q E a := fun s hs =>
  wpAny_BinOp (wpAny_mono (h s hs) (fun u s₁ ⟨a₁, h1, q⟩ => wpAny_mono (q s₁ h1) (fun v s₂ ⟨a₂, h2, q⟩ => q s₂ h2) fun _ _ x => x) fun _ _ x => x)
theorem W_Compare1 {l : Expr} {op : CmpOp} {r : Expr} {pos : Pos} {Q : Value → AS → Prop}
    (h : W c A (eval l env) (fun u a₁ => W c A (eval r env) (fun v a₂ => W c A (compareOp op u v) Q E a₂) E a₁) E a)
    (hm : behindInMarks op r = false := by with_unfolding_all rfl) : W c A (eval (.Compare l [op] [r] pos) env) Q E a := fun s hs =>
  wpAny_Compare1 (wpAny_mono (h s hs) (fun u s₁ ⟨a₁, h1, q⟩ => wpAny_mono (q s₁ h1) (fun v s₂ ⟨a₂, h2, q⟩ => q s₂ h2) fun _ _ x => x) fun _ _ x => x) hm
theorem W_isTrue_Compare1 {l : Expr} {op : CmpOp} {r : Expr} {pos : Pos} {whole : Sem Value} {Q : Bool → AS → Prop}
    (h : W c A (eval l env) (fun u a₁ => W c A (eval r env) (fun v a₂ => W c A (compareOp op u v) (fun t a₃ => W c A (truthy t) Q E a₃) E a₂) E a₁) E a)
    (hm : behindInMarks op r = false := by with_unfolding_all rfl) : W c A (isTrue (.Compare l [op] [r] pos) env whole) Q E a := fun s hs =>
  wpAny_isTrue_Compare1 (wpAny_mono (h s hs) (fun u s₁ ⟨a₁, h1, q⟩ => wpAny_mono (q s₁ h1) (fun v s₂ ⟨a₂, h2, q⟩ => wpAny_mono (q s₂ h2) (fun t s₃ ⟨a₃, h3, q⟩ => q s₃ h3) fun _ _ x => x) fun _ _ x => x) fun _ _ x => x) hm
theorem W_truthy_bool {b : Bool} {Q : Bool → AS → Prop} (h : Q b a) : W c A (truthy (.bool b)) Q E a := fun s hs => wpAny_truthy_bool ⟨a, hs, h⟩
theorem W_UnaryOp {op : UnaryOp} {x : Expr} {pos : Pos} {Q : Value → AS → Prop} (h : W c A (eval x env) (fun v a₁ => W c A (unaryOp op v) Q E a₁) E a) : W c A (eval (.UnaryOp op x pos) env) Q E a :=
  W_of1 (fun _ _ _ => wpAny_UnaryOp) h
theorem W_And2 {x y : Expr} {pos : Pos} {Q : Value → AS → Prop}
    (h : W c A (eval x env) (fun v a₁ => W c A (truthy v) (fun t a₂ => if t then W c A (eval y env) Q E a₂ else Q v a₂) E a₁) E a) : W c A (eval (.BoolOp .And [x, y] pos) env) Q E a := fun s hs =>
  wpAny_And2 (wpAny_mono (h s hs) (fun v s₁ ⟨a₁, h1, q⟩ => wpAny_mono (q s₁ h1) (fun t s₂ ⟨a₂, h2, q⟩ => by cases t; exact ⟨a₂, h2, q⟩; exact q s₂ h2) fun _ _ x => x) fun _ _ x => x)
theorem W_Or2 {x y : Expr} {pos : Pos} {Q : Value → AS → Prop}
    (h : W c A (eval x env) (fun v a₁ => W c A (truthy v) (fun t a₂ => if t then Q v a₂ else W c A (eval y env) Q E a₂) E a₁) E a) : W c A (eval (.BoolOp .Or [x, y] pos) env) Q E a := fun s hs =>
  wpAny_Or2 (wpAny_mono (h s hs) (fun v s₁ ⟨a₁, h1, q⟩ => wpAny_mono (q s₁ h1) (fun t s₂ ⟨a₂, h2, q⟩ => by cases t; exact q s₂ h2; exact ⟨a₂, h2, q⟩) fun _ _ x => x) fun _ _ x => x)
theorem W_allTrue_nil {op : BoolOp} {Q : Bool → AS → Prop} (h : Q (op == .And) a) : W c A (allTrue op [] env) Q E a := W_pure h
theorem W_allTrue_or {x : Expr} {rest : List Expr} {Q : Bool → AS → Prop}
    (h : W c A (isTrue x env (eval x env)) (fun b a₁ => if b then Q true a₁ else W c A (allTrue .Or rest env) Q E a₁) E a) : W c A (allTrue .Or (x :: rest) env) Q E a := by
  show W c A (isTrue x env (eval x env) >>= _) Q E a
  refine W_bind (W_mono h (fun b a₁ q => ?_) fun _ _ x => x)
  cases b
  · exact q
  · exact W_pure q
theorem W_isTrue_BoolOp {op : BoolOp} {vs : List Expr} {pos : Pos} {whole : Sem Value} {Q : Bool → AS → Prop} (h : W c A (allTrue op vs env) Q E a) : W c A (isTrue (.BoolOp op vs pos) env whole) Q E a := h
theorem W_isTrue_any {e : Expr} {whole : Sem Value} {Q : Bool → AS → Prop}
    (h : W c A whole (fun v a₁ => W c A (truthy v) Q E a₁) E a) (he : isTrue e env whole = (do let v ← whole; standAt e.pos; holding [v] (truthy v)) := by with_unfolding_all rfl) : W c A (isTrue e env whole) Q E a := by
  rw [he]
  exact W_bind (W_mono h (fun v a₁ q => W_bind (W_standAt (W_holding q))) fun _ _ x => x)
theorem W_NamedExpr {x : Str} {p pos : Pos} {value : Expr} {Q : Value → AS → Prop}
    (h : W c A (eval value env) (fun v a₁ => W c A (storeName env x v) (fun _ a₂ => Q v a₂) E a₁) E a) : W c A (eval (.NamedExpr (.Name x p) value pos) env) Q E a := by
  show W c A (eval value env >>= _) Q E a
  refine W_bind (W_mono h (fun v a₁ q => W_bind (W_holding (W_bind (W_standAt ?_)))) fun _ _ x => x)
  exact fun s hs => wpAny_bindName (wpAny_mono (q s hs) (fun _ s' ⟨a', h1, q⟩ => ⟨a', h1, W_pure q⟩) fun _ _ x => x)
end
end Mine

namespace Mine
open PySem PySem.W PyProof.Rows PySem.Calls

@[reducible] noncomputable def All (v : AV) (P : Value → Prop) : Prop :=
  match v with
  | .none => P .none
  | .bool b => P (.bool b)
  | .int i => ∀ t, P (.int i t)
  | .str s => ∀ t, P (.str s t)
  | .ref a => P (.ref a)
  | .other v => P v

theorem All.at {v : AV} {P : Value → Prop} (h : All v P) {u : Value} (e : er u = v) : P u := by
  subst e
  cases u <;> first | exact h | exact h _
theorem All.of {v : AV} {P : Value → Prop} (h : ∀ u, er u = v → P u) (hv : ∀ u, v = .other u → er u = .other u := by intro u e; cases e) : All v P := by
  cases v <;> first | exact h _ rfl | exact fun t => h _ rfl | skip
  exact h _ (hv _ rfl)

inductive VarAt : List Str → List (Option AV) → Str → Option AV → Prop
  | here {x ns v vs} : VarAt (x :: ns) (v :: vs) x v
  | there {n ns w vs x v} : VarAt ns vs x v → VarAt (n :: ns) (w :: vs) x v
inductive SetVar : List Str → List (Option AV) → Str → Option AV → List (Option AV) → Prop
  | here {x ns w vs v} : SetVar (x :: ns) (w :: vs) x v (v :: vs)
  | there {n ns w vs x v vs'} : SetVar ns vs x v vs' → SetVar (n :: ns) (w :: vs) x v (w :: vs')

theorem VarAt.gv {ns : List Str} {vs : List (Option AV)} {x : Str} {v : Option AV} (h : VarAt ns vs x v) (hd : ns.Nodup) : gv ns vs x = v ∧ x ∈ ns := by
  induction h with
  | here => simp [Mine.gv]
  | @there n ns w vs x v h ih =>
    obtain ⟨e, hm⟩ := ih (List.nodup_cons.mp hd).2
    have hne : n ≠ x := fun q => (List.nodup_cons.mp hd).1 (q ▸ hm)
    exact ⟨by simp [Mine.gv, hne, e], List.mem_cons_of_mem _ hm⟩
theorem SetVar.gv {ns : List Str} {vs vs' : List (Option AV)} {x : Str} {v : Option AV} (h : SetVar ns vs x v vs') (hd : ns.Nodup) : (∀ y, gv ns vs' y = if y = x then v else gv ns vs y) ∧ x ∈ ns := by
  induction h with
  | @here x ns w vs v =>
    refine ⟨fun y => ?_, by simp⟩
    simp only [Mine.gv]
    by_cases e : x = y
    · subst e; simp
    · simp [e, Ne.symm e]
  | @there n ns w vs x v vs' h ih =>
    obtain ⟨e, hm⟩ := ih (List.nodup_cons.mp hd).2
    have hne : n ≠ x := fun q => (List.nodup_cons.mp hd).1 (q ▸ hm)
    refine ⟨fun y => ?_, List.mem_cons_of_mem _ hm⟩
    simp only [Mine.gv, e y]
    by_cases q : n = y
    · subst q; simp [hne]
    · simp [q]

noncomputable def Glob (c : Cx) (x : Str) (v : Value) : Prop :=
  (∃ mg, c.base.Ns mainGlobals mg ∧ mg x = some v) ∨ ∃ mg mb, c.base.Ns mainGlobals mg ∧ mg x = none ∧ c.base.Ns builtinsNs mb ∧ mb x = some v

structure EnvOk (c : Cx) (env : Env) (L : Addr) (cl : List (Str × Addr)) (ns : List Str) (gs : List (Str × Value)) : Prop where
  kind : env.scope.kind = .function
  loc : env.locals = L
  nd : ns.Nodup
  cn : (cl.map (·.1)).Nodup
  var : ∀ x ∈ ns, (x == ("__debug__" : Str)) = false ∧ ((cl.lookup x = none ∧ env.kindOf x = some .local) ∨ ∃ ca, cl.lookup x = some ca ∧ env.kindOf x = some .cell ∧ env.cells.lookup x = some ca)
  glo : ∀ p ∈ gs, (p.1 == ("__debug__" : Str)) = false ∧ env.kindOf p.1 = some .globalImplicit ∧ Glob c p.1 p.2
  gl : env.globals = mainGlobals
  bl : env.builtins = builtinsNs

section
variable {c : Cx} {A : Around} {E : Value → AS → Prop} {env : Env} {L : Addr} {cl : List (Str × Addr)} {ns : List Str} {gs : List (Str × Value)} {vs vs' : List (Option AV)} {fs : List Frm} {σ : Addr → Option (Nat × Cell)} {g : Array GenState} {x : Str}

theorem map_some_of {α β : Type} {f : α → β} {o : Option α} {b : β} (h : o.map f = some b) : ∃ a, o = some a ∧ f a = b := by
  cases o with
  | none => cases h
  | some a => exact ⟨a, rfl, Option.some.inj h⟩

theorem W_loadName {v : AV} {Q : Value → AS → Prop} (he : EnvOk c env L cl ns gs) (hv : VarAt ns vs x (some v)) (h : All v (fun u => Q u ⟨⟨L, cl, ns, vs⟩ :: fs, σ, g⟩)) :
    W c A (loadName env x) Q E ⟨⟨L, cl, ns, vs⟩ :: fs, σ, g⟩ := by
  intro s hs
  obtain ⟨e, hm⟩ := hv.gv he.nd
  obtain ⟨m, hn, h2, h3⟩ := hs.fr _ (List.mem_cons_self ..)
  rcases (he.var x hm).2 with ⟨hc, hk⟩ | ⟨ca, hc, hk, hcell⟩
  · obtain ⟨u, hu, eu⟩ := map_some_of ((h2 x hc).trans e)
    refine wpAny_loadName_local he.kind hk (by rw [he.loc]; exact hn) hu ⟨_, hs, h.at eu⟩
  · obtain ⟨ov, hov, eo⟩ := h3 _ (lookup_mem hc)
    obtain ⟨u, rfl, eu⟩ := map_some_of (eo.trans e)
    exact wpAny_loadName_cell he.kind hk hcell hov ⟨_, hs, h.at eu⟩

theorem W_Name {pos : Pos} {v : AV} {Q : Value → AS → Prop} (he : EnvOk c env L cl ns gs) (hv : VarAt ns vs x (some v)) (h : All v (fun u => Q u ⟨⟨L, cl, ns, vs⟩ :: fs, σ, g⟩)) :
    W c A (eval (.Name x pos) env) Q E ⟨⟨L, cl, ns, vs⟩ :: fs, σ, g⟩ := by
  intro s hs
  exact wpAny_Name (W_loadName he hv h s hs) (he.var x (hv.gv he.nd).2).1

theorem W_Glob {pos : Pos} {v : Value} {a : AS} {Q : Value → AS → Prop} (he : EnvOk c env L cl ns gs) (hv : (x, v) ∈ gs) (h : Q v a) : W c A (eval (.Name x pos) env) Q E a := by
  intro s hs
  obtain ⟨h1, h2, h3⟩ := he.glo _ hv
  refine Name_function_global he.kind h2 ?_ h1
  rcases h3 with ⟨mg, n1, n2⟩ | ⟨mg, mb, n1, n2, n3, n4⟩
  · exact loadGlobal_global (by rw [he.gl]; exact n1.keeps hs.keep) n2 ⟨a, hs, h⟩
  · exact loadGlobal_builtin (by rw [he.gl]; exact n1.keeps hs.keep) n2 (by rw [he.bl]; exact n3.keeps hs.keep) n4 ⟨a, hs, h⟩

theorem mem_as_ne {fs : List Frm} {f f' : Frm} (hnd : ((f :: fs).flatMap Frm.as).Nodup) {b b' : Addr} (hb : b ∈ f.as) (hf : f' ∈ fs) (hb' : b' ∈ f'.as) : b' ≠ b := fun e => by
  rw [List.flatMap_cons] at hnd
  exact (List.nodup_append.mp hnd).2.2 b hb b' (List.mem_flatMap.mpr ⟨f', hf, hb'⟩) e.symm

theorem nodup_inj {α β : Type} {f : α → β} : ∀ {l : List α}, (l.map f).Nodup → ∀ {p q : α}, p ∈ l → q ∈ l → f p = f q → p = q
  | [], _, _, _, hp, _, _ => by cases hp
  | r :: l, hd, p, q, hp, hq, e => by
    simp only [List.map_cons, List.nodup_cons] at hd
    rcases List.mem_cons.mp hp with hp' | hp' <;> rcases List.mem_cons.mp hq with hq' | hq'
    · rw [hp', hq']
    · exact absurd (by rw [← hp', e]; exact List.mem_map_of_mem hq') hd.1
    · exact absurd (by rw [← hq', ← e]; exact List.mem_map_of_mem hp') hd.1
    · exact nodup_inj hd.2 hp' hq' e

theorem W_storeName {u : Value} {Q : Unit → AS → Prop} (he : EnvOk c env L cl ns gs) (hv : SetVar ns vs x (some (er u)) vs') (h : Q () ⟨⟨L, cl, ns, vs'⟩ :: fs, σ, g⟩) :
    W c A (storeName env x u) Q E ⟨⟨L, cl, ns, vs⟩ :: fs, σ, g⟩ := by
  intro s hs
  obtain ⟨e, hm⟩ := hv.gv he.nd
  obtain ⟨m, hn, h2, h3⟩ := hs.fr _ (List.mem_cons_self ..)
  dsimp only at hn h2 h3
  have hnd := hs.nd
  rw [List.flatMap_cons] at hnd
  have hndh : (L :: cl.map (·.2)).Nodup := (List.nodup_append.mp hnd).1
  -- what both arms share: a heap that keeps all but one address of this frame
  have fin : ∀ (b : Addr) (h' : Heap) (tk : Nat), b ∈ (L :: cl.map (·.2)) → (∀ b' o, b' ≠ b → s.heap.get? b' = some o → h'.get? b' = some o) → FrmOk h' ⟨L, cl, ns, vs'⟩ →
      St c ⟨⟨L, cl, ns, vs'⟩ :: fs, σ, g⟩ { s with heap := h', toks := tk } := by
    intro b h' tk hb hk hfr
    have hbb := hs.nb _ (List.mem_cons_self ..) b hb
    refine ⟨fun b' o q => hk b' o (fun z => by rw [z, hbb] at q; cases q) (hs.keep b' o q), fun f hf => ?_, fun f hf => ?_, hs.nd, fun y k cl' q => ?_, hs.os, hs.gens⟩
    · rcases List.mem_cons.mp hf with rfl | hf
      · exact hfr
      · exact (hs.fr f (List.mem_cons_of_mem _ hf)).keeps fun b' hb' o q => hk b' o (mem_as_ne hs.nd hb hf hb') q
    · rcases List.mem_cons.mp hf with rfl | hf
      · exact hs.nb ⟨L, cl, ns, vs⟩ (List.mem_cons_self ..)
      · exact hs.nb f (List.mem_cons_of_mem _ hf)
    · obtain ⟨⟨o, ho, ok⟩, r1, r2⟩ := hs.own y k cl' q
      refine ⟨⟨o, hk y o (fun z => r2 ?_) ho, ok⟩, r1, r2⟩
      rw [List.flatMap_cons]
      exact List.mem_append_left _ (z ▸ hb)
  rcases (he.var x hm).2 with ⟨hc, hk⟩ | ⟨ca, hc, hk, hcell⟩
  · refine wpAny_storeName_local hk (by rw [he.loc]; exact hn) (fun h' hn' hsb => ⟨_, fin L h' _ (by simp) (fun b' o q z => ?_) ⟨_, by rw [← he.loc]; exact hn', fun y hy => ?_, fun p hp => ?_⟩, h⟩) (by rw [he.kind]; rfl)
    · rw [he.loc] at hsb; exact (hsb.2 b' q).trans z
    · dsimp only; rw [e y]
      by_cases q : y = x
      · simp [q]
      · simp only [if_neg q]; exact h2 y hy
    · obtain ⟨ov, ⟨oc, hoc, hod⟩, eo⟩ := h3 p hp
      have hne : p.2 ≠ L := fun z => (List.nodup_cons.mp hndh).1 (z ▸ List.mem_map_of_mem hp)
      have hpx : p.1 ≠ x := fun z => by
        have : ∀ l : List (Str × Addr), p ∈ l → l.lookup x ≠ none := by
          intro l hl q
          induction l with
          | nil => cases hl
          | cons r l ih =>
            rw [List.lookup_cons] at q
            by_cases w : x == r.1
            · simp [w] at q
            · simp only [w] at q
              rcases List.mem_cons.mp hl with rfl | hl
              · exact w (by simp [z])
              · exact ih hl q
        exact this cl hp hc
      refine ⟨ov, ⟨oc, (by rw [he.loc] at hsb; exact (hsb.2 _ hne).trans hoc), hod⟩, ?_⟩
      dsimp only; rw [e, if_neg hpx]; exact eo
  · obtain ⟨ov, hov, eo⟩ := h3 _ (lookup_mem hc)
    have hcam : ca ∈ cl.map (·.2) := List.mem_map_of_mem (lookup_mem hc)
    have hne : ca ≠ L := fun z => (List.nodup_cons.mp hndh).1 (z ▸ hcam)
    refine wpAny_storeName_cell he.kind hk hcell hov (fun h' hc' hsb => ⟨_, fin ca h' _ (List.mem_cons_of_mem _ hcam) (fun b' o q z => (hsb.2 b' q).trans z) ⟨m, hn.sameBut hsb (Ne.symm hne), fun y hy => ?_, fun p hp => ?_⟩, h⟩)
    · dsimp only; rw [e y, if_neg (fun z => by subst z; rw [hc] at hy; cases hy)]; exact h2 y hy
    · dsimp only; rw [e]
      by_cases q : p.2 = ca
      · have : p = (x, ca) := nodup_inj (f := (·.2)) (List.nodup_cons.mp hndh).2 hp (lookup_mem hc) q
        subst this
        exact ⟨_, hc', by simp⟩
      · obtain ⟨ov', ⟨oc, hoc, hod⟩, eo'⟩ := h3 p hp
        have hpx : p.1 ≠ x := fun z => q (congrArg (·.2) (nodup_inj (f := (·.1)) he.cn hp (lookup_mem hc) z))
        exact ⟨ov', ⟨oc, (hsb.2 _ q).trans hoc, hod⟩, by rw [if_neg hpx]; exact eo'⟩
end
end Mine

namespace Mine
open PySem PySem.W PyProof.Rows PySem.Calls

noncomputable def Link (A : Around) (fs : List Frm) : Prop := ∃ envs, A.frames = some envs ∧ ∀ e ∈ envs, e.scope.kind = .function ∧ ∃ f ∈ fs, e.frame = some f.L

structure AOk (A : Around) (fs : List Frm) (d : Nat) : Prop where
  depth : A.depth + 8 * d ≤ 900
  units : A.units + 200 * d ≤ 9000
  link : Link A fs
  guards : A.guards = some []
  handled : A.handled = none

theorem AOk.le {A : Around} {fs : List Frm} {d d' : Nat} (h : AOk A fs d) (hd : d' ≤ d) : AOk A fs d' :=
  ⟨by have := h.depth; omega, by have := h.units; omega, h.link, h.guards, h.handled⟩
theorem AOk.room {A : Around} {fs : List Frm} {d : Nat} (h : AOk A fs d) : A.depth < recursionLimit := by
  have := h.depth; unfold recursionLimit; omega
theorem AOk.deeper {A : Around} {fs : List Frm} {d : Nat} {env : Env} {f : Frm} (h : AOk A fs (d + 1)) (hk : env.scope.kind = .function) (hf : env.frame = some f.L) : AOk (A.deeper env) (f :: fs) d := by
  refine ⟨by have := h.depth; simp only [Around.deeper]; omega, by have := h.units; simp only [Around.deeper]; omega, ?_, h.guards, h.handled⟩
  obtain ⟨envs, e, r⟩ := h.link
  refine ⟨env :: envs, by simp [Around.deeper, e], fun e' he => ?_⟩
  rcases List.mem_cons.mp he with rfl | he
  · exact ⟨hk, f, List.mem_cons_self .., hf⟩
  · obtain ⟨k, f', hf', q⟩ := r e' he
    exact ⟨k, f', List.mem_cons_of_mem _ hf', q⟩
theorem AOk.pop {A : Around} {fs fs' : List Frm} {d : Nat} (h : AOk A fs d) (hs : ∀ f ∈ fs, ∃ f' ∈ fs', f'.L = f.L) : AOk A fs' d := by
  refine ⟨h.depth, h.units, ?_, h.guards, h.handled⟩
  obtain ⟨envs, e, r⟩ := h.link
  refine ⟨envs, e, fun e' he => ?_⟩
  obtain ⟨k, f, hf, q⟩ := r e' he
  obtain ⟨f', hf', q'⟩ := hs f hf
  exact ⟨k, f', hf', q' ▸ q⟩
/-- the frame's values may change -/
theorem AOk.vs {A : Around} {fs : List Frm} {d : Nat} {L : Addr} {cl ns vs vs'} (h : AOk A (⟨L, cl, ns, vs⟩ :: fs) d) : AOk A (⟨L, cl, ns, vs'⟩ :: fs) d :=
  h.pop fun f hf => by
    rcases List.mem_cons.mp hf with rfl | hf
    · exact ⟨_, List.mem_cons_self .., rfl⟩
    · exact ⟨f, List.mem_cons_of_mem _ hf, rfl⟩
theorem AOk.under {A : Around} {fs : List Frm} {d : Nat} {k : Code} (h : AOk A fs (d + 1)) (hw : k.weight ≤ 8) (hu : k.cUnits ≤ 200) (he : k.envs = []) (hg : k.guards = []) : AOk (A.under k) fs d := by
  refine ⟨by have := h.depth; simp only [Around.under]; omega, by have := h.units; simp only [Around.under]; omega, ?_, ?_, h.handled⟩
  · obtain ⟨envs, e, r⟩ := h.link
    exact ⟨envs, by simp [Around.under, he, pushEnvs, e], r⟩
  · simp [Around.under, hg, pushGuards, h.guards]
theorem St.pop {c : Cx} {f : Frm} {fs : List Frm} {σ g} {s : Shared} (h : St c ⟨f :: fs, σ, g⟩ s) : St c ⟨fs, σ, g⟩ s := by
  refine ⟨h.keep, fun f' hf => h.fr f' (List.mem_cons_of_mem _ hf), fun f' hf => h.nb f' (List.mem_cons_of_mem _ hf), ?_, fun x k cl e => ?_, h.os, h.gens⟩
  · have := h.nd; rw [List.flatMap_cons] at this; exact (List.nodup_append.mp this).2.1
  · obtain ⟨h1, h2, h3⟩ := h.own x k cl e
    exact ⟨h1, h2, fun q => h3 (by rw [List.flatMap_cons]; exact List.mem_append_right _ q)⟩

inductive Init : List Str → List AV → List Str → List (Option AV) → Prop
  | nil : Init [] [] [] []
  | rest {r rs vs} : Init [] [] rs vs → Init [] [] (r :: rs) (none :: vs)
  | cons {p ps u us rs vs} : Init ps us rs vs → Init (p :: ps) (u :: us) rs (some u :: vs)

theorem Init.none {us : List AV} {rs : List Str} {vs : List (Option AV)} : Init [] us rs vs → ∀ x, gv rs vs x = none := by
  intro h x
  generalize hp : ([] : List Str) = ps at h
  induction h with
  | nil => simp [gv]
  | rest _ ih => simp only [gv]; rw [ih rfl]; simp
  | cons _ _ => cases hp
theorem Init.gv {ps rs : List Str} {us : List AV} {vs : List (Option AV)} (h : Init ps us rs vs) : ∀ args : List Value, args.map er = us → ∀ x, ((ps.zip args).lookup x).map er = gv (ps ++ rs) vs x := by
  induction h with
  | nil => intro args e x; simp [Mine.gv]
  | @rest r rs vs h ih =>
    intro args e x
    have := (Init.rest h (r := r)).none x
    simp only [List.nil_append] at this ⊢
    rw [this]; simp
  | @cons p ps u us rs vs h ih =>
    intro args e x
    cases args with
    | nil => cases e
    | cons v args =>
      simp only [List.map_cons, List.cons.injEq] at e
      simp only [List.zip_cons_cons, List.cons_append, Mine.gv, List.lookup_cons]
      by_cases q : p = x
      · subst q; simp [e.1]
      · have : (x == p) = false := beq_eq_false_iff_ne.mpr (Ne.symm q)
        simp only [this, if_neg q]
        exact ih args e.2 x

theorem lookup_reverse {l : List (Str × Value)} (hd : (l.map (·.1)).Nodup) (x : Str) : l.reverse.lookup x = l.lookup x := by
  induction l with
  | nil => rfl
  | cons p l ih =>
    simp only [List.map_cons, List.nodup_cons] at hd
    obtain ⟨y, v⟩ := p
    rw [List.reverse_cons, List.lookup_append, ih hd.2]
    simp only [List.lookup_cons, List.lookup_nil]
    dsimp only at hd
    by_cases e : x == y
    · have : l.lookup x = none := by
        cases q : l.lookup x with
        | none => rfl
        | some v =>
          exfalso
          apply hd.1
          rw [← beq_iff_eq.mp e]
          clear ih hd e
          induction l with
          | nil => cases q
          | cons r l ih =>
            rw [List.lookup_cons] at q
            by_cases w : x == r.1
            · simp [beq_iff_eq.mp w]
            · simp only [w] at q
              exact List.mem_cons_of_mem _ (ih q)
      rw [this]; simp [e]
    · simp only [e]
      cases l.lookup x <;> simp

noncomputable def Pop (fs : List Frm) (P : AS → Prop) (a : AS) : Prop := ∃ f', a.fs = f' :: fs ∧ P ⟨fs, a.σ, a.gens⟩

theorem zip_fst {ps : List Str} {args : List Value} : ∀ p ∈ (ps.zip args).map (·.1), p ∈ ps := by
  intro p hp
  obtain ⟨q, hq, rfl⟩ := List.mem_map.mp hp
  exact (List.of_mem_zip hq).1
theorem zip_nodup {ps : List Str} {args : List Value} (h : ps.Nodup) : ((ps.zip args).map (·.1)).Nodup := by
  induction ps generalizing args with
  | nil => simp
  | cons p ps ih =>
    cases args with
    | nil => simp
    | cons v args =>
      simp only [List.zip_cons_cons, List.map_cons, List.nodup_cons] at h ⊢
      exact ⟨fun q => h.1 (zip_fst _ q), ih h.2⟩

@[reducible] noncomputable def retOf : Flow → Value
  | .ret v => v
  | _ => .none

section
variable {c : Cx} {A : Around} {E : Value → AS → Prop} {fs : List Frm} {σ : Addr → Option (Nat × Cell)} {g : Array GenState} {d : Nat}

/-- a def's call, its arguments bound by place -/
theorem Wk_call_fn {fd : FuncData} {f : Addr} {o : Obj} {body : List Stmt} {args vals : List Value} {us : List AV} {ps rs : List Str} {vs : List (Option AV)} {R : Result → AS → Prop}
    (ho : c.K.lookup f = some o) (hdata : o.data = .func fd) (hcd : codeIn c.K fd.code fd.qualname = true) (hbody : fd.body = .stmts body)
    (hbind : ∀ s : Shared, c.K.In s.heap → BindsTo s fd ⟨args, []⟩ (ps.zip vals)) (hu : vals.map er = us) (hi : Init ps us rs vs) (hnd : (ps ++ rs).Nodup)
    (hcell : ∀ x ∈ fd.scope.names, x.2 ≠ .cell) (hloc : ∀ x ∈ ps, fd.scope.names.lookup x = some .local) (hA : AOk A fs (d + 1))
    (h : ∀ L, σ L = none → AOk (A.deeper (callEnv fd L f)) (⟨L, [], ps ++ rs, vs⟩ :: fs) d →
      W c (A.deeper (callEnv fd L f)) (execs body (callEnv fd L f)) (fun fl a' => Pop fs (R (.ok (.ret (retOf fl)))) a')
        (fun e a' => W c (A.deeper (callEnv fd L f)) (leaving (callEnv fd L f) e) (fun _ a'' => Pop fs (R (.error e)) a'') (fun _ _ => False) a') ⟨⟨L, [], ps ++ rs, vs⟩ :: fs, σ, g⟩)
    (hco : fd.scope.isCoroutine = false := by rfl) (hgen : fd.scope.isGenerator = false := by rfl) (hk : fd.scope.kind = .function := by rfl) :
    Wk c A (.call (.ref f) ⟨args, []⟩) R ⟨fs, σ, g⟩ := by
  intro s hs
  obtain ⟨f1, f2, f3⟩ := hs.fresh
  have X : c.K.In s.heap := c.inK.keeps hs.keep
  refine codeAny_call_def hA.room (X _ _ ho) hdata (c.nolim.keeps hs.keep) (codeRec_of X hcd) hbody (hbind s X) hcell (fun x hx => hloc _ (List.of_mem_zip hx).1) (fun h₀ hns hk₀ => ?_) hco hgen hk
  have S : St c ⟨⟨s.heap.objs.size, [], ps ++ rs, vs⟩ :: fs, σ, g⟩ { s with heap := h₀, toks := s.toks + (ps.zip vals).length } := by
    refine ⟨fun b o e => hk₀ b o (hs.keep b o e), fun f' hf => ?_, fun f' hf => ?_, ?_, fun x k cl e => ?_, hs.os, hs.gens⟩
    · rcases List.mem_cons.mp hf with rfl | hf
      · refine ⟨_, hns, fun x _ => ?_, fun p hp => by cases hp⟩
        dsimp only
        rw [lookup_reverse (zip_nodup (List.nodup_append.mp hnd).1)]
        exact hi.gv vals hu x
      · exact (hs.fr f' hf).keeps fun b _ o e => hk₀ b o e
    · rcases List.mem_cons.mp hf with rfl | hf
      · intro x hx
        simp only [Frm.as, List.map_nil, List.mem_singleton] at hx
        rw [hx]; exact f3
      · exact hs.nb f' hf
    · rw [List.flatMap_cons]
      refine List.nodup_append.mpr ⟨by simp [Frm.as], hs.nd, fun x hx y hy e => ?_⟩
      simp only [Frm.as, List.map_nil, List.mem_singleton] at hx
      exact f2 (by rw [← hx, e]; exact hy)
    · obtain ⟨⟨o', ho', ok⟩, r1, r2⟩ := hs.own x k cl e
      refine ⟨⟨o', hk₀ _ _ ho', ok⟩, r1, fun q => ?_⟩
      rw [List.flatMap_cons] at q
      rcases List.mem_append.mp q with q | q
      · simp only [Frm.as, List.map_nil, List.mem_singleton] at q
        rw [q] at e; dsimp only at e f1; rw [f1] at e; cases e
      · exact r2 q
  refine wpAny_mono (h _ f1 (hA.deeper hk rfl) _ S) (fun fl s' ⟨a', h1, f', e1, q⟩ => ?_) (fun e s' ⟨a', h1, q⟩ => ?_)
  · obtain ⟨fs', σ', g'⟩ := a'
    dsimp only at e1 q; subst e1
    exact ⟨_, h1.pop, by cases fl <;> exact q⟩
  · refine wpAny_mono (q s' h1) (fun _ s'' ⟨a'', h2, f', e1, q⟩ => ?_) fun _ _ ⟨_, _, x⟩ => x.elim
    obtain ⟨fs', σ', g'⟩ := a''
    dsimp only at e1 q; subst e1
    exact ⟨_, h2.pop, q⟩

theorem W_call {f : Value} {args : List Value} {kw : List (Str × Value)} {a : AS} {Q : Value → AS → Prop}
    (h : Wk c A (.call f ⟨args, kw⟩) (fun r a' => match r with | .ok (.ret v) => Q v a' | .ok _ => False | .error e => E e a') a) : W c A (call f args kw) Q E a := fun s hs =>
  wpAny_call (codeAny_mono (h s hs) fun r s' ⟨a', h1, q⟩ => by
    rcases r with e | (_ | _ | _ | v) <;> first | exact ⟨a', h1, q⟩ | exact q.elim)

end
end Mine

namespace Mine
open PySem PySem.W PyProof.Rows PySem.Calls

theorem wpAny_keep' {M : Model} {A : Around} {α : Type} {vs : List Value} {m : Sem α} {Q : α → Shared → Prop} {E : Value → Shared → Prop} {s : Shared} (h : wpAny M A m Q E s) : wpAny M A (m.keep vs) Q E s :=
  fun Γ p hΓ => by rw [Sem.wp_keep]; exact h Γ p hΓ
theorem wpAny_operate' {M : Model} {A : Around} {vs : List Value} {m : Sem Value} {Q : Value → Shared → Prop} {E : Value → Shared → Prop} {s : Shared} (h : wpAny M A m Q E s) : wpAny M A (operate vs m) Q E s :=
  fun Γ p hΓ => by rw [Sem.wp_operate]; exact h Γ p hΓ
theorem wpAny_point' {M : Model} {A : Around} {Q : Unit → Shared → Prop} {E : Value → Shared → Prop} {s : Shared} (h : Q () s) : wpAny M A point Q E s :=
  fun Γ p hΓ => h

noncomputable def Kp (c : Cx) (f : Value) (a : AS) : Prop := ∀ s, St c a s → ∃ k, Looks (model c.prog c.w) s.heap (keeperOf f) k

section
variable {c : Cx} {A : Around} {E : Value → AS → Prop} {a : AS} {env : Env}

theorem Kp.builtin {id : String} : Kp c (.builtin id) a := fun s hs => ⟨_, Looks.of_pure rfl⟩
theorem Kp.type {id : String} : Kp c (.type id) a := fun s hs => ⟨_, Looks.of_pure rfl⟩
theorem W_callWith {f : Value} {first : List Value} {pos : Pos} {args : List (Bool × Sem Value)} {kws : List (Option Str × Sem Value)} {Q : Value → AS → Prop}
    (h : W c A (evalArgs f true args kws) (fun x a₁ => Kp c f a₁ ∧ W c A (call f (first ++ x.pos) x.kw) Q E a₁) E a) : W c A (callWith pos f first args kws) Q E a := by
  intro s hs
  unfold callWith
  refine wpAny_bind (wpAny_holding (wpAny_mono (h s hs) (fun x s₁ ⟨a₁, h1, kp, q⟩ => wpAny_bind (wpAny_standAt ?_)) fun _ _ x => x))
  obtain ⟨k, hk⟩ := kp s₁ h1
  have main := q s₁ h1
  refine wpAny_bind (hk.here ?_)
  have fin : ∀ (v : Value) (s₂ : Shared), (∃ a', St c a' s₂ ∧ Q v a') → wpAny (model c.prog c.w) A (do holding [v] point; pure v) (fun v s' => ∃ a', St c a' s' ∧ Q v a') (fun e s' => ∃ a', St c a' s' ∧ E e a') s₂ := fun v s₂ x =>
    wpAny_bind (wpAny_holding (wpAny_point' (wpAny_pure x)))
  have main' := wpAny_mono main fin (fun _ _ x => x)
  cases k <;> cases hst : (args.any (·.1) || kws.any (·.1.isNone)) <;> dsimp only <;> (try split) <;> first
    | exact wpAny_bind main'
    | exact wpAny_bind (wpAny_keep' main')
    | exact wpAny_bind (wpAny_operate' main')

theorem W_evalArgs {f : Value} {x : Sem Value} {rest : List (Bool × Sem Value)} {Q : Args → AS → Prop}
    (h : W c A (spliced ((false, x) :: rest)) (fun vs a₁ => Q ⟨vs, []⟩ a₁) E a) : W c A (evalArgs f true ((false, x) :: rest) []) Q E a := by
  intro s hs
  refine evalArgs_kw rfl (wpAny_mono (h s hs) (fun vs s₁ q => ?_) fun _ _ x => x)
  exact wpAny_evalAll_nil q
theorem W_evalArgs_nil {f : Value} {Q : Args → AS → Prop} (h : Q ⟨[], []⟩ a) : W c A (evalArgs f true [] []) Q E a := by
  intro s hs
  exact evalArgs_kw_nil rfl (wpAny_evalAll_nil ⟨a, hs, h⟩)
theorem W_spliced_nil {Q : List Value → AS → Prop} (h : Q [] a) : W c A (spliced []) Q E a := fun s hs => spliced_nil ⟨a, hs, h⟩
theorem W_spliced_cons {x : Sem Value} {rest : List (Bool × Sem Value)} {Q : List Value → AS → Prop}
    (h : W c A x (fun v a₁ => W c A (spliced rest) (fun vs a₂ => Q (v :: vs) a₂) E a₁) E a) : W c A (spliced ((false, x) :: rest)) Q E a := by
  show W c A (x >>= _) Q E a
  refine W_bind (W_mono h (fun v a₁ q => ?_) fun _ _ x => x)
  refine W_bind (W_pure ?_)
  exact W_bind (W_holding (W_mono q (fun vs a₂ q => W_pure q) fun _ _ x => x))

theorem W_Call_Name {x : Str} {np pos : Pos} {args : List Expr} {Q : Value → AS → Prop}
    (h : W c A (eval (.Name x np) env) (fun f a₁ => W c A (callWith pos f [] (backTo pos (starEach args env)) []) Q E a₁) E a) : W c A (eval (.Call (.Name x np) args [] pos) env) Q E a := fun s hs =>
  wpAny_Call_NameR (wpAny_mono (h s hs) (fun f s₁ ⟨a₁, h1, q⟩ => q s₁ h1) fun _ _ x => x)

theorem W_List {elts : List Expr} {pos : Pos} {Q : Value → AS → Prop}
    (h : W c A (spliced (backTo pos (starEach elts env))) (fun vs a₁ => W c A (newList vs) Q E a₁) E a) : W c A (eval (.List elts pos) env) Q E a := by
  show W c A (do standAt pos; newList (← spliced (backTo pos (starEach elts env)))) Q E a
  exact W_bind (W_standAt (W_bind h))
theorem W_Tuple {elts : List Expr} {k : Nat} {pos : Pos} {Q : Value → AS → Prop}
    (h : W c A (spliced (backTo pos (starEach elts env))) (fun vs a₁ => W c A (newTuple vs) Q E a₁) E a) : W c A (eval (.Tuple elts k pos) env) Q E a := by
  show W c A (do standAt pos; newTuple (← spliced (backTo pos (starEach elts env)))) Q E a
  exact W_bind (W_standAt (W_bind h))

theorem W_Const_int {i : Int} {k : Nat} {pos : Pos} {Q : Value → AS → Prop} (h : ∀ t, Q (.int i t) a) : W c A (eval (.Constant (.int i) k pos) env) Q E a := fun s hs =>
  wpAny_Constant_int ⟨a, hs.of_eq, h _⟩
theorem W_Const_str {x : Str} {k : Nat} {pos : Pos} {Q : Value → AS → Prop} (h : ∀ t, Q (.str x t) a) : W c A (eval (.Constant (.str x) k pos) env) Q E a := fun s hs =>
  wpAny_mkText ⟨a, hs.of_eq, h _⟩
theorem W_Const_none {k : Nat} {pos : Pos} {Q : Value → AS → Prop} (h : Q .none a) : W c A (eval (.Constant .none k pos) env) Q E a := fun s hs => wpAny_pure ⟨a, hs, h⟩
theorem W_Const_bool {b : Bool} {k : Nat} {pos : Pos} {Q : Value → AS → Prop} (h : Q (.bool b) a) : W c A (eval (.Constant (.bool b) k pos) env) Q E a := fun s hs => wpAny_pure ⟨a, hs, h⟩
end
end Mine

namespace Mine
open PySem PySem.W PyProof.Rows PySem.Calls

noncomputable def AV.plain : AV → Bool
  | .other _ => false
  | _ => true
theorem handed_plain {u : Value} {v : AV} (e : er u = v) (h : v.plain = true) : handedIn u = true := by
  subst e
  cases u <;> first | rfl | (simp [er, AV.plain] at h)

/-- the state under the library's frame and ledger: everything but one object and the frame's own table -/
theorem news_all {s : Shared} {L dx : Addr} {m : Str → Option Value} {od : Obj} (hn : s.heap.Ns L m) (hd : s.heap.get? dx = some od) (ne : dx ≠ L) :
    ∃ others : List (Addr × Obj), Fr {} L s.heap m ∧ News {} L s.heap (others ++ (dx, od) :: []) ∧ (∀ p ∈ others, p.1 ≠ dx) ∧ ∀ b o, b ≠ dx → b ≠ L → s.heap.get? b = some o → (b, o) ∈ others := by
  have emp : ∀ b, (({} : Heap).get? b) = none := fun b => by simp [Heap.get?]
  refine ⟨(List.range s.heap.objs.size).filterMap fun b => if b = dx ∨ b = L then none else (s.heap.get? b).map (b, ·), ⟨hn, (fun b o e => by rw [emp] at e; cases e), (by simp)⟩, fun p hp => ?_, fun p hp => ?_, fun b o h1 h2 h3 => ?_⟩
  · rcases List.mem_append.mp hp with hp | hp
    · obtain ⟨b, _, e⟩ := List.mem_filterMap.mp hp
      split at e
      · cases e
      · rename_i h
        obtain ⟨o, ho, rfl⟩ := Option.map_eq_some_iff.mp e
        simp only [not_or] at h
        exact ⟨ho, h.2, emp _⟩
    · obtain rfl := List.mem_singleton.mp hp
      exact ⟨hd, ne, emp _⟩
  · obtain ⟨b, _, e⟩ := List.mem_filterMap.mp hp
    split at e
    · cases e
    · rename_i h
      obtain ⟨o, ho, rfl⟩ := Option.map_eq_some_iff.mp e
      simp only [not_or] at h
      exact h.1
  · refine List.mem_filterMap.mpr ⟨b, List.mem_range.mpr (Heap.lt_size h3), ?_⟩
    rw [if_neg (by simp [h1, h2]), h3]; rfl

/-- another heap: all but x and the first frame's table is kept, that table reads as before -/
theorem St.put' {c : Cx} {L : Addr} {cl ns vs fs σ g} {s : Shared} {h' : Heap} {m : Str → Option Value} {x : Addr} {p : Nat × Cell} {k' : Nat} {cl' : Cell} {o' : Obj} (h : St c ⟨⟨L, cl, ns, vs⟩ :: fs, σ, g⟩ s) (hx : σ x = some p)
    (hm : ∀ m', s.heap.Ns L m' → m' = m) (hm' : h'.Ns L m)
    (hs : ∀ b o, b ≠ x → b ≠ L → s.heap.get? b = some o → h'.get? b = some o) (ho : h'.get? x = some o') (hk : cl'.ok c o') :
    St c ⟨⟨L, cl, ns, vs⟩ :: fs, upd σ x (some (k', cl')), g⟩ { s with heap := h' } := by
  have hxo := h.own x p.1 p.2 hx
  have hLb := h.nb _ (List.mem_cons_self ..) L (by simp [Frm.as])
  have nL : ∀ b ∈ cl.map (·.2), b ≠ L := fun b hb e => by
    have := h.nd; rw [List.flatMap_cons] at this
    exact (List.nodup_cons.mp (List.nodup_append.mp this).1).1 (e ▸ hb)
  refine ⟨fun b o e => hs b o (fun q => by rw [q, hxo.2.1] at e; cases e) (fun q => by rw [q, hLb] at e; cases e) (h.keep b o e), fun f hf => ?_, h.nb, h.nd, fun y k cl e => ?_, h.os, h.gens⟩
  · rcases List.mem_cons.mp hf with rfl | hf
    · obtain ⟨m0, hn0, h2, h3⟩ := h.fr _ (List.mem_cons_self ..)
      have e0 := hm m0 hn0
      subst e0
      refine ⟨_, hm', h2, fun p hp => ?_⟩
      obtain ⟨ov, ⟨oc, hoc, hod⟩, eo⟩ := h3 p hp
      refine ⟨ov, ⟨oc, hs _ _ (fun q => ?_) (nL _ (List.mem_map_of_mem hp)) hoc, hod⟩, eo⟩
      exact hxo.2.2 (by rw [List.flatMap_cons]; exact List.mem_append_left _ (List.mem_cons_of_mem _ (q ▸ List.mem_map_of_mem hp)))
    · refine (h.fr f (List.mem_cons_of_mem _ hf)).keeps fun b hb o e => hs b o (fun q => ?_) (mem_as_ne h.nd (by simp [Frm.as]) hf hb) e
      exact hxo.2.2 (List.mem_flatMap.mpr ⟨f, List.mem_cons_of_mem _ hf, q ▸ hb⟩)
  · by_cases q : y = x
    · subst q
      simp only [upd_self, Option.some.injEq, Prod.mk.injEq] at e
      obtain ⟨rfl, rfl⟩ := e
      exact ⟨⟨o', ho, hk⟩, hxo.2⟩
    · simp only [upd_ne q] at e
      obtain ⟨⟨o, ho1, ok⟩, r1, r2⟩ := h.own y k cl e
      refine ⟨⟨o, hs y o q (fun z => r2 ?_) ho1, ok⟩, r1, r2⟩
      rw [List.flatMap_cons]; exact List.mem_append_left _ (by simp [Frm.as, z])

theorem ns_unique {h : Heap} {L : Addr} {m m' : Str → Option Value} (a : h.Ns L m) (b : h.Ns L m') : m' = m := by
  obtain ⟨o, es, ep, ho, hd, _, hf⟩ := a
  obtain ⟨o', es', ep', ho', hd', _, hf'⟩ := b
  rw [ho] at ho'; cases ho'
  rw [hd] at hd'; cases hd'
  funext x; rw [← hf, ← hf']

inductive PutAt : List (Str × AV) → Str → AV → List (Str × AV) → Prop
  | here {x w v l} : PutAt ((x, w) :: l) x v ((x, v) :: l)
  | there {y w x v l l'} : PutAt l x v l' → PutAt ((y, w) :: l) x v ((y, w) :: l')
  | new {x v} : PutAt [] x v [(x, v)]

theorem getL_of {es : List DictEntry} {kvs : List (Str × AV)} (h : F2 (fun (e : DictEntry) (p : Str × AV) => (∃ t, e.key = .str p.1 t) ∧ er e.val = p.2) es kvs) (hd : (kvs.map (·.1)).Nodup) {name : Str} {v : AV} (hv : (name, v) ∈ kvs) :
    ∃ u, getL name es = some (some u) ∧ er u = v := by
  induction h with
  | nil => cases hv
  | @cons e p es kvs hr _ ih =>
    obtain ⟨⟨t, ek⟩, ev⟩ := hr
    simp only [List.map_cons, List.nodup_cons] at hd
    rcases List.mem_cons.mp hv with q | q
    · subst q
      refine ⟨e.val, ?_, ev⟩
      unfold getL
      rw [List.find?_cons, ek]
      simp [Value.isStr]
    · obtain ⟨u, hu, eu⟩ := ih hd.2 q
      refine ⟨u, ?_, eu⟩
      have hne : p.1 ≠ name := fun z => hd.1 (z ▸ List.mem_map_of_mem q)
      unfold getL at hu ⊢
      rw [List.find?_cons, ek]
      have : (Value.str p.1 t).isStr name = false := by simp [Value.isStr, hne]
      rw [this]
      revert hu
      cases q' : es.find? (fun x => x.key.isStr name) with
      | some e' => exact id
      | none => intro hu; by_cases z : es.any (·.refKey) = true <;> simp [z] at hu
theorem noRef {es : List DictEntry} {kvs : List (Str × AV)} (h : F2 (fun (e : DictEntry) (p : Str × AV) => (∃ t, e.key = .str p.1 t) ∧ er e.val = p.2) es kvs) : es.any (·.refKey) = false := by
  induction h with
  | nil => rfl
  | @cons e p es kvs hr _ ih =>
    obtain ⟨⟨t, ek⟩, ev⟩ := hr
    rw [List.any_cons, ih]
    obtain ⟨eh, ekk, evv⟩ := e
    dsimp only at ek; subst ek; rfl
theorem getL_none {es : List DictEntry} {kvs : List (Str × AV)} (h : F2 (fun (e : DictEntry) (p : Str × AV) => (∃ t, e.key = .str p.1 t) ∧ er e.val = p.2) es kvs) {name : Str} (hv : name ∉ kvs.map (·.1)) :
    getL name es = some none := by
  have h1 : es.find? (fun x => x.key.isStr name) = none ∧ es.any (·.refKey) = false := by
    induction h with
    | nil => exact ⟨rfl, rfl⟩
    | @cons e p es kvs hr _ ih =>
      obtain ⟨⟨t, ek⟩, ev⟩ := hr
      simp only [List.map_cons, List.mem_cons, not_or] at hv
      have : (Value.str p.1 t).isStr name = false := by simp [Value.isStr, Ne.symm hv.1]
      obtain ⟨i1, i2⟩ := ih hv.2
      refine ⟨by rw [List.find?_cons, ek, this]; exact i1, ?_⟩
      rw [List.any_cons, i2]
      obtain ⟨eh, ekk, evv⟩ := e
      dsimp only at ek; subst ek; rfl
  unfold getL; rw [h1.1, h1.2]; rfl
theorem putL_of {w : World} {es : List DictEntry} {kvs kvs' : List (Str × AV)} (h : F2 (fun (e : DictEntry) (p : Str × AV) => (∃ t, e.key = .str p.1 t) ∧ er e.val = p.2) es kvs) {name : Str} {u : Value} {hsh : Int} {t : Tok}
    (hp : PutAt kvs name (er u) kvs') (hd : (kvs'.map (·.1)).Nodup) : F2 (fun (e : DictEntry) (p : Str × AV) => (∃ t, e.key = .str p.1 t) ∧ er e.val = p.2) (putL name hsh (.str name t) u es) kvs' := by
  generalize hv : er u = v at hp
  induction hp generalizing es with
  | @here x w v l =>
    cases h with
    | @cons e p es kvs hr hl =>
      obtain ⟨⟨t', ek⟩, ev⟩ := hr
      unfold putL
      rw [ek]; simp only [Value.isStr, beq_self_eq_true, if_true]
      exact .cons ⟨⟨t', rfl⟩, hv⟩ hl
  | @there y w x v l l' hq ih =>
    cases h with
    | @cons e p es kvs hr hl =>
      obtain ⟨⟨t', ek⟩, ev⟩ := hr
      simp only [List.map_cons, List.nodup_cons] at hd
      have hx : x ∈ l'.map (·.1) := by
        clear ih hd hl hv ev
        induction hq with
        | here => simp
        | there _ ih => exact List.mem_cons_of_mem _ ih
        | new => simp
      have hne : y ≠ x := fun z => hd.1 (z ▸ hx)
      unfold putL
      rw [ek]; simp only [Value.isStr, beq_iff_eq, if_neg hne]
      exact .cons ⟨⟨t', ek⟩, ev⟩ (ih hl hd.2 hv)
  | new =>
    cases h
    exact .cons ⟨⟨t, rfl⟩, hv⟩ .nil
theorem F2.length {α β : Type} {R : α → β → Prop} {l : List α} {m : List β} (h : F2 R l m) : l.length = m.length := by
  induction h with
  | nil => rfl
  | cons _ _ ih => simp [ih]

structure AttrOk (K : Frag) (C : Addr) (name : Str) : Prop where
  get : plainGet K C name = true
  dict : hasDictIn K C = true
  find : ∃ attr, findIn K (.ref C) name = some attr ∧ noGet K attr = true
  set : findIn K (.ref C) "__setattr__" = some (some (.builtin "object.__setattr__"))
  over : plainOver K C = true
  taker : takerIn K C name = some none

section
variable {c : Cx} {A : Around} {E : Value → AS → Prop} {a : AS} {L : Addr} {cl : List (Str × Addr)} {ns : List Str} {vs : List (Option AV)} {fs : List Frm} {σ : Addr → Option (Nat × Cell)} {g : Array GenState}

theorem inst_at {s : Shared} {x C dx : Addr} {sl : List (Option AV)} {k k' : Nat} {kvs : List (Str × AV)} (hs : St c a s) (hx : a.σ x = some (k, .inst C dx sl)) (hd : a.σ dx = some (k', .attrs kvs)) :
    ∃ ox es n, InstAt s.heap x ox C (some (dictOf es n)) ∧ ox.dict = some dx ∧ ox.data = .plain ∧ ox.slots.toList.map (·.map er) = sl ∧
      F2 (fun (e : DictEntry) (p : Str × AV) => (∃ t, e.key = .str p.1 t) ∧ er e.val = p.2) es kvs ∧ s.heap.get? dx = some (dictOf es n) := by
  obtain ⟨⟨ox, ho, hc, hdd, hpl, hsl⟩, _⟩ := hs.own x k _ hx
  obtain ⟨⟨od, hod, es, n, rfl, hf⟩, _⟩ := hs.own dx k' _ hd
  refine ⟨ox, es, n, ⟨ho, hc, ?_, by rw [hdd]; exact hod⟩, hdd, hpl, hsl, hf, hod⟩
  unfold notCls; rw [hpl]

theorem W_getAttr {x C dx : Addr} {sl : List (Option AV)} {k k' : Nat} {kvs : List (Str × AV)} {name : Str} {v : AV} {expr : Bool} {Q : Value → AS → Prop} (hx : a.σ x = some (k, .inst C dx sl)) (hd : a.σ dx = some (k', .attrs kvs))
    (hc : AttrOk c.K C name) (hnd : (kvs.map (·.1)).Nodup) (hv : (name, v) ∈ kvs) (h : All v (fun u => Q u a)) (hp : v.plain = true := by rfl) : W c A (getAttr (.ref x) name expr) Q E a := by
  intro s hs
  obtain ⟨ox, es, n, I, _, _, _, hf, _⟩ := inst_at hs hx hd
  obtain ⟨u, hu, eu⟩ := getL_of hf hnd hv
  obtain ⟨attr, f1, f2⟩ := hc.find
  exact get_value (c.inK.keeps hs.keep) I (plainGet_of hc.get).1 (findObj_own hc.dict f1 f2 (by rw [lookIn_dict]; exact hu)) (handed_plain eu hp) ⟨a, hs.of_eq, h.at eu⟩

theorem W_getMethod {x C dx f : Addr} {sl : List (Option AV)} {k k' : Nat} {kvs : List (Str × AV)} {name : Str} {pl : Sem Bool} {Q : Value × List Value → AS → Prop} (hx : a.σ x = some (k, .inst C dx sl)) (hd : a.σ dx = some (k', .attrs kvs))
    (hg : plainGet c.K C name = true) (hf : findIn c.K (.ref C) name = some (some (.ref f))) (ht : isFn c.K (.ref f) = true) (hv : name ∉ kvs.map (·.1)) (h : Q (.ref f, [.ref x]) a) : W c A (getMethod (.ref x) name pl) Q E a := by
  intro s hs
  obtain ⟨ox, es, n, I, _, _, _, hf', _⟩ := inst_at hs hx hd
  exact method_fn (c.inK.keeps hs.keep) I (plainGet_of hg).1 (plainGet_of hg).2 hf (beq_iff_eq.mp ht) (by show (lookIn name (dictOf es n)).map _ = _; rw [lookIn_dict, getL_none hf' hv]; rfl) ⟨a, hs, h⟩

theorem W_setAttr {x C dx : Addr} {sl : List (Option AV)} {k k' : Nat} {kvs kvs' : List (Str × AV)} {name : Str} {u : Value} {Q : Unit → AS → Prop} (hx : σ x = some (k, .inst C dx sl)) (hd : σ dx = some (k', .attrs kvs))
    (hc : AttrOk c.K C name) (hpt : PutAt kvs name (er u) kvs') (hnd : (kvs'.map (·.1)).Nodup) (hz : kvs'.length ≤ 1000)
    (h : Q () ⟨⟨L, cl, ns, vs⟩ :: fs, upd σ dx (some (k', .attrs kvs')), g⟩) : W c A (setAttr (.ref x) name u) Q E ⟨⟨L, cl, ns, vs⟩ :: fs, σ, g⟩ := by
  intro s hs
  obtain ⟨ox, es, n, I, hdd, _, _, hf, hod⟩ := inst_at hs hx hd
  obtain ⟨m, hn, _, _⟩ := hs.fr _ (List.mem_cons_self ..)
  have ne : dx ≠ L := fun e => (hs.own dx k' _ hd).2.2 (by rw [List.flatMap_cons]; exact List.mem_append_left _ (by simp [Frm.as, e]))
  obtain ⟨others, F, N, h1, h2⟩ := news_all hn hod ne
  have hnew := putL_of (w := c.w) hf (hsh := PyData.keyHash c.w.params name) (t := s.toks + 1) hpt hnd
  have hl : (lookIn name (dictOf es n)).isSome = true := by
    rw [lookIn_dict]
    have := noRef hf
    unfold getL; split <;> simp_all
  refine set_plain (c.inK.keeps hs.keep) I hc.set (osa_dict (s := { s with toks := s.toks + 1 }) (post := []) F N (c.inK.keeps hs.keep) I hdd hc.over hc.taker hc.dict hl h1 (by simp)
    (by rw [putName_dict]) rfl (by rw [F2.length hnew]; exact hz) fun h' F' N' => ?_)
  refine ⟨_, St.of_eq (hs.put' (h' := h') (m := m) (cl' := .attrs kvs') hd (fun m' e => ns_unique hn e) F'.ns (fun b o q1 q2 q3 => (N' (b, o) (List.mem_append_left _ (h2 b o q1 q2 q3))).1) (N' _ (List.mem_append_right _ (List.mem_singleton.mpr rfl))).1 ⟨_, _, rfl, hnew⟩), h⟩
end
end Mine

namespace Mine
open PySem PySem.W PyProof.Rows PySem.Calls

noncomputable def padSet : List (Option AV) → Nat → AV → List (Option AV)
  | [], 0, v => [some v]
  | [], i + 1, v => none :: padSet [] i v
  | _ :: l, 0, v => some v :: l
  | x :: l, i + 1, v => x :: padSet l i v

theorem padSet_eq : ∀ (us : List (Option Value)) (i : Nat) (u : Value),
    ((us ++ List.replicate (i + 1 - us.length) (none : Option Value)).set i (some u)).map (fun o : Option Value => o.map er) = padSet (us.map (fun o : Option Value => o.map er)) i (er u)
  | [], 0, u => by simp [padSet]
  | [], i + 1, u => by
    have := padSet_eq [] i u
    simp only [List.nil_append, List.length_nil, Nat.sub_zero, List.map_nil] at this ⊢
    rw [List.replicate_succ, List.set_cons_succ, List.map_cons, this]
    simp [padSet]
  | x :: us, 0, u => by simp [padSet]
  | x :: us, i + 1, u => by
    have := padSet_eq us i u
    simp only [List.cons_append, List.length_cons, List.set_cons_succ, List.map_cons, padSet]
    rw [show i + 1 + 1 - (us.length + 1) = i + 1 - us.length by omega, this]

structure SlotOk (K : Frag) (C : Addr) (name : Str) (i : Nat) : Prop where
  get : plainGet K C name = true
  cls : isClsIn K C = true
  set : findIn K (.ref C) "__setattr__" = some (some (.builtin "object.__setattr__"))
  over : plainOver K C = true
  ex : ∃ p, findIn K (.ref C) name = some (some (.ref p)) ∧ specialIn K (.ref p) "__get__" = some (some (.builtin "member_descriptor.__get__")) ∧ takesIn K (.ref p) = some true ∧ slotIn K p C = some i ∧
    takerIn K C name = some (some (.ref p)) ∧ typeIn K (.ref p) = some (.type "member_descriptor")

section
variable {c : Cx} {A : Around} {E : Value → AS → Prop} {a : AS} {L : Addr} {cl : List (Str × Addr)} {ns : List Str} {vs : List (Option AV)} {fs : List Frm} {σ : Addr → Option (Nat × Cell)} {g : Array GenState}

theorem W_getSlot {x C dx : Addr} {sl : List (Option AV)} {k k' : Nat} {kvs : List (Str × AV)} {name : Str} {v : AV} {i : Nat} {expr : Bool} {Q : Value → AS → Prop} (hx : a.σ x = some (k, .inst C dx sl)) (hd : a.σ dx = some (k', .attrs kvs))
    (hc : SlotOk c.K C name i) (hv : sl[i]? = some (some v)) (h : All v (fun u => Q u a)) (hp : v.plain = true := by rfl) : W c A (getAttr (.ref x) name expr) Q E a := by
  intro s hs
  obtain ⟨ox, es, n, I, _, _, hsl, hf, _⟩ := inst_at hs hx hd
  have X := c.inK.keeps hs.keep
  obtain ⟨p, f1, f2, f3, f4, _, _⟩ := hc.ex
  have : ∃ u, (ox.slots[i]?).join = some u ∧ er u = v := by
    rw [← hsl, List.getElem?_map, Array.getElem?_toList] at hv
    cases q : ox.slots[i]? with
    | none => rw [q] at hv; cases hv
    | some o =>
      rw [q] at hv
      cases o with
      | none => cases hv
      | some u => exact ⟨u, rfl, Option.some.inj (Option.some.inj hv)⟩
  obtain ⟨u, hu, eu⟩ := this
  exact get_bind X I (plainGet_of hc.get).1 (findObj_data hc.cls f1 f2 f3) (plainGet_of hc.get).2 (wpAny_call (slot_get (s := { s with toks := s.toks + 1 }) X I f4 hu (handed_on (handed_plain eu hp) ⟨a, hs.of_eq, h.at eu⟩)))

theorem W_setSlot {x C dx : Addr} {sl : List (Option AV)} {k k' : Nat} {kvs : List (Str × AV)} {name : Str} {u : Value} {i : Nat} {Q : Unit → AS → Prop} (hx : σ x = some (k, .inst C dx sl)) (hd : σ dx = some (k', .attrs kvs))
    (hc : SlotOk c.K C name i) (hz : i < 1000)
    (h : Q () ⟨⟨L, cl, ns, vs⟩ :: fs, upd σ x (some (k, .inst C dx (padSet sl i (er u)))), g⟩) : W c A (setAttr (.ref x) name u) Q E ⟨⟨L, cl, ns, vs⟩ :: fs, σ, g⟩ := by
  intro s hs
  obtain ⟨ox, es, n, I, hdd, hpl, hsl, hf, hod⟩ := inst_at hs hx hd
  have X := c.inK.keeps hs.keep
  obtain ⟨p, _, _, _, f4, f5, f6⟩ := hc.ex
  obtain ⟨m, hn, _, _⟩ := hs.fr _ (List.mem_cons_self ..)
  have ne : x ≠ L := fun e => (hs.own x k _ hx).2.2 (by rw [List.flatMap_cons]; exact List.mem_append_left _ (by simp [Frm.as, e]))
  obtain ⟨others, F, N, h1, h2⟩ := news_all hn I.at_ ne
  refine set_plain X I hc.set (osa_descr (s := { s with toks := s.toks + 1 }) KF.slot_mset X I hc.over f5 f6 (slot_set (s := { s with toks := s.toks + 1 }) (post := []) F N X I f4 hz h1 (by simp) rfl ?_ fun h' F' N' => ?_))
  · obtain ⟨oc, od, oda, osl⟩ := ox
    dsimp only at hpl; subst hpl; rfl
  · refine ⟨_, St.of_eq (hs.put' (h' := h') (m := m) (cl' := .inst C dx (padSet sl i (er u))) hx (fun m' e => ns_unique hn e) F'.ns (fun b o q1 q2 q3 => (N' (b, o) (List.mem_append_left _ (h2 b o q1 q2 q3))).1) (N' _ (List.mem_append_right _ (List.mem_singleton.mpr rfl))).1 ⟨I.cls, hdd, hpl, ?_⟩), h⟩
    rw [← hsl, ← padSet_eq]
    simp

theorem W_Attribute {value : Expr} {attr : Str} {pos : Pos} {env : Env} {Q : Value → AS → Prop} (h : W c A (eval value env) (fun o a₁ => W c A (getAttr o attr true) Q E a₁) E a)
    (hb : attributeBase value attr env (eval value env) = eval value env := by with_unfolding_all rfl) : W c A (eval (.Attribute value attr pos) env) Q E a := by
  show W c A (attributeBase value attr env (eval value env) >>= _) Q E a
  rw [hb]
  refine W_bind (W_mono h (fun o a₁ q => W_bind (W_standAt (W_bind (W_holding (W_mono q (fun r a₂ q => ?_) fun _ _ x => x))))) fun _ _ x => x)
  exact W_bind (fun s hs => wpAny_letTemporaryGo ⟨_, hs, W_pure q⟩)

theorem W_Assign_Attr {o : Expr} {attr : Str} {p : Pos} {value : Expr} {pos : Pos} {env : Env} {Q : Flow → AS → Prop}
    (h : W c A (eval value env) (fun v a₁ => W c A (eval o env) (fun ov a₂ => W c A (setAttr ov attr v) (fun _ => Q .next) E a₂) E a₁) E a)
    (hs : exec (.Assign [.Attribute o attr p] value pos) env = (do standAt pos; let v ← eval value env; assign (.Attribute o attr p) env v; pure .next) := by with_unfolding_all rfl) : W c A (exec (.Assign [.Attribute o attr p] value pos) env) Q E a := by
  rw [hs]
  refine W_bind (W_standAt (W_bind (W_mono h (fun v a₁ q => W_bind ?_) fun _ _ x => x)))
  show W c A (do let ov ← holding [v] (eval o env); standAt p.atName; holding [v, ov] (setAttr ov attr v); release [v, ov] []) _ E a₁
  refine W_bind (W_holding (W_mono q (fun ov a₂ q => W_bind (W_standAt (W_bind (W_holding (W_mono q (fun _ a₃ q => ?_) fun _ _ x => x))))) fun _ _ x => x))
  intro s hs Γ p' hΓ
  rw [Sem.wp_release]
  exact ⟨a₃, hs, W_pure q⟩
end
end Mine

namespace Mine
open PySem PySem.W PyProof.Rows PySem.Calls PySem.F PySem.AutoSeq1 PySem.MeetsSeq PySem.MeetsSeq3

theorem sizeLine_big {n : Nat} (h : n ≤ 1000000) : n ≤ sizeLine := by rw [sizeLine_eq]; omega
theorem fits_big {n : Nat} (h : n ≤ 1000000) : (n : Int) < 2 ^ 63 := by omega

section
variable {c : Cx} {A : Around} {E : Value → AS → Prop} {a : AS} {fs : List Frm} {σ : Addr → Option (Nat × Cell)} {g : Array GenState} {k : Nat} {D : Addr} {vs : List AV}

theorem own_list {s : Shared} (hs : St c a s) (h : a.σ D = some (k, .list vs)) : ∃ us n, s.heap.get? D = some (listOf us n) ∧ us.toList.map er = vs := by
  obtain ⟨⟨o, ho, us, n, rfl, e⟩, _⟩ := hs.own D k _ h
  exact ⟨us, n, ho, e⟩
theorem own_tuple {s : Shared} (hs : St c a s) (h : a.σ D = some (k, .tuple vs)) : ∃ us n, s.heap.get? D = some { cls := .type "tuple", data := .seq us n } ∧ us.toList.map er = vs := by
  obtain ⟨⟨o, ho, us, n, rfl, e⟩, _⟩ := hs.own D k _ h
  exact ⟨us, n, ho, e⟩
theorem isList_of {h : Heap} {us : Array Value} {n : Nat} (ho : h.get? D = some (listOf us n)) : h.IsList D us := ⟨_, ho, rfl, n, rfl⟩
theorem size_of {us : Array Value} (e : us.toList.map er = vs) : us.size = vs.length := by rw [← e]; simp
theorem get_of {us : Array Value} (e : us.toList.map er = vs) {i : Nat} {v : AV} (h : vs[i]? = some v) : ∃ u, us[i]? = some u ∧ er u = v := by
  rw [← e, List.getElem?_map, Array.getElem?_toList] at h
  exact map_some_of h

/-! new objects -/
theorem W_newList {us : List Value} {Q : Value → AS → Prop} (k : Nat) (hz : us.length ≤ 1000000)
    (h : ∀ l, σ l = none → ∀ σ', σ' = upd σ l (some (k, .list (us.map er))) → Q (.ref l) ⟨fs, σ', g⟩) : W c A (newList us) Q E ⟨fs, σ, g⟩ := fun s hs =>
  wpAny_newObj_type ⟨_, hs.alloc (k := k) (cl := .list (us.map er)) ⟨_, _, rfl, by simp⟩ rfl, h _ hs.fresh.1 _ rfl⟩ (by show us.toArray.size ≤ sizeLine; rw [List.size_toArray]; exact sizeLine_big hz)
theorem W_newTuple {us : List Value} {Q : Value → AS → Prop} (k : Nat) (hz : us.length ≤ 1000000)
    (h : ∀ l, σ l = none → ∀ σ', σ' = upd σ l (some (k, .tuple (us.map er))) → Q (.ref l) ⟨fs, σ', g⟩) : W c A (newTuple us) Q E ⟨fs, σ, g⟩ := fun s hs =>
  wpAny_newObj_type ⟨_, hs.alloc (k := k) (cl := .tuple (us.map er)) ⟨_, _, rfl, by simp⟩ rfl, h _ hs.fresh.1 _ rfl⟩ (by show us.toArray.size ≤ sizeLine; rw [List.size_toArray]; exact sizeLine_big hz)

theorem upd_keeps {s : Shared} {f : Obj → Obj} : ∀ b o, b ≠ D → s.heap.get? b = some o → (s.heap.update D f).get? b = some o := fun b o q e => ((Heap.SameBut.update s.heap D f).2 b q).trans e

/-! methods of a list -/
theorem W_meth_list {name : Str} {id : String} {pl : Sem Bool} {Q : Value × List Value → AS → Prop} (slot : Slot "list" name id) (hty : typeOf (.builtin id) = pure (.type "method_descriptor"))
    (hl : a.σ D = some (k, .list vs)) (h : Q (.builtin id, [.ref D]) a) : W c A (getMethod (.ref D) name pl) Q E a := fun s hs => by
  obtain ⟨us, n, ho, e⟩ := own_list hs hl
  exact getMethod_list_of slot hty (isList_of ho) ⟨_, ho, rfl⟩ ⟨a, hs, h⟩

theorem W_append {u : Value} {Q : Value → AS → Prop} (hl : σ D = some (k, .list vs)) (hz : vs.length ≤ 1000000)
    (h : ∀ σ', σ' = upd σ D (some (k, .list (vs ++ [er u]))) → Q .none ⟨fs, σ', g⟩) : W c A (call (.builtin "list.append") [.ref D, u]) Q E ⟨fs, σ, g⟩ := fun s hs => by
  obtain ⟨us, n, ho, e⟩ := own_list hs hl
  refine append_at ho (fun h' hsb ho' => ⟨_, hs.put hl (fun b o q z => (hsb.2 b q).trans z) ho' (cl' := .list (vs ++ [er u])) ⟨_, _, rfl, ?_⟩, h _ rfl⟩) (by rw [size_of e]; exact sizeLine_big hz)
  rw [← e]; simp

theorem W_clear {Q : Value → AS → Prop} (hl : σ D = some (k, .list vs)) (hz : vs.length ≤ 1000000)
    (h : ∀ σ', σ' = upd σ D (some (k, .list [])) → Q .none ⟨fs, σ', g⟩) : W c A (call (.builtin "list.clear") [.ref D]) Q E ⟨fs, σ, g⟩ := fun s hs => by
  obtain ⟨us, n, ho, e⟩ := own_list hs hl
  refine call_meets slot_list_clear ⟨_, ho, rfl⟩ entry_list_clear (args_list_clear_1 _) (list_clear_list_0 D us n (by rw [size_of e]; exact sizeLine_big hz)) ⟨ho, ?_⟩
  exact ⟨_, St.of_eq (hs.put hl upd_keeps (Heap.get?_update_self _ ho rfl) (cl' := .list []) ⟨_, _, rfl, rfl⟩), h _ rfl⟩

theorem W_pop {ws : List AV} {v : AV} {Q : Value → AS → Prop} (hl : σ D = some (k, .list (ws ++ [v]))) (hz : ws.length + 1 ≤ 1000000)
    (h : ∀ σ', σ' = upd σ D (some (k, .list ws)) → All v (fun u => Q u ⟨fs, σ', g⟩)) : W c A (call (.builtin "list.pop") [.ref D]) Q E ⟨fs, σ, g⟩ := fun s hs => by
  obtain ⟨us, n, ho, e⟩ := own_list hs hl
  have hsz := size_of e
  simp only [List.length_append, List.length_singleton] at hsz
  obtain ⟨u, hu, eu⟩ := get_of e (i := ws.length) (v := v) (by simp)
  refine call_meets slot_list_pop ⟨_, ho, rfl⟩ entry_list_pop (args_list_pop_1 _) (list_pop_last D us n u (by rw [hsz]; exact hu) (by rw [hsz]; exact sizeLine_big hz)) ⟨ho, ?_⟩
  refine ⟨_, St.of_eq (hs.put hl upd_keeps (Heap.get?_update_self _ ho rfl) (cl' := .list ws) ⟨_, _, rfl, ?_⟩), (h _ rfl).at eu⟩
  rw [hsz]
  have : ws.length < us.size := by omega
  simp only [Nat.add_sub_cancel, Array.eraseIdxIfInBounds, this, dite_true, Array.toList_eraseIdx]
  obtain ⟨l1, l2, q1, q2, q3⟩ := List.map_eq_append_iff.mp e
  have hl1 : ws.length = l1.length := by rw [← q2]; simp
  obtain ⟨u', r, rfl, q4, q5⟩ := List.map_eq_cons_iff.mp q3
  rw [List.map_eq_nil_iff] at q5; subst q5
  rw [q1, hl1, List.eraseIdx_append_of_length_le (Nat.le_refl _)]
  simp [q2]

theorem W_extend {ws : List AV} {B : Addr} {k' : Nat} {Q : Value → AS → Prop} (hl : σ D = some (k, .list vs)) (hb : σ B = some (k', .list ws)) (hz : vs.length + ws.length ≤ 1000000)
    (h : ∀ σ', σ' = upd σ D (some (k, .list (vs ++ ws))) → Q .none ⟨fs, σ', g⟩) : W c A (call (.builtin "list.extend") [.ref D, .ref B]) Q E ⟨fs, σ, g⟩ := fun s hs => by
  obtain ⟨us, n, ho, e⟩ := own_list hs hl
  obtain ⟨us2, n2, ho2, e2⟩ := own_list hs hb
  have h1 := size_of e
  have h2 := size_of e2
  refine call_meets slot_list_extend ⟨_, ho, rfl⟩ entry_list_extend (args_list_extend_2 _ _) (list_extend_list_list_0 D us n B us2 n2 ?_ (by rw [h1]; exact sizeLine_big (by omega)) (by rw [sizeLine_eq]; omega)) ⟨ho, ho2, ?_⟩
  · simp only [Builtin.List.listTooLong, Bool.and_eq_true, decide_eq_true_eq]
    intro q; have := q.2; rw [sizeLine_eq] at this; omega
  · refine ⟨_, St.of_eq (hs.put hl upd_keeps (Heap.get?_update_self _ ho rfl) (cl' := .list (vs ++ ws)) ⟨_, _, rfl, ?_⟩), h _ rfl⟩
    rw [← e, ← e2]; simp

/-! reads -/
theorem W_len_list {Q : Value → AS → Prop} (hl : a.σ D = some (k, .list vs)) (hz : vs.length ≤ 1000000) (h : ∀ t, Q (.int vs.length t) a) : W c A (call (.builtin "len") [.ref D]) Q E a := fun s hs => by
  obtain ⟨us, n, ho, e⟩ := own_list hs hl
  have hsz := size_of e
  refine call_len_list (isList_of ho) (by rw [hsz]; exact fits_big hz) ⟨a, hs.of_eq, ?_⟩
  rw [hsz]; exact h _

theorem W_item_list {i : Int} {t : Tok} {v : AV} {Q : Value → AS → Prop} (hl : a.σ D = some (k, .list vs)) (h0 : 0 ≤ i) (hv : vs[i.toNat]? = some v) (hz : vs.length ≤ 1000000) (h : All v (fun u => Q u a)) : W c A (getItem (.ref D) (.int i t)) Q E a := fun s hs => by
  obtain ⟨us, n, ho, e⟩ := own_list hs hl
  obtain ⟨u, hu, eu⟩ := get_of e hv
  have : i.toNat < vs.length := (List.getElem?_eq_some_iff.mp hv).1
  exact wpAny_getItem_list (isList_of ho) h0 (by omega) hu ⟨a, hs, h.at eu⟩
theorem W_last_list {ws : List AV} {t : Tok} {v : AV} {Q : Value → AS → Prop} (hl : a.σ D = some (k, .list (ws ++ [v]))) (hz : ws.length + 1 ≤ 1000000) (h : All v (fun u => Q u a)) : W c A (getItem (.ref D) (.int (-1) t)) Q E a := fun s hs => by
  obtain ⟨us, n, ho, e⟩ := own_list hs hl
  have hsz := size_of e
  simp only [List.length_append, List.length_singleton] at hsz
  obtain ⟨u, hu, eu⟩ := get_of e (i := ws.length) (v := v) (by simp)
  refine wpAny_getItem_list_neg (isList_of ho) (by omega) (by omega) (by omega) ?_ ⟨a, hs, h.at eu⟩
  rw [hsz, show ((-1 : Int) + ((ws.length + 1 : Nat) : Int)).toNat = ws.length by omega]; exact hu

theorem W_truthy_list {Q : Bool → AS → Prop} (hl : a.σ D = some (k, .list vs)) (hz : vs.length ≤ 1000000) (h : Q (!vs.isEmpty) a) : W c A (truthy (.ref D)) Q E a := fun s hs => by
  obtain ⟨us, n, ho, e⟩ := own_list hs hl
  have hsz := size_of e
  refine wpAny_truthy_list (isList_of ho) (by rw [hsz]; exact fits_big hz) ⟨a, hs.of_eq, ?_⟩
  have : us.isEmpty = vs.isEmpty := by
    rw [← e]; cases us with | mk l => cases l <;> simp
  rw [this]; exact h

theorem W_list_add {ws : List AV} {B : Addr} {k' : Nat} {Q : Value → AS → Prop} (r : Nat) (hl : σ D = some (k, .list vs)) (hb : σ B = some (k', .list ws)) (hz : vs.length + ws.length ≤ 1000000)
    (h : ∀ l, σ l = none → ∀ σ', σ' = upd σ l (some (r, .list (vs ++ ws))) → Q (.ref l) ⟨fs, σ', g⟩) : W c A (binaryOp .Add (.ref D) (.ref B)) Q E ⟨fs, σ, g⟩ := fun s hs => by
  obtain ⟨us, n, ho, e⟩ := own_list hs hl
  obtain ⟨us2, n2, ho2, e2⟩ := own_list hs hb
  have h1 := size_of e
  have h2 := size_of e2
  refine concat_meets ⟨_, ho, rfl⟩ ⟨_, ho2, rfl⟩ noFill_list_add seq_list_add slot_list_add entry_list_add (args_list_add_2 _ _) (list___add___list_list_0 D us n B us2 n2 (by rw [h1, h2]; exact sizeLine_big hz)) ⟨ho, ho2, ?_⟩
  refine ⟨_, St.of_eq (hs.alloc (k := r) (cl := .list (vs ++ ws)) ⟨us ++ us2, 0, rfl, ?_⟩ rfl), h _ hs.fresh.1 _ rfl⟩
  rw [← e, ← e2]; simp

/-! membership of a scalar -/
theorem eqGives_key {u v : Value} (hu : (er u).isKey = true) (hv : (er v).isKey = true) : EqGives u v (decide (er u = er v)) := fun prog w A E s Q h =>
  (avKind prog w).eqBool (avKind_is.mpr ⟨rfl, hu⟩) (avKind_is.mpr ⟨rfl, hv⟩) h

theorem any_er {us : Array Value} (e : us.toList.map er = vs) (v : AV) : us.any (fun y => decide (er y = v)) = decide (v ∈ vs) := by
  rw [← e, Bool.eq_iff_iff, ← Array.any_toList]
  simp only [List.any_eq_true, decide_eq_true_eq, List.mem_map]

theorem W_in_list {u : Value} {Q : Value → AS → Prop} (hl : a.σ D = some (k, .list vs)) (hu : (er u).isKey = true) (hk : ∀ v ∈ vs, v.isKey = true) (h : Q (.bool (decide (er u ∈ vs))) a) : W c A (compareOp .In u (.ref D)) Q E a := fun s hs => by
  obtain ⟨us, n, ho, e⟩ := own_list hs hl
  have he : ∀ y, y ∈ us → EqGives y u (decide (er y = er u)) := fun y hy => eqGives_key (hk _ (by rw [← e]; exact List.mem_map_of_mem (Array.mem_toList_iff.mpr hy))) hu
  refine SeqAt.in_listAt _ (isList_of ho) (fun y hy => (he y hy).at _ _) ⟨a, hs, ?_⟩
  rw [any_er e]; exact h
end
end Mine

namespace Mine
open PySem PySem.W PyProof.Rows PySem.Calls PySem.F PySem.AutoSeq1 PySem.MeetsSeq PySem.MeetsSeq3 PySem.SeqAt

mutual
inductive RdV (σ : Addr → Option (Nat × Cell)) : AV → PyData → Prop
  | none : RdV σ .none .none
  | bool {b} : RdV σ (.bool b) (.bool b)
  | int {i} : RdV σ (.int i) (.int i)
  | str {x} : RdV σ (.str x) (.str x)
  | list {l k vs ds} : σ l = some (k, .list vs) → RdL σ vs ds → RdV σ (.ref l) (.list ds)
  | tuple {l k vs ds} : σ l = some (k, .tuple vs) → RdL σ vs ds → RdV σ (.ref l) (.tuple ds)
inductive RdL (σ : Addr → Option (Nat × Cell)) : List AV → List PyData → Prop
  | nil : RdL σ [] []
  | cons {v vs d ds} : RdV σ v d → RdL σ vs ds → RdL σ (v :: vs) (d :: ds)
end

mutual
theorem RdV.ext {σ σ' : Addr → Option (Nat × Cell)} (h : Ext [] σ σ') : ∀ {v d}, RdV σ v d → RdV σ' v d
  | _, _, .none => .none
  | _, _, .bool => .bool
  | _, _, .int => .int
  | _, _, .str => .str
  | _, _, .list e r => .list (h _ _ _ e (by simp)) (RdL.ext h r)
  | _, _, .tuple e r => .tuple (h _ _ _ e (by simp)) (RdL.ext h r)
theorem RdL.ext {σ σ' : Addr → Option (Nat × Cell)} (h : Ext [] σ σ') : ∀ {v d}, RdL σ v d → RdL σ' v d
  | _, _, .nil => .nil
  | _, _, .cons r1 r2 => .cons (RdV.ext h r1) (RdL.ext h r2)
end

mutual
theorem RdV.reads {c : Cx} {a : AS} {s : Shared} (hs : St c a s) : ∀ {v : AV} {d : PyData}, RdV a.σ v d → ∀ u, er u = v → ∃ as, Reads s.heap u d as
  | _, _, .none, u, e => by rw [er_none e]; exact ⟨_, .none⟩
  | _, _, .bool, u, e => by rw [er_bool e]; exact ⟨_, .bool _⟩
  | _, _, .int, u, e => by obtain ⟨t, rfl⟩ := er_int e; exact ⟨_, .int _ _⟩
  | _, _, .str, u, e => by obtain ⟨t, rfl⟩ := er_str e; exact ⟨_, .str _ _⟩
  | _, _, .list h r, u, e => by
    rw [er_ref e]
    obtain ⟨us, n, ho, q⟩ := own_list hs h
    obtain ⟨as, ra⟩ := RdL.reads hs r us.toList q
    exact ⟨_, .list ho rfl rfl ra⟩
  | _, _, .tuple h r, u, e => by
    rw [er_ref e]
    obtain ⟨us, n, ho, q⟩ := own_tuple hs h
    obtain ⟨as, ra⟩ := RdL.reads hs r us.toList q
    exact ⟨_, .tuple ho rfl rfl ra⟩
theorem RdL.reads {c : Cx} {a : AS} {s : Shared} (hs : St c a s) : ∀ {vs : List AV} {ds : List PyData}, RdL a.σ vs ds → ∀ us : List Value, us.map er = vs → ∃ as, ReadsAll s.heap us ds as
  | _, _, .nil, us, e => by
    rw [List.map_eq_nil_iff] at e; subst e; exact ⟨_, .nil⟩
  | _, _, .cons r1 r2, us, e => by
    obtain ⟨u, us', rfl, e1, e2⟩ := List.map_eq_cons_iff.mp e
    obtain ⟨as, ra⟩ := RdV.reads hs r1 u e1
    obtain ⟨bs, rb⟩ := RdL.reads hs r2 us' e2
    exact ⟨_, .cons ra rb⟩
end

theorem AOk.u64 {A : Around} {fs : List Frm} {d : Nat} (h : AOk A fs d) : A.units + 64 < cLine := by have := h.units; unfold cLine; omega
section
variable {c : Cx} {A : Around} {E : Value → AS → Prop} {a : AS} {fs : List Frm} {σ : Addr → Option (Nat × Cell)} {g : Array GenState} {k : Nat} {D : Addr} {vs : List AV} {d : Nat} {fs₀ : List Frm}

theorem W_eqD {u v : Value} {p q : PyData} {Q : Value → AS → Prop} (hA : AOk A fs₀ d) (ru : RdV a.σ (er u) p) (rv : RdV a.σ (er v) q) (hp : shaped p = true) (hq : shaped q = true) (h : Q (.bool (PyData.eqv p q)) a) : W c A (compareOp .Eq u v) Q E a := fun s hs => by
  obtain ⟨as, ra⟩ := ru.reads hs u rfl
  obtain ⟨bs, rb⟩ := rv.reads hs v rfl
  exact eq_dataH ra rb hp hq hA.u64 ⟨a, hs, h⟩
theorem W_neD {u v : Value} {p q : PyData} {Q : Value → AS → Prop} (hA : AOk A fs₀ d) (ru : RdV a.σ (er u) p) (rv : RdV a.σ (er v) q) (hp : shaped p = true) (hq : shaped q = true) (h : Q (.bool (!PyData.eqv p q)) a) : W c A (compareOp .NotEq u v) Q E a := fun s hs => by
  obtain ⟨as, ra⟩ := ru.reads hs u rfl
  obtain ⟨bs, rb⟩ := rv.reads hs v rfl
  exact ne_dataH ra rb hp hq hA.u64 ⟨a, hs, h⟩

/-! ints -/
theorem W_add {i j : Int} {t u : Tok} {Q : Value → AS → Prop} (h : ∀ t, Q (.int (i + j) t) a) : W c A (binaryOp .Add (.int i t) (.int j u)) Q E a := fun s hs => AutoIntOps.add_0 ⟨a, hs.of_eq, h _⟩
theorem W_sub {i j : Int} {t u : Tok} {Q : Value → AS → Prop} (h : ∀ t, Q (.int (i - j) t) a) : W c A (binaryOp .Sub (.int i t) (.int j u)) Q E a := fun s hs => AutoIntOps.sub_0 ⟨a, hs.of_eq, h _⟩
theorem W_mod {i j : Int} {t u : Tok} {Q : Value → AS → Prop} (hj : j ≠ 0) (h : ∀ t, Q (.int (i.fmod j) t) a) : W c A (binaryOp .Mod (.int i t) (.int j u)) Q E a := fun s hs =>
  AutoIntOps.mod_1 (by simpa using hj) ⟨a, hs.of_eq, h _⟩
theorem W_eq_int {i j : Int} {t u : Tok} {Q : Value → AS → Prop} (h : Q (.bool (i == j)) a) : W c A (compareOp .Eq (.int i t) (.int j u)) Q E a := fun s hs => P.eq_int ⟨a, hs, h⟩
theorem W_ne_int {i j : Int} {t u : Tok} {Q : Value → AS → Prop} (h : Q (.bool (i != j)) a) : W c A (compareOp .NotEq (.int i t) (.int j u)) Q E a := fun s hs => P.ne_int ⟨a, hs, h⟩
theorem W_lt_int {i j : Int} {t u : Tok} {Q : Value → AS → Prop} (h : Q (.bool (decide (i < j))) a) : W c A (compareOp .Lt (.int i t) (.int j u)) Q E a := fun s hs => P.lt_int ⟨a, hs, h⟩
theorem W_is_none {v : Value} {Q : Value → AS → Prop} (h : Q (.bool (v == .none)) a) : W c A (compareOp .Is v .none) Q E a := fun s hs => is_none_gen ⟨a, hs, h⟩
theorem W_isnot_none {v : Value} {Q : Value → AS → Prop} (h : Q (.bool (!(v == .none))) a) : W c A (compareOp .IsNot v .none) Q E a := fun s hs => isnot_none_gen ⟨a, hs, h⟩
end
end Mine

namespace Mine
open PySem PySem.W PyProof.Rows PySem.Calls PySem.F PySem.AutoSeq1 PySem.MeetsSeq PySem.MeetsSeq3 PySem.SeqAt

noncomputable def dget (kvs : List (AV × AV)) (k : AV) : Option AV := (kvs.find? fun p => p.1 = k).map (·.2)
noncomputable def dset (kvs : List (AV × AV)) (k v : AV) : List (AV × AV) := if kvs.any (fun p => p.1 = k) then kvs.map (fun p => if p.1 = k then (p.1, v) else p) else kvs ++ [(k, v)]
noncomputable def ddel (kvs : List (AV × AV)) (k : AV) : List (AV × AV) := kvs.filter fun p => decide (p.1 ≠ k)

noncomputable def erP (p : AV × Value) : AV × AV := (p.1, er p.2)
theorem valueAt_er (kvs : List (AV × Value)) (k : AV) : (valueAt kvs k).map er = dget (kvs.map erP) k := by
  induction kvs with
  | nil => rfl
  | cons p kvs ih =>
    simp only [valueAt, dget, List.map_cons, List.find?_cons] at ih ⊢
    by_cases e : p.1 = k
    · simp [e, erP]
    · simp only [erP, e, decide_false]; exact ih
theorem stored_er (kvs : List (AV × Value)) (k : AV) (u : Value) : (stored kvs k u).map erP = dset (kvs.map erP) k (er u) := by
  unfold stored dset
  have h1 : (kvs.map erP).any (fun p => p.1 = k) = kvs.any (fun p => p.1 = k) := by
    rw [List.any_map]; rfl
  rw [h1]
  split
  · simp only [List.map_map]
    apply List.map_congr_left
    intro p _
    by_cases q : p.1 = k <;> simp [Function.comp_apply, erP, q]
  · simp [erP]
theorem without_er (kvs : List (AV × Value)) (k : AV) : (without kvs k).map erP = ddel (kvs.map erP) k := by
  unfold without ddel
  rw [List.filter_map]; rfl

section
variable {c : Cx} {A : Around} {E : Value → AS → Prop} {a : AS} {fs : List Frm} {σ : Addr → Option (Nat × Cell)} {g : Array GenState} {k : Nat} {D : Addr} {kvs : List (AV × AV)} {ep : Nat} {u v : Value}

theorem own_dict {ep : Nat} {s : Shared} (hs : St c a s) (h : a.σ D = some (k, .dict kvs ep)) : ∃ kvs', s.heap.DictAt (avKind c.prog c.w) D kvs' ep ∧ kvs = kvs'.map erP := by
  obtain ⟨⟨o, ho, ex, es, kvs', hd, hk, hp, e, hn⟩, _⟩ := hs.own D k _ h
  refine ⟨kvs', ⟨o, es, ho, ex, hd, hk, hp, ?_⟩, e⟩
  rw [e, List.map_map] at hn; exact hn
theorem notSys {s : Shared} {p : Nat × Cell} (hs : St c a s) (h : a.σ D = some p) : (D == sysModules) = false := by
  obtain ⟨_, hb, _⟩ := hs.own D p.1 p.2 h
  rw [beq_eq_false_iff_ne]
  intro e
  have := c.sysm
  rw [← e, hb] at this; cases this
theorem ok_dict {s : Shared} {h' : Heap} {kvs' : List (AV × Value)} (hd : h'.DictOf (avKind c.prog c.w) D kvs') : ∃ o ep, h'.get? D = some o ∧ Cell.ok c (.dict (kvs'.map erP) ep) o := by
  obtain ⟨o, es, ep, ho, ex, hd, hk, hp, hn⟩ := hd
  exact ⟨o, ep, ho, ex, es, kvs', hd, hk, hp, rfl, by rw [List.map_map]; exact hn⟩

theorem W_newDict {Q : Value → AS → Prop} (k : Nat) (h : ∀ l, σ l = none → ∀ σ', σ' = upd σ l (some (k, .dict [] 0)) → Q (.ref l) ⟨fs, σ', g⟩) : W c A (newDict #[]) Q E ⟨fs, σ, g⟩ := fun s hs =>
  wpAny_newObj_type ⟨_, hs.alloc (k := k) (cl := .dict [] 0) ⟨⟨rfl, rfl, rfl⟩, #[], [], rfl, fun _ he => by simp at he, .nil, rfl, .nil⟩ rfl, h _ hs.fresh.1 _ rfl⟩
theorem W_Dict_nil {pos : Pos} {env : Env} {Q : Value → AS → Prop} (h : W c A (newDict #[]) Q E a) : W c A (eval (.Dict [] [] pos) env) Q E a := by
  show W c A (do standAt pos; newDict #[]) Q E a
  exact W_bind (W_standAt h)

theorem W_meth_dict {name : Str} {id : String} {pl : Sem Bool} {Q : Value × List Value → AS → Prop} (slot : Slot "dict" name id) (hty : typeOf (.builtin id) = pure (.type "method_descriptor"))
    (hl : a.σ D = some (k, .dict kvs ep)) (h : Q (.builtin id, [.ref D]) a) : W c A (getMethod (.ref D) name pl) Q E a := fun s hs => by
  obtain ⟨⟨o, ho, ex, _⟩, _⟩ := hs.own D k _ hl
  exact getMethod_builtin ⟨o, ho, ex.1⟩ plainAttrs_dict slot hty (fun b e => by injection e with e; subst e; exact ⟨o, ho, ex.2.1⟩) ⟨a, hs, h⟩

theorem W_dict_get {Q : Value → AS → Prop} (hl : a.σ D = some (k, .dict kvs ep)) (hk : (er u).isKey = true) (h : All ((dget kvs (er u)).getD .none) (fun v => Q v a)) : W c A (call (.builtin "dict.get") [.ref D, u]) Q E a := fun s hs => by
  obtain ⟨kvs', hd, e⟩ := own_dict hs hl
  have hm := hd.dictOf.mapOf
  refine call_meetsIn slot_dict_get hm.typeIs entry_dict_get (args_dict_get_2 _ _) (meets_dict_get (avKind c.prog c.w) D (avKind_is.mpr ⟨rfl, hk⟩) (notSys hs hl)) ⟨_, hm, ?_⟩
  refine ⟨a, hs.of_eq, h.at ?_⟩
  rw [e, ← valueAt_er]
  cases valueAt kvs' (er u) <;> rfl
theorem W_dict_item {x : AV} {Q : Value → AS → Prop} (hl : a.σ D = some (k, .dict kvs ep)) (hk : (er u).isKey = true) (hx : dget kvs (er u) = some x) (h : All x (fun v => Q v a)) : W c A (getItem (.ref D) u) Q E a := fun s hs => by
  obtain ⟨kvs', hd, e⟩ := own_dict hs hl
  have hm := hd.dictOf.mapOf
  rw [e, ← valueAt_er] at hx
  obtain ⟨v, hv, ev⟩ := map_some_of hx
  exact wpAny_getItem_of (avKind_is.mpr ⟨rfl, hk⟩) hm hv ⟨a, hs.of_eq, h.at ev⟩
theorem W_in_dict {Q : Value → AS → Prop} (hl : a.σ D = some (k, .dict kvs ep)) (hk : (er u).isKey = true) (h : Q (.bool (dget kvs (er u)).isSome) a) : W c A (compareOp .In u (.ref D)) Q E a := fun s hs => by
  obtain ⟨kvs', hd, e⟩ := own_dict hs hl
  refine wpAny_in_of (avKind_is.mpr ⟨rfl, hk⟩) (notSys hs hl) hd.dictOf.mapOf ⟨a, hs.of_eq, ?_⟩
  rw [e, ← valueAt_er] at h
  simpa using h
theorem W_dict_set {Q : Unit → AS → Prop} (hl : σ D = some (k, .dict kvs ep)) (hk : (er u).isKey = true) (hz : kvs.length ≤ 1000000) (h : ∀ ep' σ', σ' = upd σ D (some (k, .dict (dset kvs (er u) (er v)) ep')) → Q () ⟨fs, σ', g⟩) : W c A (setItem (.ref D) u v) Q E ⟨fs, σ, g⟩ := fun s hs => by
  obtain ⟨kvs', hd, e⟩ := own_dict hs hl
  refine wpAny_setItem_pairs (avKind_is.mpr ⟨rfl, hk⟩) hd.dictOf (fun h' hd' hsb => ?_) (sizeLine_big (by rw [e, List.length_map] at hz; exact hz))
  obtain ⟨o, ep', ho, ok⟩ := ok_dict (c := c) (s := s) hd'
  rw [stored_er, ← e] at ok
  exact ⟨_, St.of_eq (hs.put hl (fun b o q z => (hsb.2 b q).trans z) ho ok), h _ _ rfl⟩
theorem W_dict_del {Q : Unit → AS → Prop} (hl : σ D = some (k, .dict kvs ep)) (hk : (er u).isKey = true) (hx : (dget kvs (er u)).isSome = true) (hz : kvs.length ≤ 1000000) (h : ∀ ep' σ', σ' = upd σ D (some (k, .dict (ddel kvs (er u)) ep')) → Q () ⟨fs, σ', g⟩) : W c A (delItem (.ref D) u) Q E ⟨fs, σ, g⟩ := fun s hs => by
  obtain ⟨kvs', hd, e⟩ := own_dict hs hl
  refine wpAny_delItem_slot hd.dictOf.mapOf.typeIs (by decide +kernel) slot_dict_delitem (call_meetsIn slot_dict_delitem hd.dictOf.mapOf.typeIs entry_dict_delitem (args_dict_delitem_2 _ _) (meets_dict_delitem_pairs (avKind c.prog c.w) D (avKind_is.mpr ⟨rfl, hk⟩)) ⟨_, hd.dictOf, sizeLine_big (by rw [e, List.length_map] at hz; exact hz), ?_, fun h' hd' hsb => ?_⟩)
  · rw [e, ← valueAt_er] at hx; simpa using hx
  · obtain ⟨o, ep', ho, ok⟩ := ok_dict (c := c) (s := s) hd'
    rw [without_er, ← e] at ok
    exact ⟨_, St.of_eq (hs.put hl (fun b o q z => (hsb.2 b q).trans z) ho ok), h _ _ rfl⟩
/-! sets -/
variable {S : AV → Bool} {n : Nat}
theorem own_set {s : Shared} (hs : St c a s) (h : a.σ D = some (k, .set S n)) (hn : n < 4096) : s.heap.SetOf (avKind c.prog c.w) D S n := by
  obtain ⟨⟨o, ho, ok⟩, _⟩ := hs.own D k _ h
  exact Obj.SetObjOf.setOf ok ho hn
theorem W_in_set {Q : Value → AS → Prop} (hl : a.σ D = some (k, .set S n)) (hn : n < 4096) (hk : (er u).isKey = true) (h : Q (.bool (S (er u))) a) : W c A (compareOp .In u (.ref D)) Q E a := fun s hs =>
  wpAny_inSet_of (avKind_is.mpr ⟨rfl, hk⟩) (scannable_of_key rfl hk) (own_set hs hl hn) ⟨a, hs.of_eq, h⟩
theorem W_meth_set_add {pl : Sem Bool} {Q : Value × List Value → AS → Prop} (hl : a.σ D = some (k, .set S n)) (hn : n < 4096) (h : Q (.builtin "set.add", [.ref D]) a) : W c A (getMethod (.ref D) "add" pl) Q E a := fun s hs =>
  getMethod_set_add (own_set hs hl hn) ⟨a, hs, h⟩
theorem W_set_add {Q : Value → AS → Prop} (hl : σ D = some (k, .set S n)) (hn : n + 1 < 4096) (hk : (er u).isKey = true)
    (h : ∀ σ', σ' = upd σ D (some (k, .set (fun x => S x || decide (x = er u)) (if S (er u) then n else n + 1))) → Q .none ⟨fs, σ', g⟩) : W c A (call (.builtin "set.add") [.ref D, u]) Q E ⟨fs, σ, g⟩ := fun s hs => by
  refine call_set_add (avKind_is.mpr ⟨rfl, hk⟩) (scannable_of_key rfl hk) (own_set hs hl (by omega)) hn (fun h' hsb hS => ?_)
  obtain ⟨o, es, ep, t, ho, ex, hd, r1, r2, r3, r4, r5⟩ := hS
  exact ⟨_, St.of_eq (hs.put hl (fun b o q z => (hsb.2 b q).trans z) ho (cl' := .set _ _) ⟨ex, es, ep, t, hd, r1, r2, r5, r4⟩), h _ rfl⟩
end
end Mine

namespace Mine
open PySem PySem.W PyProof.Rows PySem.Calls PySem.F PySem.AutoSeq1 PySem.MeetsSeq PySem.MeetsSeq3 PySem.SeqAt

noncomputable def Noted (c : Cx) (A : Around) (env : Env) (E : Value → AS → Prop) : Value → AS → Prop := fun e a => W c A (noteFrame e env) (fun _ a' => E e a') E a
noncomputable def Came (c : Cx) (A : Around) (env : Env) (E : Value → AS → Prop) : Value → AS → Prop := fun e a =>
  W c A (do if (← field e 1) == .none then unsupported "frame.own-activation:exception-without-traceback"
            setFlight e env.frame) (fun _ a' => E e a') E a

noncomputable def iterCell (ty : String) (l : Addr) (i : Nat) : Cell := .raw fun o => o.cls = .type ty ∧ o.data = .fields #[.ref l, .int i 0]

theorem All.plain {v : AV} {P : Value → Prop} (hv : v.plain = true) (h : ∀ u, er u = v → P u) : All v P := All.of h (by intro u e; subst e; cases hv)
theorem All.key {v : AV} {P : Value → Prop} (hv : v.isKey = true) (h : ∀ u, er u = v → P u) : All v P := All.of h (by intro u e; subst e; cases hv)

section
variable {c : Cx} {A : Around} {E : Value → AS → Prop} {a : AS} {env : Env} {fs : List Frm} {σ : Addr → Option (Nat × Cell)} {g : Array GenState} {k : Nat}

theorem noted_of {e : Value} {s : Shared} {R : Value → AS → Prop} (h : ∃ a', St c a' s ∧ Noted c A env R e a') : notedBy (model c.prog c.w) A env (fun e s' => ∃ a', St c a' s' ∧ R e a') e s := by
  obtain ⟨a', h1, q⟩ := h
  exact q s h1
theorem came_of {e : Value} {s : Shared} {R : Value → AS → Prop} (h : ∃ a', St c a' s ∧ Came c A env R e a') : cameBackBy (model c.prog c.w) A env (fun e s' => ∃ a', St c a' s' ∧ R e a') e s := by
  obtain ⟨a', h1, q⟩ := h
  exact q s h1

theorem W_For {target iter : Expr} {body orelse : List Stmt} {pos : Pos} {Q : Flow → AS → Prop}
    (h : W c A (eval iter env) (fun x a₁ => W c A (pyIter x) (fun it a₂ => Wk c A (.forLoop target it body orelse env) (fun r a' => match r with | .ok f => Q f a' | .error e => Came c A env E e a') a₂) E a₁) E a)
    (hs : ∀ x, foldedSetIterable iter env x = pure x := by intro _; with_unfolding_all rfl) : W c A (exec (.For target iter body orelse pos) env) Q E a := fun s hs' =>
  wpAny_For (wpAny_mono (h s hs') (fun x s₁ ⟨a₁, h1, q⟩ => wpAny_mono (q s₁ h1) (fun it s₂ ⟨a₂, h2, q⟩ => codeAny_mono (q s₂ h2) fun r s' ⟨a', h3, q⟩ => by
    cases r with
    | ok f => exact ⟨a', h3, q⟩
    | error e => exact came_of ⟨a', h3, q⟩) fun _ _ x => x) fun _ _ x => x) hs

theorem Wk_for {target : Expr} {it : Value} {body orelse : List Stmt} {R : Result → AS → Prop} (I : Nat → AS → Prop)
    (turn : ∀ n a, I n a → W c A (pyNext it) (fun r a₁ => match r with
      | none => W c A (execs orelse env) (fun f a₃ => R (.ok f) a₃) (Noted c A env fun e a' => R (.error e) a') a₁
      | some v => W c A (letOwnedTupleGo target it v) (fun _ a₁' => W c A (assign target env v) (fun _ a₂ => W c A (execs body env) (fun f a₃ => match f with
            | .next | .cont => ∃ m, m < n ∧ I m a₃
            | .brk => R (.ok .next) a₃
            | .ret v => R (.ok (.ret v)) a₃) (Noted c A env fun e a' => R (.error e) a') a₂) (Noted c A env fun e a' => R (.error e) a') a₁') (Noted c A env fun e a' => R (.error e) a') a₁) (Noted c A env fun e a' => R (.error e) a') a)
    (n : Nat) (h : I n a) : Wk c A (.forLoop target it body orelse env) R a := by
  intro s hs
  refine codeAny_forLoop_any (fun n s => ∃ a, St c a s ∧ I n a) (fun n s ⟨a, hs, hI⟩ => ?_) n ⟨a, hs, h⟩
  refine wpAny_mono (turn n a hI s hs) (fun r s₁ ⟨a₁, h1, q⟩ => ?_) fun e s' x => noted_of x
  cases r with
  | none => exact wpAny_mono (q s₁ h1) (fun _ _ x => x) fun e s' x => noted_of x
  | some v =>
    refine wpAny_mono (q s₁ h1) (fun _ s₁' ⟨a₁', h1', q⟩ => ?_) fun e s' x => noted_of x
    refine wpAny_mono (q s₁' h1') (fun _ s₂ ⟨a₂, h2, q⟩ => ?_) fun e s' x => noted_of x
    refine wpAny_mono (q s₂ h2) (fun f s₃ ⟨a₃, h3, q⟩ => ?_) fun e s' x => noted_of x
    cases f with
    | next => obtain ⟨m, hm, hi⟩ := q; exact ⟨m, hm, a₃, h3, hi⟩
    | cont => obtain ⟨m, hm, hi⟩ := q; exact ⟨m, hm, a₃, h3, hi⟩
    | brk => exact ⟨a₃, h3, q⟩
    | ret v => exact ⟨a₃, h3, q⟩

/-- an iterator over something that stays: its cell by the number of items taken -/
structure IterOf (c : Cx) (A : Around) (vs : List AV) (k : Nat) (src : (Addr → Option (Nat × Cell)) → Prop) (cell : Nat → Cell) : Prop where
  item : ∀ {it i v fs σ g Q} {E : Value → AS → Prop}, σ it = some (9, cell i) → src σ → vs[i]? = some v → (∀ σ' u, σ' = upd σ it (some (9, cell (i + 1))) → er u = v → Q (some u) ⟨fs, σ', g⟩) → W c A (pyNext (.ref it)) Q E ⟨fs, σ, g⟩
  fin : ∀ {it i fs σ g Q} {E : Value → AS → Prop}, σ it = some (9, cell i) → src σ → i = vs.length → (∀ σ', σ' = upd σ it none → Q none ⟨fs, σ', g⟩) → W c A (pyNext (.ref it)) Q E ⟨fs, σ, g⟩
  keep : ∀ {σ it i x}, src σ → σ it = some (9, cell i) → src (upd σ it x)
  ext : ∀ {C σ σ'}, k ∉ C → Ext C σ σ' → src σ → src σ'
  own : ∀ {target it u i fs σ g} {Q : Unit → AS → Prop} {E : Value → AS → Prop}, σ it = some (9, cell i) → Q () ⟨fs, σ, g⟩ → W c A (letOwnedTupleGo target (.ref it) u) Q E ⟨fs, σ, g⟩

theorem own_plain {target : Expr} {it l : Addr} {u : Value} {i k' : Nat} {ty : String} {Q : Unit → AS → Prop} (hty : ["enumerate", "zip", "dict_itemiterator", "dict_reverseitemiterator", "odict_iterator", "itertools.zip_longest", "itertools.pairwise"].contains ty = false)
    (h : σ it = some (k', iterCell ty l i)) (q : Q () ⟨fs, σ, g⟩) : W c A (letOwnedTupleGo target (.ref it) u) Q E ⟨fs, σ, g⟩ := by
  intro s hs
  obtain ⟨⟨o, ho, hc, hd⟩, _⟩ := hs.own it k' _ h
  have fin : wpAny (model c.prog c.w) A (do
      let (.ref r, .ref a) := (Value.ref it, u) | return
      let o ← load r
      match o.cls, o.data with
      | .type n, .fields vs =>
        if ["enumerate", "zip", "dict_itemiterator", "dict_reverseitemiterator", "odict_iterator", "itertools.zip_longest", "itertools.pairwise"].contains n && vs[0]? == some (rawInt a) then
          rule "for.unpacks-the-owned-tuple"
          updateField r 0 .none
      | _, _ => pure ()) (fun v s' => ∃ a', St c a' s' ∧ Q v a') (fun e s' => ∃ a', St c a' s' ∧ E e a') s := by
    cases u with
    | ref b =>
      refine wpAny_bind (wpAny_load ho ?_)
      rw [hc, hd]
      dsimp only
      rw [hty]
      exact wpAny_pure ⟨_, hs, q⟩
    | _ => exact wpAny_pure ⟨_, hs, q⟩
  unfold letOwnedTupleGo
  cases target <;> first | exact fin | exact wpAny_pure ⟨_, hs, q⟩

theorem listIter_of {it l : Addr} {i : Nat} {k' : Nat} {s : Shared} (hs : St c a s) (h : a.σ it = some (k', iterCell "list_iterator" l i)) : s.heap.IsListIter it l i := by
  obtain ⟨⟨o, ho, hc, hd⟩, _⟩ := hs.own it k' _ h
  exact ⟨o, ho, hc, hd⟩
theorem tupleIter_of {it l : Addr} {i : Nat} {k' : Nat} {s : Shared} (hs : St c a s) (h : a.σ it = some (k', iterCell "tuple_iterator" l i)) : s.heap.IsTupleIter it l i := by
  obtain ⟨⟨o, ho, hc, hd⟩, _⟩ := hs.own it k' _ h
  exact ⟨o, ho, hc, hd⟩
theorem isTuple_of {D : Addr} {h : Heap} {us : Array Value} {n : Nat} (ho : h.get? D = some { cls := .type "tuple", data := .seq us n }) : h.IsTuple D us := ⟨_, ho, rfl, n, rfl⟩

theorem W_iter_list {l : Addr} {vs : List AV} {Q : Value → AS → Prop} (hl : σ l = some (k, .list vs)) (h : ∀ it, σ it = none → ∀ σ', σ' = upd σ it (some (9, iterCell "list_iterator" l 0)) → Q (.ref it) ⟨fs, σ', g⟩) : W c A (pyIter (.ref l)) Q E ⟨fs, σ, g⟩ := fun s hs => by
  obtain ⟨us, n, ho, e⟩ := own_list hs hl
  exact wpAny_pyIter_list (isList_of ho) ⟨_, hs.alloc (k := 9) (cl := iterCell "list_iterator" l 0) ⟨rfl, rfl⟩ rfl, h _ hs.fresh.1 _ rfl⟩
theorem W_iter_tuple {l : Addr} {vs : List AV} {Q : Value → AS → Prop} (hl : σ l = some (k, .tuple vs)) (h : ∀ it, σ it = none → ∀ σ', σ' = upd σ it (some (9, iterCell "tuple_iterator" l 0)) → Q (.ref it) ⟨fs, σ', g⟩) : W c A (pyIter (.ref l)) Q E ⟨fs, σ, g⟩ := fun s hs => by
  obtain ⟨us, n, ho, e⟩ := own_tuple hs hl
  exact wpAny_pyIter_tuple (isTuple_of ho) ⟨_, hs.alloc (k := 9) (cl := iterCell "tuple_iterator" l 0) ⟨rfl, rfl⟩ rfl, h _ hs.fresh.1 _ rfl⟩

theorem IterOf.list {l : Addr} {vs : List AV} (hh : A.handled = none) : IterOf c A vs k (fun σ => σ l = some (k, .list vs)) (iterCell "list_iterator" l) where
  item := fun {it i v fs σ g Q E} hit hl hv h s hs => by
    obtain ⟨us, n, ho, e⟩ := own_list hs hl
    obtain ⟨u, hu, eu⟩ := get_of e hv
    refine wpAny_pyNext_list_item (listIter_of hs hit) (isList_of ho) hu (fun h' hi hsb => ?_)
    obtain ⟨o', ho', hc', hd'⟩ := hi
    exact ⟨_, hs.put hit (fun b o q z => (hsb.2 b q).trans z) ho' (cl' := iterCell "list_iterator" l (i + 1)) ⟨hc', hd'⟩, h _ _ rfl eu⟩
  fin := fun {it i fs σ g Q E} hit hl hi h s hs => by
    obtain ⟨us, n, ho, e⟩ := own_list hs hl
    refine wpAny_pyNext_list_end hh (listIter_of hs hit) (isList_of ho) (by rw [Array.getElem?_eq_none]; rw [size_of e]; omega) (fun h' hx => ⟨_, hs.drop hit (fun b o q z => hx b o q z), h _ rfl⟩)
  keep := fun {σ it i x} h hi => by rw [upd_ne (fun q => by rw [q, hi] at h; cases h)]; exact h
  ext := fun {C σ σ'} hk hx h => hx _ _ _ h hk
  own := fun h q => own_plain (by decide) h q
theorem IterOf.tuple {l : Addr} {vs : List AV} (hh : A.handled = none) : IterOf c A vs k (fun σ => σ l = some (k, .tuple vs)) (iterCell "tuple_iterator" l) where
  item := fun {it i v fs σ g Q E} hit hl hv h s hs => by
    obtain ⟨us, n, ho, e⟩ := own_tuple hs hl
    obtain ⟨u, hu, eu⟩ := get_of e hv
    refine wpAny_pyNext_tuple_item (tupleIter_of hs hit) (isTuple_of ho) hu (fun h' hi hsb => ?_)
    obtain ⟨o', ho', hc', hd'⟩ := hi
    exact ⟨_, hs.put hit (fun b o q z => (hsb.2 b q).trans z) ho' (cl' := iterCell "tuple_iterator" l (i + 1)) ⟨hc', hd'⟩, h _ _ rfl eu⟩
  fin := fun {it i fs σ g Q E} hit hl hi h s hs => by
    obtain ⟨us, n, ho, e⟩ := own_tuple hs hl
    refine wpAny_pyNext_tuple_end hh (tupleIter_of hs hit) (isTuple_of ho) (by rw [Array.getElem?_eq_none]; rw [size_of e]; omega) (fun h' hx => ⟨_, hs.drop hit (fun b o q z => hx b o q z), h _ rfl⟩)
  keep := fun {σ it i x} h hi => by rw [upd_ne (fun q => by rw [q, hi] at h; cases h)]; exact h
  ext := fun {C σ σ'} hk hx h => hx _ _ _ h hk
  own := fun h q => own_plain (by decide) h q

/-- a for over an iterator that has just been made -/
theorem Wk_loop {L : Addr} {cl : List (Str × Addr)} {ns : List Str} {target : Expr} {it : Addr} {body : List Stmt} {vs : List AV} {src : (Addr → Option (Nat × Cell)) → Prop} {cell : Nat → Cell} {vv₀ : List (Option AV)} {σ₀ σ₁ : Addr → Option (Nat × Cell)} {R : Result → AS → Prop}
    (IO : IterOf c A vs k src cell) (C : List Nat) (h9 : 9 ∉ C) (hk : k ∉ C) (J : Nat → List (Option AV) → (Addr → Option (Nat × Cell)) → Prop)
    (stab : ∀ i vv σ σ', J i vv σ → Ext [9] σ σ' → J i vv σ') (hit : σ₀ it = none) (e₁ : σ₁ = upd σ₀ it (some (9, cell 0))) (hsrc : src σ₁) (hJ : J 0 vv₀ σ₀)
    (turn : ∀ i v vv σ u, J i vv σ → vs[i]? = some v → er u = v → src σ → Ext C σ₀ σ → W c A (assign target env u) (fun _ a₂ => W c A (execs body env) (fun fl a' => match fl with
      | .next | .cont => ∃ vv' σ', a' = ⟨⟨L, cl, ns, vv'⟩ :: fs, σ', g⟩ ∧ Ext C σ σ' ∧ J (i + 1) vv' σ'
      | .brk => R (.ok .next) a'
      | .ret v => R (.ok (.ret v)) a') (Noted c A env fun e a' => R (.error e) a') a₂) (Noted c A env fun e a' => R (.error e) a') ⟨⟨L, cl, ns, vv⟩ :: fs, σ, g⟩)
    (fin : ∀ vv σ, J vs.length vv σ → Ext C σ₀ σ → R (.ok .next) ⟨⟨L, cl, ns, vv⟩ :: fs, σ, g⟩) :
    Wk c A (.forLoop target (.ref it) body [] env) R ⟨⟨L, cl, ns, vv₀⟩ :: fs, σ₁, g⟩ := by
  refine Wk_for (I := fun n a => ∃ i vv σ, a = ⟨⟨L, cl, ns, vv⟩ :: fs, σ, g⟩ ∧ n + i = vs.length ∧ σ it = some (9, cell i) ∧ src σ ∧ J i vv σ ∧ Ext C σ₀ σ) (fun n a hI => ?_) vs.length
    ⟨0, vv₀, σ₁, rfl, rfl, by rw [e₁]; simp, hsrc, stab _ _ _ _ hJ (by rw [e₁]; exact Ext.upd_new hit), by rw [e₁]; exact Ext.upd_new hit⟩
  obtain ⟨i, vv, σ, rfl, hn, hc, hs, hj, hx⟩ := hI
  have off : ∀ x, Ext C σ₀ (upd σ it x) := fun x y k' cl' q1 q2 => by
    rw [upd_ne (fun z => by rw [z, hit] at q1; cases q1)]; exact hx y k' cl' q1 q2
  have off9 : ∀ x, Ext [9] σ (upd σ it x) := fun x => Ext.upd_own hc (by simp)
  cases n with
  | zero =>
    refine IO.fin hc hs (by omega) (fun σ' e' => ?_)
    subst e'
    refine W_nil ?_
    have : i = vs.length := by omega
    subst this
    exact fin vv _ (stab _ _ _ _ hj (off9 _)) (off _)
  | succ n =>
    have hi : i < vs.length := by omega
    refine IO.item hc hs (v := vs[i]) (by simp [hi]) (fun σ' u e' eu => ?_)
    · subst e'
      refine IO.own (i := i + 1) (by simp) ?_
      refine W_mono (turn i vs[i] vv _ u (stab _ _ _ _ hj (off9 _)) (by simp [hi]) eu (IO.keep hs hc) (off _)) (fun _ a₂ q => ?_) fun _ _ x => x
      refine W_mono q (fun fl a' q => ?_) fun _ _ x => x
      have go : (∃ vv' σ', a' = ⟨⟨L, cl, ns, vv'⟩ :: fs, σ', g⟩ ∧ Ext C (upd σ it (some (9, cell (i + 1)))) σ' ∧ J (i + 1) vv' σ') → ∃ m, m < n + 1 ∧ ∃ i vv σ, a' = ⟨⟨L, cl, ns, vv⟩ :: fs, σ, g⟩ ∧ m + i = vs.length ∧ σ it = some (9, cell i) ∧ src σ ∧ J i vv σ ∧ Ext C σ₀ σ := by
        rintro ⟨vv', σ', rfl, q1, q2⟩
        exact ⟨n, by omega, i + 1, vv', σ', rfl, by omega, q1 it 9 _ (by simp) h9, IO.ext hk q1 (IO.keep hs hc), q2, (off _).trans q1⟩
      cases fl with
      | next => exact go q
      | cont => exact go q
      | brk => exact q
      | ret v => exact q
end
end Mine

namespace Mine
open PySem PySem.W PyProof.Rows PySem.Calls PySem.F PySem.AutoSeq1 PySem.MeetsSeq PySem.MeetsSeq3 PySem.SeqAt

section
variable {c : Cx} {A : Around} {E : Value → AS → Prop} {a : AS} {env : Env} {fs : List Frm} {σ : Addr → Option (Nat × Cell)} {g : Array GenState} {k : Nat}

theorem W_Call_method {o : Expr} {name : Str} {apos pos : Pos} {args : List Expr} {Q : Value → AS → Prop}
    (h : W c A (eval o env) (fun ov a₁ => ∀ pl, W c A (getMethod ov name pl) (fun fx a₂ => W c A (callWith pos fx.1 fx.2 (backTo pos (starEach args env)) []) Q E a₂) E a₁) E a)
    (hb : attributeBase o name env (eval o env) = eval o env := by with_unfolding_all rfl) (hfew : methodCallForm (args.length + 0) (backTo pos (starEach args env)) [] = true := by with_unfolding_all rfl) (hline : (apos.endLine == pos.line) = true := by with_unfolding_all rfl) :
    W c A (eval (.Call (.Attribute o name apos) args [] pos) env) Q E a := by
  show W c A (attributeBase o name env (eval o env) >>= _) Q E a
  rw [hb]
  refine W_bind (W_mono h (fun ov a₁ q => W_bind (W_standAt ?_)) fun _ _ x => x)
  show W c A (methodCall o name apos pos env ov (args.length + 0) (backTo pos (starEach args env)) []) Q E a₁
  unfold methodCall
  rw [hfew]
  refine W_bind (W_holding ?_)
  show W c A (getMethod ov name _) _ E a₁
  refine W_mono (q _) (fun fx a₂ q => ?_) fun _ _ x => x
  have : methodCallPos true o env apos pos = pure pos := by
    unfold methodCallPos; rw [hline]; rfl
  obtain ⟨f, first⟩ := fx
  show W c A (methodCallPos true o env apos pos >>= _) Q E a₂
  rw [this]
  exact W_bind (W_pure q)

/-- the road with a star: the attribute first -/
theorem W_Call_methodS {o : Expr} {name : Str} {apos pos : Pos} {args : List Expr} {Q : Value → AS → Prop}
    (h : W c A (eval o env) (fun ov a₁ => W c A (getAttr ov name true) (fun f a₂ => W c A (callWith pos f [] (backTo pos (starEach args env)) []) Q E a₂) E a₁) E a)
    (hb : attributeBase o name env (eval o env) = eval o env := by with_unfolding_all rfl) (hfew : methodCallForm (args.length + 0) (backTo pos (starEach args env)) [] = false := by with_unfolding_all rfl) :
    W c A (eval (.Call (.Attribute o name apos) args [] pos) env) Q E a := by
  show W c A (attributeBase o name env (eval o env) >>= _) Q E a
  rw [hb]
  refine W_bind (W_mono h (fun ov a₁ q => W_bind (W_standAt ?_)) fun _ _ x => x)
  show W c A (methodCall o name apos pos env ov (args.length + 0) (backTo pos (starEach args env)) []) Q E a₁
  unfold methodCall
  rw [hfew]
  refine W_bind (W_holding (W_bind ?_))
  refine W_mono q (fun f a₂ q => W_pure ?_) fun _ _ x => x
  exact W_bind (W_pure q)

theorem W_Subscript {value slice : Expr} {pos : Pos} {Q : Value → AS → Prop}
    (h : W c A (eval value env) (fun o a₁ => W c A (eval slice env) (fun i a₂ => (∀ s, St c a₂ s → Looks (model c.prog c.w) s.heap (getitemInPython o) false) ∧ W c A (getItem o i) Q E a₂) E a₁) E a)
    : W c A (eval (.Subscript value slice pos) env) Q E a := by
  show W c A (eval value env >>= _) Q E a
  refine W_bind (W_mono h (fun o a₁ q => W_bind (W_holding (W_mono q (fun i a₂ q => W_bind (W_standAt ?_)) fun _ _ x => x))) fun _ _ x => x)
  intro s hs
  refine wpAny_bind ((q.1 s hs).here ?_)
  have key : wpAny (model c.prog c.w) A (getItem o i) (fun r s' => wpAny (model c.prog c.w) A (do letTemporaryGo value o r; pure r) (fun v s' => ∃ a', St c a' s' ∧ Q v a') (fun e s' => ∃ a', St c a' s' ∧ E e a') s') (fun e s' => ∃ a', St c a' s' ∧ E e a') s :=
    wpAny_mono (q.2 s hs) (fun r s' x => wpAny_bind (wpAny_letTemporaryGo (wpAny_pure x))) fun _ _ x => x
  have : ∀ vs, wpAny (model c.prog c.w) A (operate vs (getItem o i)) (fun r s' => wpAny (model c.prog c.w) A (do letTemporaryGo value o r; pure r) (fun v s' => ∃ a', St c a' s' ∧ Q v a') (fun e s' => ∃ a', St c a' s' ∧ E e a') s') (fun e s' => ∃ a', St c a' s' ∧ E e a') s := fun vs => wpAny_operate' key
  refine wpAny_bind ?_
  unfold subscripted
  split <;> first | exact this _ | (rename_i h1; exact absurd h1 (by simp))

theorem noGet_list {l : Addr} {vs : List AV} (hl : a.σ l = some (k, .list vs)) : ∀ s, St c a s → Looks (model c.prog c.w) s.heap (getitemInPython (.ref l)) false := fun s hs => by
  obtain ⟨us, n, ho, e⟩ := own_list hs hl
  intro A Q E s' kk q
  unfold getitemInPython specialOf
  refine wpAny_bind (wpAny_bind (wpAny_typeOf ⟨_, kk _ _ ho, rfl⟩ ?_))
  rw [PySem.F.slot_list_getitem.lookup]
  exact wpAny_pure (wpAny_pure q)
theorem noGet_dict {l : Addr} {kvs : List (AV × AV)} {ep : Nat} (hl : a.σ l = some (k, .dict kvs ep)) : ∀ s, St c a s → Looks (model c.prog c.w) s.heap (getitemInPython (.ref l)) false := fun s hs => by
  obtain ⟨⟨o, ho, ex, _⟩, _⟩ := hs.own l k _ hl
  intro A Q E s' kk q
  unfold getitemInPython specialOf
  refine wpAny_bind (wpAny_bind (wpAny_typeOf ⟨_, kk _ _ ho, ex.1⟩ ?_))
  rw [PySem.F.slot_dict_getitem.lookup]
  exact wpAny_pure (wpAny_pure q)

theorem W_AugAttr {o : Expr} {attr : Str} {tpos : Pos} {op : Operator} {value : Expr} {pos : Pos} {Q : Flow → AS → Prop}
    (h : W c A (eval o env) (fun ov a₁ => W c A (getAttr ov attr true) (fun old a₂ => W c A (eval value env) (fun v a₃ => W c A (inplaceOp op old v) (fun new a₄ => W c A (setAttr ov attr new) (fun _ => Q .next) E a₄) E a₃) E a₂) E a₁) E a) :
    W c A (exec (.AugAssign (.Attribute o attr tpos) op value pos) env) Q E a := by
  show W c A (standAt pos >>= _) Q E a
  refine W_bind (W_standAt (W_bind (W_mono h (fun ov a₁ q => W_bind (W_holding (W_bind (W_standAt (W_bind (W_mono q (fun old a₂ q => W_bind (W_holding (W_mono q (fun v a₃ q => W_bind (W_standAt ?_)) fun _ _ x => x))) fun _ _ x => x)))))) fun _ _ x => x)))
  intro s hs
  refine wpAny_operate' (wpAny_mono (q s hs) (fun new s₄ ⟨a₄, h4, q⟩ => ⟨a₄, h4, ?_⟩) fun _ _ x => x)
  refine W_bind (W_standAt (W_bind (W_holding (W_mono q (fun _ a₅ q => ?_) fun _ _ x => x))))
  refine W_bind ?_
  intro s hs Γ p' hΓ
  rw [Sem.wp_release]
  exact ⟨a₅, hs, W_pure q⟩

/-! environments -/
noncomputable def codeOf (x : Str) : Nat := x.cps.foldl (fun n c => n * 2097152 + c + 1) 0

theorem nodup_of_codes : ∀ {l : List Str}, (l.map codeOf).Nodup → l.Nodup
  | [], _ => .nil
  | x :: l, h => by
    simp only [List.map_cons, List.nodup_cons] at h ⊢
    exact ⟨fun q => h.1 (List.mem_map_of_mem q), nodup_of_codes h.2⟩

theorem lookup_nodup {α : Type} : ∀ {l : List (Str × α)}, (l.map (·.1)).Nodup → ∀ {p : Str × α}, p ∈ l → l.lookup p.1 = some p.2
  | [], _, _, h => by cases h
  | q :: l, hd, p, h => by
    simp only [List.map_cons, List.nodup_cons] at hd
    rw [List.lookup_cons]
    rcases List.mem_cons.mp h with e | h
    · subst e; simp
    · have : (p.1 == q.1) = false := beq_eq_false_iff_ne.mpr fun e => hd.1 (e ▸ List.mem_map_of_mem h)
      simp only [this]; exact lookup_nodup hd.2 h

theorem mkEnv {fd : FuncData} {L f : Addr} {ns : List Str} {gs : List (Str × Value)} (hn : fd.scope.names = ns.map (·, NameKind.local) ++ gs.map (fun p => (p.1, NameKind.globalImplicit))) (hk : fd.scope.kind = .function)
    (hg : fd.globals = mainGlobals) (hb : fd.builtins = builtinsNs) (hnd : ((("__debug__" : Str) :: (ns ++ gs.map (·.1))).map codeOf).Nodup) (hglob : ∀ p ∈ gs, Glob c p.1 p.2) : EnvOk c (callEnv fd L f) L [] ns gs := by
  have h0 := nodup_of_codes hnd
  have h1 := (List.nodup_cons.mp h0).2
  have hkeys : (fd.scope.names.map (·.1)).Nodup := by
    rw [hn, List.map_append, List.map_map, List.map_map]
    simpa [Function.comp_def] using h1
  have look : ∀ {p}, p ∈ fd.scope.names → (callEnv fd L f).kindOf p.1 = some p.2 := fun hp => lookup_nodup hkeys hp
  have nodbg : ∀ x ∈ ns ++ gs.map (·.1), (x == ("__debug__" : Str)) = false := fun x hx => beq_eq_false_iff_ne.mpr fun e => (List.nodup_cons.mp h0).1 (e ▸ hx)
  refine ⟨hk, rfl, (List.nodup_append.mp h1).1, .nil, fun x hx => ⟨nodbg x (List.mem_append_left _ hx), .inl ⟨rfl, ?_⟩⟩, fun p hp => ⟨nodbg _ (List.mem_append_right _ (List.mem_map_of_mem hp)), ?_, hglob p hp⟩, hg, hb⟩
  · exact look (p := (x, .local)) (by rw [hn]; exact List.mem_append_left _ (List.mem_map_of_mem hx))
  · exact look (p := (p.1, .globalImplicit)) (by rw [hn]; exact List.mem_append_right _ (List.mem_map.mpr ⟨p, hp, rfl⟩))

theorem W_ExprE {e : Expr} {pos : Pos} {L : Addr} {cl ns gs} {Q : Flow → AS → Prop} (he : EnvOk c env L cl ns gs) (h : W c A (eval e env) (fun _ a' => Q .next a') E a)
    (hs : swapsWith e none pos.line env = pure false := by with_unfolding_all rfl) : W c A (exec (.Expr e pos) env) Q E a :=
  W_Expr h (by unfold interactive; rw [he.kind]; rfl) hs

noncomputable def fdOf (K : Frag) (a : Addr) : FuncData := match K.lookup a with
  | some ⟨_, _, .func fd, _⟩ => fd
  | _ => default
noncomputable def isFd (K : Frag) (a : Addr) : Bool := match K.lookup a with
  | some ⟨_, _, .func _, _⟩ => true
  | _ => false
theorem fdOf_ex {K : Frag} {a : Addr} (h : isFd K a = true) : ∃ o, K.lookup a = some o ∧ o.data = .func (fdOf K a) := by
  unfold isFd at h
  unfold fdOf
  split at h
  · rename_i q; exact ⟨_, q, rfl⟩
  · cases h
end
end Mine

namespace Mine
open PySem PySem.W PyProof.Rows PySem.Calls PySem.F PySem.AutoSeq1 PySem.MeetsSeq PySem.MeetsSeq3 PySem.SeqAt

theorem ite_t {p : Prop} [Decidable p] {a b : Prop} (hp : p) (h : a) : if p then a else b := by rw [if_pos hp]; exact h
theorem ite_f {p : Prop} [Decidable p] {a b : Prop} (hp : ¬ p) (h : b) : if p then a else b := by rw [if_neg hp]; exact h
theorem Pop.mk {fs : List Frm} {P : AS → Prop} {f : Frm} {σ g} (h : P ⟨fs, σ, g⟩) : Pop fs P ⟨f :: fs, σ, g⟩ := ⟨f, rfl, h⟩

section
variable {c : Cx} {A : Around} {E : Value → AS → Prop} {a : AS} {env : Env} {fs : List Frm} {σ : Addr → Option (Nat × Cell)} {g : Array GenState} {k : Nat}

theorem meets_bool_new_list (l : Addr) (items : Array Value) : Meets (Builtin.«bool.__new__» ⟨[.type "bool", .ref l], []⟩) (fun _ R s => s.heap.IsList l items ∧ (items.size : Int) < 2 ^ 63 ∧ ∀ tk, R (.ok (.ret (.bool (!items.isEmpty)))) { s with toks := tk }) := by
  refine Meets.of_wp fun prog w A R s h => ?_
  obtain ⟨hp, g, d, tk, os⟩ := s
  obtain ⟨h1, h2, h3⟩ := h
  have f1 := F.conv_sub_bool
  repeat (any_goals (first | assumption | (with_reducible refine wpAny_truthy_list h1 h2 ?_) | wp_step))
  all_goals first | exact ⟨_, rfl, h3 _⟩ | skip

theorem W_bool_list {l : Addr} {vs : List AV} {Q : Value → AS → Prop} (hl : a.σ l = some (k, .list vs)) (hz : vs.length ≤ 1000000) (h : Q (.bool (!vs.isEmpty)) a) : W c A (call (.type "bool") [.ref l]) Q E a := fun s hs => by
  obtain ⟨us, n, ho, e⟩ := own_list hs hl
  have hsz := size_of e
  have : us.isEmpty = vs.isEmpty := by
    rw [← e]; cases us with | mk l => cases l <;> simp
  refine call_bool_1 (meets_bool_new_list l us) ⟨isList_of ho, by rw [hsz]; exact fits_big hz, fun tk => ⟨rfl, a, hs.of_eq, ?_⟩⟩
  rw [this]; exact h

theorem backTo_plain {pos : Pos} {x : Sem Value} {l : List (Bool × Sem Value)} : backTo pos ((false, x) :: l) = (false, x) :: backTo pos l := rfl
theorem W_args {f : Value} {e : Expr} {rest : List Expr} {pos : Pos} {Q : Args → AS → Prop} (h : W c A (spliced (backTo pos (starEach (e :: rest) env))) (fun vs a₁ => Q ⟨vs, []⟩ a₁) E a)
    (hst : starEach (e :: rest) env = (false, eval e env) :: starEach rest env := by with_unfolding_all rfl) : W c A (evalArgs f true (backTo pos (starEach (e :: rest) env)) []) Q E a := by
  rw [hst, backTo_plain] at h ⊢
  exact W_evalArgs h
theorem W_args_nil {f : Value} {pos : Pos} {Q : Args → AS → Prop} (h : Q ⟨[], []⟩ a) : W c A (evalArgs f true (backTo pos (starEach [] env)) []) Q E a := W_evalArgs_nil h
theorem W_spl {e : Expr} {rest : List Expr} {pos : Pos} {Q : List Value → AS → Prop} (h : W c A (eval e env) (fun v a₁ => W c A (spliced (backTo pos (starEach rest env))) (fun vs a₂ => Q (v :: vs) a₂) E a₁) E a)
    (hst : starEach (e :: rest) env = (false, eval e env) :: starEach rest env := by with_unfolding_all rfl) : W c A (spliced (backTo pos (starEach (e :: rest) env))) Q E a := by
  rw [hst, backTo_plain]
  exact W_spliced_cons h
theorem W_spl_nil {pos : Pos} {Q : List Value → AS → Prop} (h : Q [] a) : W c A (spliced (backTo pos (starEach [] env))) Q E a := W_spliced_nil h

/-- a starred list or tuple -/
noncomputable def Starry (c : Cx) (a : AS) (l : Addr) (vs : List AV) : Prop := ∃ k, a.σ l = some (k, .list vs) ∨ a.σ l = some (k, .tuple vs)
theorem starry_obj {l : Addr} {vs : List AV} {s : Shared} (hs : St c a s) (h : Starry c a l vs) : ∃ T us n o, (T = "list" ∨ T = "tuple") ∧ s.heap.get? l = some o ∧ o.cls = .type T ∧ o.data = .seq us n ∧ us.toList.map er = vs := by
  obtain ⟨k, h | h⟩ := h
  · obtain ⟨us, n, ho, e⟩ := own_list hs h
    exact ⟨_, us, n, _, .inl rfl, ho, rfl, rfl, e⟩
  · obtain ⟨us, n, ho, e⟩ := own_tuple hs h
    exact ⟨_, us, n, _, .inr rfl, ho, rfl, rfl, e⟩
theorem W_starOf {l : Addr} {vs : List AV} {Q : List Value → Shared → Prop} {s : Shared} (hs : St c a s) (h : Starry c a l vs) (hz : vs.length ≤ 1000000) (q : ∀ us s', us.map er = vs → St c a s' → Q us s') :
    StarOf (model c.prog c.w) A (fun e s' => ∃ a', St c a' s' ∧ E e a') (.ref l) Q s := by
  obtain ⟨T, us, n, o, hT, ho, hc, hd, e⟩ := starry_obj hs h
  have hit : Looks (model c.prog c.w) s.heap (notIterableAtAll (.ref l)) false := by
    intro A Q E s' kk q
    unfold notIterableAtAll specialOf
    refine wpAny_bind (wpAny_bind (wpAny_typeOf ⟨_, kk _ _ ho, hc⟩ ?_))
    rcases hT with rfl | rfl
    · rw [PySem.F.slot_list_iter.lookup]; exact wpAny_pure (wpAny_pure q)
    · rw [PySem.F.slot_tuple_iter.lookup]; exact wpAny_pure (wpAny_pure q)
  refine hit.here ⟨rfl, ?_⟩
  exact wpAny_collect_seq l hT ho hc hd (fun h' k' => q _ _ e (hs.grow k')) (by rw [size_of e]; exact sizeLine_big hz)
theorem W_spl_star {e : Expr} {p : Pos} {rest : List Expr} {pos : Pos} {Q : List Value → AS → Prop} (h : W c A (eval e env) (fun v a₁ => ∃ l vs, v = .ref l ∧ Starry c a₁ l vs ∧ vs.length ≤ 1000000 ∧ ∀ us, us.map er = vs → W c A (spliced (backTo pos (starEach rest env))) (fun ws a₂ => Q (us ++ ws) a₂) E a₁) E a) :
    W c A (spliced (backTo pos (starEach (.Starred e p :: rest) env))) Q E a := by
  intro s hs
  refine ks_spliced (wpAny_mono (h s hs) (fun v s₁ ⟨a₁, h1, l, vs, e1, e2, e3, e4⟩ => ?_) fun _ _ x => x)
  subst e1
  exact W_starOf h1 e2 e3 fun us s' e h' => e4 us e s' h'
theorem W_args_star {f : Value} {e : Expr} {p : Pos} {pos : Pos} {Q : Args → AS → Prop} (h : W c A (eval e env) (fun v a₁ => ∃ l vs, v = .ref l ∧ Starry c a₁ l vs ∧ vs.length ≤ 1000000 ∧ ∀ us, us.map er = vs → Q ⟨us, []⟩ a₁) E a) :
    W c A (evalArgs f true (backTo pos (starEach [.Starred e p] env)) []) Q E a := by
  intro s hs
  refine ks_lone (wpAny_mono (h s hs) (fun v s₁ ⟨a₁, h1, l, vs, e1, e2, e3, e4⟩ => ?_) fun _ _ x => x)
  subst e1
  exact W_starOf h1 e2 e3 fun us s' e h' => ⟨_, h', e4 us e⟩

noncomputable def bodyOf (fd : FuncData) : List Stmt := match fd.body with
  | .stmts b => b
  | _ => []

structure FnOk (K : Frag) (f : Addr) (ps rs : List Str) (gs : List Str) : Prop where
  fn : isFd K f = true
  code : codeIn K (fdOf K f).code (fdOf K f).qualname = true
  names : (fdOf K f).scope.names = (ps ++ rs).map (·, NameKind.local) ++ gs.map (·, NameKind.globalImplicit)
  kind : (fdOf K f).scope.kind = .function
  co : (fdOf K f).scope.isCoroutine = false
  gen : (fdOf K f).scope.isGenerator = false
  body : (fdOf K f).body = .stmts (bodyOf (fdOf K f))
  gl : (fdOf K f).globals = mainGlobals
  bl : (fdOf K f).builtins = builtinsNs
  nd : ((("__debug__" : Str) :: ((ps ++ rs) ++ gs)).map codeOf).Nodup

theorem Wk_call_KD {K : Frag} {f : Addr} {ps rs ns : List Str} {gs : List (Str × Value)} {args vals : List Value} {us : List AV} {vs : List (Option AV)} {d : Nat} {R : Result → AS → Prop}
    (hK : c.K = K) (hf : FnOk K f ps rs (gs.map (·.1))) (hns : ns = ps ++ rs) (hbind : ∀ s : Shared, K.In s.heap → BindsTo s (fdOf K f) ⟨args, []⟩ (ps.zip vals)) (hu : vals.map er = us) (hi : Init ps us rs vs) (hglob : ∀ p ∈ gs, Glob c p.1 p.2) (hA : AOk A fs (d + 1))
    (h : ∀ L env, env = callEnv (fdOf K f) L f → σ L = none → AOk (A.deeper env) (⟨L, [], ns, vs⟩ :: fs) d → EnvOk c env L [] ns gs →
      W c (A.deeper env) (execs (bodyOf (fdOf K f)) env) (fun fl a' => Pop fs (R (.ok (.ret (retOf fl)))) a')
        (fun e a' => W c (A.deeper env) (leaving env e) (fun _ a'' => Pop fs (R (.error e)) a'') (fun _ _ => False) a') ⟨⟨L, [], ns, vs⟩ :: fs, σ, g⟩) :
    Wk c A (.call (.ref f) ⟨args, []⟩) R ⟨fs, σ, g⟩ := by
  subst hK hns
  obtain ⟨o, ho, hd⟩ := fdOf_ex hf.fn
  have hnm := hf.names
  rw [List.map_map] at hnm
  have hnd := nodup_of_codes hf.nd
  have hnd2 := (List.nodup_cons.mp hnd).2
  refine Wk_call_fn ho hd hf.code hf.body hbind hu hi (List.nodup_append.mp hnd2).1 (fun x hx => ?_) (fun x hx => ?_) hA (fun L hL hA' => h L _ rfl hL hA' (mkEnv hnm hf.kind hf.gl hf.bl hf.nd hglob)) hf.co hf.gen hf.kind
  · rw [hnm] at hx
    rcases List.mem_append.mp hx with hx | hx
    · obtain ⟨y, _, rfl⟩ := List.mem_map.mp hx; intro q; cases q
    · obtain ⟨y, _, rfl⟩ := List.mem_map.mp hx; intro q; cases q
  · have hkeys : ((fdOf c.K f).scope.names.map (·.1)).Nodup := by
      rw [hnm, List.map_append, List.map_map, List.map_map]
      simpa [Function.comp_def] using hnd2
    exact lookup_nodup hkeys (p := (x, .local)) (by rw [hnm]; exact List.mem_append_left _ (List.mem_map.mpr ⟨x, List.mem_append_left _ hx, rfl⟩))

end
end Mine

namespace Mine
open PySem PySem.W PyProof.Rows PySem.Calls PySem.F

noncomputable def tbv : Option Addr → Value
  | none => .none
  | some T => .ref T
noncomputable def excCell (cls : Value) (t : Addr) (tb : Option Addr) : Cell := .raw fun o => o.cls = cls ∧ o.dict = none ∧ ∃ vs : Array Value, o.data = .fields vs ∧ vs[0]? = some (.ref t) ∧ vs[1]? = some (tbv tb) ∧ vs.size = 6
noncomputable def tbCell : Cell := .raw fun o => ∃ ts : Array Value, o.data = .fields ts ∧ 3 < ts.size

structure Exc (σ : Addr → Option (Nat × Cell)) (e t : Addr) (cls : Value) (args : List AV) (tb : Option Addr) : Prop where
  he : σ e = some (8, excCell cls t tb)
  ht : σ t = some (0, .tuple args)
  htb : ∀ T, tb = some T → σ T = some (8, tbCell) ∧ T ≠ e

theorem Exc.ext {C : List Nat} {σ σ' : Addr → Option (Nat × Cell)} {e t : Addr} {cls : Value} {args : List AV} {tb : Option Addr} (h : Exc σ e t cls args tb) (x : Ext C σ σ') (h0 : 0 ∉ C) (h8 : 8 ∉ C) : Exc σ' e t cls args tb :=
  ⟨x _ _ _ h.he h8, x _ _ _ h.ht h0, fun T q => ⟨x _ _ _ (h.htb T q).1 h8, (h.htb T q).2⟩⟩

section
variable {c : Cx} {A : Around} {E : Value → AS → Prop} {a : AS} {env : Env} {fs : List Frm} {σ : Addr → Option (Nat × Cell)} {g : Array GenState} {k : Nat} {outer : List Env}

theorem AOk.head {d : Nat} (h : AOk A fs d) (env : Env) : ∃ outer, (A.deeper env).frames = some (env :: outer) := by
  obtain ⟨envs, e, _⟩ := h.link
  exact ⟨envs, by simp [Around.deeper, e]⟩

theorem link_frames (hl : Link A fs) (hF : A.frames = some (env :: outer)) {s : Shared} (hs : St c ⟨fs, σ, g⟩ s) : s.heap.FunFrames c.base (env :: outer) ∧ ∀ b ∈ (env :: outer).filterMap (·.frame), ∃ f ∈ fs, b = f.L := by
  obtain ⟨envs, e, r⟩ := hl
  rw [hF] at e; cases e
  constructor
  · have : ∀ l : List Env, (∀ e ∈ l, e.scope.kind = .function ∧ ∃ f ∈ fs, e.frame = some f.L) → s.heap.FunFrames c.base l := by
      intro l
      induction l with
      | nil => intro _; trivial
      | cons en l ih =>
        intro h
        obtain ⟨hk, f, hf, q⟩ := h en (List.mem_cons_self ..)
        obtain ⟨m, ⟨o, es, ep, ho, hd, _⟩, _⟩ := hs.fr f hf
        refine ⟨by rw [hk]; decide, ⟨f.L, o, q, hs.nb f hf f.L (by simp [Frm.as]), ho, fun vs z => by rw [hd] at z; cases z⟩, ih fun e he => h e (List.mem_cons_of_mem _ he)⟩
    exact this _ r
  · intro b hb
    obtain ⟨en, hen, q⟩ := List.mem_filterMap.mp hb
    obtain ⟨_, f, hf, q'⟩ := r en hen
    rw [q'] at q; cases q
    exact ⟨f, hf, rfl⟩

theorem St.slots {s : Shared} {S : List Addr} {h' : Heap} (hs : St c ⟨fs, σ, g⟩ s) (hS : ∀ b ∈ S, ∃ f ∈ fs, b = f.L) (x : Heap.SlotsOnly S s.heap h') : St c ⟨fs, σ, g⟩ { s with heap := h' } := by
  have inF : ∀ b ∈ S, b ∈ fs.flatMap Frm.as := fun b hb => by
    obtain ⟨f, hf, rfl⟩ := hS b hb
    exact List.mem_flatMap.mpr ⟨f, hf, by simp [Frm.as]⟩
  have nb : ∀ b ∈ S, c.base.get? b = none := fun b hb => by
    obtain ⟨f, hf, rfl⟩ := hS b hb
    exact hs.nb f hf _ (by simp [Frm.as])
  refine ⟨fun b o e => (x.2.1 b fun q => by rw [nb b q] at e; cases e).trans (hs.keep b o e), fun f hf => ?_, hs.nb, hs.nd, fun y k cl e => ?_, hs.os, hs.gens⟩
  · obtain ⟨m, ⟨o, es, ep, ho, hd, r⟩, h2, h3⟩ := hs.fr f hf
    obtain ⟨sl, hsl⟩ := x.2.2 _ _ ho
    refine ⟨m, ⟨_, es, ep, hsl, hd, r⟩, h2, fun p hp => ?_⟩
    obtain ⟨ov, ⟨oc, hoc, hod⟩, eo⟩ := h3 p hp
    obtain ⟨sl', hsl'⟩ := x.2.2 _ _ hoc
    exact ⟨ov, ⟨_, hsl', hod⟩, eo⟩
  · obtain ⟨⟨o, ho, ok⟩, r1, r2⟩ := hs.own y k cl e
    exact ⟨⟨o, (x.2.1 y fun q => r2 (inF y q)).trans ho, ok⟩, r1, r2⟩

theorem exc_get {s : Shared} {e t : Addr} {cls : Value} {args : List AV} {tb : Option Addr} (hs : St c a s) (hX : Exc a.σ e t cls args tb) :
    ∃ o vs, s.heap.get? e = some o ∧ o.cls = cls ∧ o.dict = none ∧ o.data = .fields vs ∧ vs[0]? = some (.ref t) ∧ vs[1]? = some (tbv tb) ∧ vs.size = 6 := by
  obtain ⟨⟨o, ho, h1, h2, vs, h3⟩, _⟩ := hs.own e 8 _ hX.he
  exact ⟨o, vs, ho, h1, h2, h3⟩
theorem tb_get {s : Shared} {T : Addr} (hs : St c a s) (hX : a.σ T = some (8, tbCell)) : ∃ o ts, s.heap.get? T = some o ∧ o.data = .fields ts ∧ 3 < ts.size := by
  obtain ⟨⟨o, ho, ts, h1, h2⟩, _⟩ := hs.own T 8 _ hX
  exact ⟨o, ts, ho, h1, h2⟩

/-- setting a field of a traceback entry -/
theorem St.tbset {s : Shared} {T : Addr} {i : Nat} {v : Value} (hs : St c ⟨fs, σ, g⟩ s) (hT : σ T = some (8, tbCell)) : St c ⟨fs, σ, g⟩ { s with heap := s.heap.update T (Obj.mapFields (·.setIfInBounds i v)) } := by
  obtain ⟨o, ts, ho, hd, hsz⟩ := tb_get hs hT
  have hd' := Obj.data_mapFields hd (·.setIfInBounds i v)
  have := hs.put (k' := 8) (cl' := tbCell) hT (h' := s.heap.update T (Obj.mapFields (·.setIfInBounds i v))) upd_keeps (Heap.get?_update_self _ ho (Obj.isFreed_of_fields hd')) ⟨_, hd', by simpa using hsz⟩
  have e : upd σ T (some (8, tbCell)) = σ := by
    funext y
    by_cases q : y = T
    · subst q; rw [upd_self, hT]
    · rw [upd_ne q]
  rw [e] at this
  exact this

theorem W_setFlight {e t : Addr} {cls : Value} {args : List AV} {tb : Option Addr} {fr : Option Addr} {Q : Unit → AS → Prop} (hX : Exc σ e t cls args tb) (h : Q () ⟨fs, σ, g⟩) : W c A (setFlight (.ref e) fr) Q E ⟨fs, σ, g⟩ := by
  intro s hs
  obtain ⟨o, vs, ho, _, _, hd, _, h1, hsz⟩ := exc_get hs hX
  unfold setFlight
  refine wpAny_bind (wpAny_field ho hd h1 ?_)
  cases tb with
  | none =>
    rw [if_neg (by simp [tbv])]
    exact wpAny_pure ⟨_, hs, h⟩
  | some T =>
    rw [if_pos (by simp [tbv])]
    obtain ⟨oT, ts, hoT, hdT, hszT⟩ := tb_get hs (hX.htb T rfl).1
    exact wpAny_setField hoT hdT hszT ⟨_, hs.tbset (hX.htb T rfl).1, h⟩

theorem W_noteFrame {e t : Addr} {cls : Value} {args : List AV} {tb : Option Addr} {L : Addr} {Q : Unit → AS → Prop} (hl : Link A fs) (hF : A.frames = some (env :: outer)) (hf : env.frame = some L) (hX : Exc σ e t cls args tb)
    (h : ∀ σ' T, Ext [8] σ σ' → Exc σ' e t cls args (some T) → Q () ⟨fs, σ', g⟩) : W c A (noteFrame (.ref e) env) Q E ⟨fs, σ, g⟩ := by
  intro s hs
  obtain ⟨o, vs, ho, hc, hdi, hd, h0, h1, hsz⟩ := exc_get hs hX
  -- the second half: a new entry
  have half : ∀ s₁ : Shared, St c ⟨fs, σ, g⟩ s₁ → ∀ hadNext, wpAny (model c.prog c.w) A (do
      let fr ← frameOf env
      let pl ← entryPlaceOf L hadNext
      let b ← EntryCells.newEntry (tbv tb) fr .none (rawInt L) .none pl
      setField (.ref e) 1 b) (fun v s' => ∃ a', St c a' s' ∧ Q v a') (fun e s' => ∃ a', St c a' s' ∧ E e a') s₁ := by
    intro s₁ hs₁ hadNext
    obtain ⟨FF, inF⟩ := link_frames hl hF hs₁
    refine wpAny_bind (wpAny_frameOf_fun hF FF hf fun h₂ hsl => ?_)
    have hs₂ := hs₁.slots inF hsl
    refine wpAny_bind (wpAny_entryPlaceOf fun pl hpl => ?_)
    unfold EntryCells.newEntry newFields
    refine wpAny_bind (wpAny_newObj_type ?_ (hpl.sizeOk5 _ _ _ _ _))
    have hs₃ := hs₂.alloc (k := 8) (cl := tbCell) (o := { cls := .type "traceback", dict := none, data := .fields ([tbv tb, .ref L, .none, rawInt L, .none] ++ (if pl.isEmpty then List.replicate 6 Value.none else pl)).toArray }) ⟨_, rfl, by simp only [List.size_toArray, List.length_append, List.length_cons, List.length_nil] <;> omega⟩ rfl
    have fr := hs₂.fresh
    dsimp only at hs₃ fr
    have hX' : upd σ h₂.objs.size (some (8, tbCell)) e = some (8, excCell cls t tb) := by
      rw [upd_ne (fun q => by have := hX.he; rw [q, fr.1] at this; cases this)]; exact hX.he
    obtain ⟨⟨o₃, ho₃, hc₃, hdi₃, vs₃, hd₃, h03, h13, hsz₃⟩, _⟩ := hs₃.own e 8 _ hX'
    refine wpAny_setField ho₃ hd₃ (by omega) ?_
    have hd₄ := Obj.data_mapFields hd₃ (·.setIfInBounds 1 (Value.ref h₂.objs.size))
    have hs₄ := hs₃.put (k' := 8) (cl' := excCell cls t (some h₂.objs.size)) hX' (h' := (h₂.push { cls := .type "traceback", dict := none, data := .fields ([tbv tb, .ref L, .none, rawInt L, .none] ++ (if pl.isEmpty then List.replicate 6 Value.none else pl)).toArray }).update e (Obj.mapFields (·.setIfInBounds 1 (Value.ref h₂.objs.size)))) upd_keeps
      (Heap.get?_update_self _ ho₃ (Obj.isFreed_of_fields hd₄)) ⟨(Obj.cls_mapFields ..).trans hc₃, by obtain ⟨_, _, dd, _⟩ := o₃; cases dd <;> exact hdi₃, _, hd₄, by simpa using h03, by simp [tbv, hsz₃], by simpa using hsz₃⟩
    refine ⟨_, hs₄, h _ h₂.objs.size (fun y k' cl' q1 q2 => ?_) ⟨by simp, ?_, fun T q => ?_⟩⟩
    · have n1 : y ≠ e := fun z => by rw [z, hX.he] at q1; cases q1; exact q2 (by simp)
      have n2 : y ≠ h₂.objs.size := fun z => by rw [z, fr.1] at q1; cases q1
      simp only [upd_ne n1, upd_ne n2]; exact q1
    · have n1 : t ≠ e := fun z => by have := hX.ht; rw [z, hX.he] at this; cases this
      have n2 : t ≠ h₂.objs.size := fun z => by have := hX.ht; rw [z, fr.1] at this; cases this
      simp only [upd_ne n1, upd_ne n2]; exact hX.ht
    · cases q
      have n1 : h₂.objs.size ≠ e := fun z => by have := hX.he; rw [← z, fr.1] at this; cases this
      exact ⟨by simp only [upd_ne n1, upd_self], n1⟩
  unfold noteFrame
  rw [hf]
  refine wpAny_bind (wpAny_field ho hd h1 ?_)
  cases tb with
  | none =>
    rw [if_neg (by simp [tbv])]
    exact half s hs _
  | some T =>
    rw [if_pos (by simp [tbv])]
    obtain ⟨oT, ts, hoT, hdT, hszT⟩ := tb_get hs (hX.htb T rfl).1
    refine wpAny_bind (wpAny_field hoT hdT (x := ts[3]) (by simp [hszT]) ?_)
    split
    · exact wpAny_pure ⟨_, hs, h σ T .refl hX⟩
    · refine wpAny_bind (wpAny_setField hoT hdT hszT ?_)
      exact half _ (hs.tbset (hX.htb T rfl).1) _

theorem W_leaving {e t : Addr} {cls : Value} {args : List AV} {tb : Option Addr} {L : Addr} {Q : Unit → AS → Prop} (hl : Link A fs) (hF : A.frames = some (env :: outer)) (hf : env.frame = some L) (hX : Exc σ e t cls args tb)
    (h : ∀ σ' T, Ext [8] σ σ' → Exc σ' e t cls args (some T) → Q () ⟨fs, σ', g⟩) : W c A (leaving env (.ref e)) Q E ⟨fs, σ, g⟩ :=
  W_bind (W_noteFrame hl hF hf hX fun σ' T x1 x2 => W_setFlight x2 (h σ' T x1 x2))

end
end Mine

namespace Mine
open PySem PySem.W PyProof.Rows PySem.Calls PySem.F

section
variable {c : Cx} {A : Around} {E : Value → AS → Prop} {a : AS} {env : Env} {fs : List Frm} {σ : Addr → Option (Nat × Cell)} {g : Array GenState} {k : Nat} {outer : List Env}

/-- an object that some step has made is taken over -/
theorem St.adopt {s : Shared} {h' : Heap} {x : Addr} {cl : Cell} {o : Obj} (k : Nat) (hs : St c a s) (hk : ∀ b o, s.heap.get? b = some o → h'.get? b = some o) (hn : s.heap.get? x = none) (ho : h'.get? x = some o) (ok : cl.ok c o) :
    a.σ x = none ∧ St c { a with σ := upd a.σ x (some (k, cl)) } { s with heap := h' } := by
  have h0 : a.σ x = none := by
    cases e : a.σ x with
    | none => rfl
    | some p => obtain ⟨⟨o, ho, _⟩, _⟩ := hs.own x p.1 p.2 e; rw [hn] at ho; cases ho
  have hb : c.base.get? x = none := by
    cases e : c.base.get? x with
    | none => rfl
    | some p => have := hs.keep _ _ e; rw [hn] at this; cases this
  have hf : x ∉ a.fs.flatMap Frm.as := fun hm => by
    obtain ⟨f, hf, hx⟩ := List.mem_flatMap.mp hm
    obtain ⟨m, ⟨o, _, _, ho, _⟩, _, h3⟩ := hs.fr f hf
    simp only [Frm.as, List.mem_cons, List.mem_map] at hx
    rcases hx with e | ⟨p, hp, e⟩
    · rw [← e, hn] at ho; cases ho
    · obtain ⟨ov, ⟨oc, hc, _⟩, _⟩ := h3 p hp
      rw [e, hn] at hc; cases hc
  refine ⟨h0, ⟨fun b o e => hk b o (hs.keep b o e), fun f hf => (hs.fr f hf).keeps fun b _ o e => hk b o e, hs.nb, hs.nd, fun y k' cl' e => ?_, hs.os, hs.gens⟩⟩
  by_cases q : y = x
  · subst q
    simp only [upd_self, Option.some.injEq, Prod.mk.injEq] at e
    obtain ⟨rfl, rfl⟩ := e
    exact ⟨⟨o, ho, ok⟩, hb, hf⟩
  · simp only [upd_ne q] at e
    obtain ⟨⟨o', ho', ok'⟩, r⟩ := hs.own y k' cl' e
    exact ⟨⟨o', hk _ _ ho', ok'⟩, r⟩

theorem made_exc {s : Shared} {h' : Heap} {e : Addr} {cls : Value} {us : List Value} (hs : St c ⟨fs, σ, g⟩ s) (hk : ∀ b o, s.heap.get? b = some o → h'.get? b = some o) (hn : s.heap.get? e = none)
    (ht : ∃ t, h'.get? e = some { cls := cls, data := .fields #[.ref t, .none, .none, .none, .bool false, .none] } ∧ s.heap.get? t = none ∧ h'.get? t = some { cls := .type "tuple", data := .seq us.toArray }) :
    ∃ t σ', σ e = none ∧ Ext [] σ σ' ∧ Exc σ' e t cls (us.map er) none ∧ St c ⟨fs, σ', g⟩ { s with heap := h' } := by
  obtain ⟨t, h1, h2, h3⟩ := ht
  obtain ⟨e1, S1⟩ := hs.adopt (cl := excCell cls t none) 8 hk hn h1 ⟨rfl, rfl, _, rfl, rfl, rfl, rfl⟩
  have hte : t ≠ e := fun q => by rw [q, h1] at h3; cases h3
  have t1 : σ t = none := (hs.adopt (cl := .tuple (us.map er)) 0 hk h2 h3 ⟨_, _, rfl, by simp⟩).1
  have S2 : St c ⟨fs, upd (upd σ e (some (8, excCell cls t none))) t (some (0, .tuple (us.map er))), g⟩ { s with heap := h' } := by
    have S0 := (hs.adopt (cl := .tuple (us.map er)) 0 hk h2 h3 ⟨_, _, rfl, by simp⟩).2
    refine ⟨S1.keep, S1.fr, S1.nb, S1.nd, fun y k' cl' q => ?_, S1.os, S1.gens⟩
    by_cases z : y = t
    · subst z
      exact S0.own y k' cl' (by simpa using q)
    · exact S1.own y k' cl' (by simp only [upd_ne z] at q; exact q)
  refine ⟨t, _, e1, fun y k' cl' q1 _ => ?_, ⟨?_, by simp, fun T q => by cases q⟩, S2⟩
  · have n1 : y ≠ t := fun z => by rw [z, t1] at q1; cases q1
    have n2 : y ≠ e := fun z => by rw [z] at q1; dsimp only at e1; rw [e1] at q1; cases q1
    rw [upd_ne n1, upd_ne n2]; exact q1
  · rw [upd_ne (Ne.symm hte)]; simp

theorem W_RaiseOwn {C N : Addr} {B newId initId : String} {bm bs sub : List Value} {nm q : Str} {hdct ab : Bool} {sn : List Str} {col : Option Bool} {dd : Option Addr} {k0 k1 k2 k3 k5 : Option Value} (F : ExcBaseFacts B newId initId bm) {mN : Str → Option Value} {x : Str} {np cpos pos : Pos} {args : List Expr} {Q : Flow → AS → Prop} (hh : A.handled = none)
    (hC : c.base.get? C = some (excClassObj nm q C N bs bm hdct sn sub ab col dd k0 k1 k2 k3 k5 newId)) (hN : c.base.Ns N mN) (hni : mN "__init__" = none)
    (h : W c A (eval (.Name x np) env) (fun f a₁ => f = .ref C ∧ W c A (evalArgs (.ref C) true (backTo cpos (starEach args env)) []) (fun y a₂ => y.kw = [] ∧ y.pos.length ≤ 1000000 ∧
      ∀ e t σ', Ext [] a₂.σ σ' → a₂.σ e = none → Exc σ' e t (.ref C) (y.pos.map er) none → E (.ref e) ⟨a₂.fs, σ', a₂.gens⟩) E a₁) E a)
    (hplain : (backTo cpos (starEach args env)).any (·.1) = false := by with_unfolding_all rfl) : W c A (exec (.Raise (some (.Call (.Name x np) args [] cpos)) none pos) env) Q E a := by
  intro s hs
  refine wpAny_Raise_call_sub (C := C) (nm := nm) (q := q) (N := N) (bs := bs) (bm := bm) (hdct := hdct) (sn := sn) (sub := sub) (ab := ab) (col := col) (dd := dd) (k0 := k0) (k1 := k1) (k2 := k2) (k3 := k3) (k5 := k5) (newId := newId) F hh hplain hni (wpAny_mono (h s hs) (fun f s₁ ⟨a₁, h1, q1, q2⟩ => ⟨q1, wpAny_mono (q2 s₁ h1) (fun y s₂ ⟨a₂, h2, r1, r2, r3⟩ => ⟨r1, sizeLine_big r2, h2.keep _ _ hC, hN.keeps h2.keep, fun h' e hm => ?_⟩) fun _ _ x => x⟩) fun _ _ x => x)
  obtain ⟨fs₂, σ₂, g₂⟩ := a₂
  obtain ⟨t, σ', e0, x1, x2, S⟩ := made_exc h2 hm.keeps hm.new hm.there
  exact ⟨_, S, r3 e t σ' x1 e0 x2⟩

/-! try -/
theorem W_Try {body orelse : List Stmt} {h₀ : ExceptHandler} {hs : List ExceptHandler} {pos : Pos} {Q : Flow → AS → Prop}
    (h : W c A (execs body env) (fun f a₁ => match f with | .next => W c A (execs orelse env) Q E a₁ | f => Q f a₁)
      (fun e a₁ => W c A (noteFrame e env) (fun _ a₂ => W c A (setFlight e none) (fun _ a₃ => W c A (handleBy e env (h₀ :: hs)) Q E a₃) E a₂) E a₁) a) : W c A (exec (.Try body (h₀ :: hs) orelse [] pos) env) Q E a := fun s hs' =>
  wpAny_Try_except (wpAny_mono (h s hs') (fun f s₁ ⟨a₁, h1, q⟩ => by cases f <;> first | exact q s₁ h1 | exact ⟨a₁, h1, q⟩)
    fun e s₁ ⟨a₁, h1, q⟩ => wpAny_mono (q s₁ h1) (fun _ s₂ ⟨a₂, h2, q⟩ => wpAny_mono (q s₂ h2) (fun _ s₃ ⟨a₃, h3, q⟩ => q s₃ h3) fun _ _ x => x) fun _ _ x => x)

noncomputable def ExcM (c : Cx) (a : AS) (e cv : Value) (b : Bool) : Prop := ∀ s, St c a s → Looks (model c.prog c.w) s.heap (excMatches e cv) b

theorem W_handle_hit {e : Addr} {t : Expr} {b₀ : Stmt} {suite : List Stmt} {pos : Pos} {rest : List ExceptHandler} {Q : Flow → AS → Prop}
    (h : W c (A.mark (some (.ref e))) (eval t env) (fun cv a₁ => ExcM c a₁ (.ref e) cv true ∧ W c (A.mark (some (.ref e))) (setFlight (.ref e) none) (fun _ a₂ => W c (A.mark (some (.ref e))) (execs (b₀ :: suite) env) Q (fun _ _ => False) a₂) (fun _ _ => False) a₁) (fun _ _ => False) a) :
    W c A (handleBy (.ref e) env (.ExceptHandler (some t) none (b₀ :: suite) pos :: rest)) Q E a := by
  intro s hs
  refine wpAny_handleBy_cons (codeAny_handlers_test (wpAny_mono (h s hs) (fun cv s₁ ⟨a₁, h1, q1, q2⟩ => (q1 s₁ h1).here ?_) fun _ _ ⟨_, _, x⟩ => x.elim)) (by intro q; cases q)
  exact codeAny_handlers_suite (wpAny_mono (q2 s₁ h1) (fun _ s₂ ⟨a₂, h2, q⟩ => wpAny_mono (q s₂ h2) (fun f s₃ x => x) fun _ _ ⟨_, _, x⟩ => x.elim) fun _ _ ⟨_, _, x⟩ => x.elim)
end
end Mine

namespace Mine
open PySem PySem.W PyProof.Rows PySem.Calls PySem.F

section
variable {c : Cx} {A : Around} {E : Value → AS → Prop} {a : AS} {env : Env} {fs : List Frm} {σ : Addr → Option (Nat × Cell)} {g : Array GenState} {k : Nat} {outer : List Env}

/-! a class of the text called -/
theorem W_make {C fI : Addr} {args : List Value} {Q : Value → AS → Prop} (k : Nat) (hm : makesIn c.K C = true) (hi : findIn c.K (.ref C) "__init__" = some (some (.ref fI))) (hf : typeIn c.K (.ref fI) = some (.type "function"))
    (h : ∀ x dx, σ x = none → σ dx = none → x ≠ dx → ∀ σ', σ' = upd (upd σ dx (some (k, .attrs []))) x (some (k, .inst C dx [])) →
      Wk c (A.under (.builtin "type.__call__" ⟨.ref C :: args, []⟩)) (.call (.ref fI) ⟨.ref x :: args, []⟩) (fun r a' => match r with | .ok (.ret v) => v = .none ∧ Q (.ref x) a' | .ok _ => False | .error e => E e a') ⟨fs, σ', g⟩) :
    W c A (call (.ref C) args) Q E ⟨fs, σ, g⟩ := by
  refine W_call (fun s hs => ?_)
  have X : c.K.In s.heap := c.inK.keeps hs.keep
  obtain ⟨hh, gg, d, t, os⟩ := s
  have S1 := hs.alloc (k := k) (cl := .attrs []) (o := emptyDict) ⟨[], 0, rfl, .nil⟩ rfl
  have S2 := S1.alloc (k := k) (cl := .inst C hh.objs.size []) (o := instObj C hh.objs.size) ⟨rfl, rfl, rfl, rfl⟩ rfl
  have f1 := hs.fresh.1
  have f2 := S1.fresh.1
  dsimp only at S1 S2 f1 f2
  rw [Heap.size_push] at S2 f2
  have ne : hh.objs.size + 1 ≠ hh.objs.size := by omega
  rw [upd_ne ne] at f2
  refine make_core (makes_of X hm) (looks_findIn X hi) (fun self => bind_fn X self hf) (.inl rfl) (codeAny_mono (h _ _ f2 f1 ne _ rfl _ S2) fun r s' ⟨a', h1, q⟩ => ?_)
  rcases r with e | (_ | _ | _ | v)
  · exact ⟨a', h1, q⟩
  · exact q.elim
  · exact q.elim
  · exact q.elim
  · exact ⟨q.1, a', h1, q.2⟩

/-! a tuple's, a list's things -/
theorem W_len_tuple {l : Addr} {vs : List AV} {Q : Value → AS → Prop} (hl : a.σ l = some (k, .tuple vs)) (hz : vs.length ≤ 1000000) (h : ∀ t, Q (.int vs.length t) a) : W c A (call (.builtin "len") [.ref l]) Q E a := fun s hs => by
  obtain ⟨us, n, ho, e⟩ := own_tuple hs hl
  have hsz := size_of e
  refine PySem.P.len_tuple (n := n) ho (by rw [hsz]; omega) ⟨a, hs.of_eq, ?_⟩
  rw [hsz]; exact h _
theorem W_tuple_list {l : Addr} {vs : List AV} {Q : Value → AS → Prop} (k' : Nat) (hl : σ l = some (k, .list vs)) (hz : vs.length ≤ 1000000)
    (h : ∀ t, σ t = none → ∀ σ', σ' = upd σ t (some (k', .tuple vs)) → Q (.ref t) ⟨fs, σ', g⟩) : W c A (call (.type "tuple") [.ref l]) Q E ⟨fs, σ, g⟩ := fun s hs => by
  obtain ⟨us, n, ho, e⟩ := own_list hs hl
  refine call_tuple_list (isList_of ho) (fun h' kk => ?_) (by rw [size_of e]; exact sizeLine_big hz)
  have S1 := hs.grow kk
  exact ⟨_, S1.alloc (k := k') (cl := .tuple vs) ⟨us, 0, rfl, e⟩ rfl, h _ S1.fresh.1 _ rfl⟩
theorem W_list_seq {l : Addr} {vs : List AV} {Q : Value → AS → Prop} (k' : Nat) (hl : Starry c ⟨fs, σ, g⟩ l vs) (hz : vs.length ≤ 1000000)
    (h : ∀ t, σ t = none → ∀ σ', σ' = upd σ t (some (k', .list vs)) → Q (.ref t) ⟨fs, σ', g⟩) : W c A (call (.type "list") [.ref l]) Q E ⟨fs, σ, g⟩ := fun s hs => by
  obtain ⟨T, us, n, o, hT, ho, hc, hd, e⟩ := starry_obj hs hl
  refine call_list_seq l hT ho hc hd (fun h' c' kk hn => ?_) (by rw [size_of e]; exact sizeLine_big hz)
  have hnone : s.heap.get? s.heap.objs.size = none := by
    cases q : s.heap.get? s.heap.objs.size with
    | none => rfl
    | some o => exact absurd (Heap.lt_size q) (Nat.lt_irrefl _)
  obtain ⟨e0, S⟩ := hs.adopt (cl := .list vs) k' kk hnone hn ⟨us, c', rfl, e⟩
  exact ⟨_, S, h _ e0 _ rfl⟩

/-! targets -/
theorem W_assign_Name {x : Str} {p : Pos} {u : Value} {Q : Unit → AS → Prop} (h : W c A (storeName env x u) Q E a) : W c A (assign (.Name x p) env u) Q E a := by
  show W c A (standAt p >>= _) Q E a
  exact W_bind (W_standAt fun s hs => wpAny_bindName (h s hs))
theorem W_assign_Sub {o i : Expr} {p : Pos} {u : Value} {Q : Unit → AS → Prop} (h : W c A (eval o env) (fun ov a₁ => W c A (eval i env) (fun iv a₂ => W c A (setItem ov iv u) Q E a₂) E a₁) E a) : W c A (assign (.Subscript o i p) env u) Q E a := by
  show W c A (holding [u] (eval o env) >>= _) Q E a
  refine W_bind (W_holding (W_mono h (fun ov a₁ q => W_bind (W_holding (W_mono q (fun iv a₂ q => W_bind (W_standAt (W_bind (W_holding (W_mono q (fun _ a₃ q => ?_) fun _ _ x => x))))) fun _ _ x => x))) fun _ _ x => x))
  intro s hs Γ p' hΓ
  rw [Sem.wp_release]
  exact ⟨a₃, hs, q⟩
theorem W_Assign_Sub {o i : Expr} {p : Pos} {value : Expr} {pos : Pos} {Q : Flow → AS → Prop}
    (h : W c A (eval value env) (fun v a₀ => W c A (eval o env) (fun ov a₁ => W c A (eval i env) (fun iv a₂ => W c A (setItem ov iv v) (fun _ => Q .next) E a₂) E a₁) E a₀) E a)
    (hs : exec (.Assign [.Subscript o i p] value pos) env = (do standAt pos; let v ← eval value env; assign (.Subscript o i p) env v; pure .next) := by with_unfolding_all rfl) : W c A (exec (.Assign [.Subscript o i p] value pos) env) Q E a := by
  rw [hs]
  exact W_bind (W_standAt (W_bind (W_mono h (fun v a₁ q => W_bind (W_mono (W_assign_Sub q) (fun _ _ x => W_pure x) fun _ _ x => x)) fun _ _ x => x)))
theorem W_Assign_two {t₁ t₂ value : Expr} {pos : Pos} {Q : Flow → AS → Prop}
    (h : W c A (eval value env) (fun v a₁ => W c A (assign t₁ env v) (fun _ a₂ => W c A (assign t₂ env v) (fun _ => Q .next) E a₂) E a₁) E a)
    (he : (assignEach [t₁, t₂] env).map (·.2) = [assign t₁ env, assign t₂ env] := by with_unfolding_all rfl) (hw : swappedStores [t₁, t₂] value env = pure none := by with_unfolding_all rfl) : W c A (exec (.Assign [t₁, t₂] value pos) env) Q E a := fun s hs =>
  wpAny_Assign_two (wpAny_mono (h s hs) (fun v s₁ ⟨a₁, h1, q⟩ => wpAny_mono (q s₁ h1) (fun _ s₂ ⟨a₂, h2, q⟩ => q s₂ h2) fun _ _ x => x) fun _ _ x => x) he hw
end
end Mine

namespace Mine
open PySem PySem.W PyProof.Rows PySem.Calls PySem.F

section
variable {c : Cx} {A : Around} {E : Value → AS → Prop} {fs : List Frm} {σ : Addr → Option (Nat × Cell)} {g : Array GenState} {d : Nat}

theorem push_frame {s : Shared} {h₀ : Heap} {ps rs : List Str} {args : List Value} {us : List AV} {vs : List (Option AV)} {tk : Nat} (hs : St c ⟨fs, σ, g⟩ s) (hns : h₀.Ns s.heap.objs.size (fun x => (ps.zip args).reverse.lookup x)) (hk₀ : ∀ b o, s.heap.get? b = some o → h₀.get? b = some o)
    (hu : args.map er = us) (hi : Init ps us rs vs) (hnd : (ps ++ rs).Nodup) : St c ⟨⟨s.heap.objs.size, [], ps ++ rs, vs⟩ :: fs, σ, g⟩ { s with heap := h₀, toks := tk } := by
  obtain ⟨f1, f2, f3⟩ := hs.fresh
  refine ⟨fun b o e => hk₀ b o (hs.keep b o e), fun f' hf => ?_, fun f' hf => ?_, ?_, fun x k cl e => ?_, hs.os, hs.gens⟩
  · rcases List.mem_cons.mp hf with rfl | hf
    · refine ⟨_, hns, fun x _ => ?_, fun p hp => by cases hp⟩
      dsimp only
      rw [lookup_reverse (zip_nodup (List.nodup_append.mp hnd).1)]
      exact hi.gv args hu x
    · exact (hs.fr f' hf).keeps fun b _ o e => hk₀ b o e
  · rcases List.mem_cons.mp hf with rfl | hf
    · intro x hx
      simp only [Frm.as, List.map_nil, List.mem_singleton] at hx
      rw [hx]; exact f3
    · exact hs.nb f' hf
  · rw [List.flatMap_cons]
    refine List.nodup_append.mpr ⟨by simp [Frm.as], hs.nd, fun x hx y hy e => ?_⟩
    simp only [Frm.as, List.map_nil, List.mem_singleton] at hx
    exact f2 (by rw [← hx, e]; exact hy)
  · obtain ⟨⟨o', ho', ok⟩, r1, r2⟩ := hs.own x k cl e
    refine ⟨⟨o', hk₀ _ _ ho', ok⟩, r1, fun q => ?_⟩
    rw [List.flatMap_cons] at q
    rcases List.mem_append.mp q with q | q
    · simp only [Frm.as, List.map_nil, List.mem_singleton] at q
      rw [q] at e; dsimp only at e f1; rw [f1] at e; cases e
    · exact r2 q

/-- a def with a star parameter: the rest of the arguments is a new tuple -/
theorem Wk_call_KS {K : Frag} {f : Addr} {ps rs ns : List Str} {gs : List (Str × Value)} {pre rest : List Value} {us : List AV} {vs : Addr → List (Option AV)} {R : Result → AS → Prop}
    (hK : c.K = K) (hf : FnOk K f ps rs (gs.map (·.1))) (hns : ns = ps ++ rs) (hbind : bindArgs (fdOf K f) ⟨pre ++ rest, []⟩ = (do let t ← newTuple rest; pure (ps.zip (pre ++ [t])))) (hu : pre.map er = us)
    (hi : ∀ t, Init ps (us ++ [.ref t]) rs (vs t)) (hglob : ∀ p ∈ gs, Glob c p.1 p.2) (hA : AOk A fs (d + 1)) (hz : rest.length ≤ 1000000)
    (h : ∀ L env t σ', env = callEnv (fdOf K f) L f → σ t = none → σ' = upd σ t (some (0, .tuple (rest.map er))) → σ' L = none → AOk (A.deeper env) (⟨L, [], ns, vs t⟩ :: fs) d → EnvOk c env L [] ns gs →
      W c (A.deeper env) (execs (bodyOf (fdOf K f)) env) (fun fl a' => Pop fs (R (.ok (.ret (retOf fl)))) a')
        (fun e a' => W c (A.deeper env) (leaving env e) (fun _ a'' => Pop fs (R (.error e)) a'') (fun _ _ => False) a') ⟨⟨L, [], ns, vs t⟩ :: fs, σ', g⟩) :
    Wk c A (.call (.ref f) ⟨pre ++ rest, []⟩) R ⟨fs, σ, g⟩ := by
  subst hK hns
  obtain ⟨o, ho, hd⟩ := fdOf_ex hf.fn
  have hnm := hf.names
  rw [List.map_map] at hnm
  have hnd := nodup_of_codes hf.nd
  have hnd2 := (List.nodup_cons.mp hnd).2
  intro s hs
  have X : c.K.In s.heap := c.inK.keeps hs.keep
  refine codeAny_call_function hA.room (X _ _ ho) hd hf.co hf.gen hf.body (codeRec_of X hf.code) ?_
  rw [hbind]
  refine wpAny_bind (wpAny_newObj_type ?_ (by show rest.toArray.size ≤ sizeLine; rw [List.size_toArray]; exact sizeLine_big hz))
  have S1 := hs.alloc (k := 0) (cl := .tuple (rest.map er)) (o := { cls := .type "tuple", data := .seq rest.toArray }) ⟨_, _, rfl, by simp⟩ rfl
  have f1 := hs.fresh.1
  have hkeys : ((fdOf c.K f).scope.names.map (·.1)).Nodup := by
    rw [hnm, List.map_append, List.map_map, List.map_map]
    simpa [Function.comp_def] using hnd2
  have hloc : ∀ x ∈ ps, (fdOf c.K f).scope.names.lookup x = some .local := fun x hx => lookup_nodup hkeys (p := (x, .local)) (by rw [hnm]; exact List.mem_append_left _ (List.mem_map.mpr ⟨x, List.mem_append_left _ hx, rfl⟩))
  have hcell : ∀ x ∈ (fdOf c.K f).scope.names, x.2 ≠ .cell := fun x hx => by
    rw [hnm] at hx
    rcases List.mem_append.mp hx with hx | hx
    · obtain ⟨y, _, rfl⟩ := List.mem_map.mp hx; intro q; cases q
    · obtain ⟨y, _, rfl⟩ := List.mem_map.mp hx; intro q; cases q
  refine wpAny_pure (wpAny_newFunctionEnv hcell (fun x hx => hloc _ (List.of_mem_zip hx).1) (fun h₀ hns₀ hsb₀ => ⟨(c.nolim.keeps S1.keep).fresh _ hsb₀, ?_⟩) hf.kind)
  have hk₀ : ∀ b o, (s.heap.push { cls := .type "tuple", data := .seq rest.toArray }).get? b = some o → h₀.get? b = some o := fun b o e => hsb₀.extBut b o (Nat.ne_of_lt (Heap.lt_size e)) (Heap.get?_push_of_some _ e)
  refine codeAny_func ?_
  have S2 := push_frame (tk := s.toks + (ps.zip (pre ++ [Value.ref s.heap.objs.size])).length) S1 hns₀ hk₀ (us := us ++ [.ref s.heap.objs.size]) (by rw [List.map_append, hu]; rfl) (hi _) (List.nodup_append.mp hnd2).1
  refine wpAny_mono (h _ _ _ _ rfl f1 rfl S1.fresh.1 (hA.deeper hf.kind rfl) (mkEnv hnm hf.kind hf.gl hf.bl hf.nd hglob) _ S2) (fun fl s' ⟨a', h1, f', e1, q⟩ => ?_) (fun e s' ⟨a', h1, q⟩ => ?_)
  · obtain ⟨fs', σ', g'⟩ := a'
    dsimp only at e1 q; subst e1
    exact ⟨_, h1.pop, by cases fl <;> exact q⟩
  · refine wpAny_mono (q s' h1) (fun _ s'' ⟨a'', h2, f', e1, q⟩ => ?_) fun _ _ ⟨_, _, x⟩ => x.elim
    obtain ⟨fs', σ', g'⟩ := a''
    dsimp only at e1 q; subst e1
    exact ⟨_, h2.pop, q⟩
end
end Mine

set_option maxRecDepth 100000
namespace Mine
open PySem PySem.W PyProof.Rows PySem.Calls PySem.F

theorem slot_li_ga : Slot "list_iterator" "__getattribute__" "object.__getattribute__" := .of (owner := "object") (n := "__getattribute__") (by rw [typeLookup_type, builtinLookup_eq_fast]; kernel_rfl) (by decide +kernel) (by decide +kernel) (by decide +kernel)
    (by first | exact .inl (by decide +kernel) | exact .inr (by decide +kernel)) (by rw [isSubtype_type]; kernel_rfl)

theorem typeOf_lin : typeOf (.builtin "list_iterator.__next__") = pure (.type "wrapper_descriptor") := by kernel_rfl
theorem wd_get : Slot "wrapper_descriptor" "__get__" "wrapper_descriptor.__get__" := .of (owner := "wrapper_descriptor") (n := "__get__") (by rw [typeLookup_type, builtinLookup_eq_fast]; kernel_rfl) (by decide +kernel) (by decide +kernel) (by decide +kernel)
    (by first | exact .inl (by decide +kernel) | exact .inr (by decide +kernel)) (by rw [isSubtype_type]; kernel_rfl)
theorem wd_set : typeLookup (.type "wrapper_descriptor") "__set__" = pure none := by rw [typeLookup_type, builtinLookup_eq_fast]; kernel_rfl
theorem wd_del : typeLookup (.type "wrapper_descriptor") "__delete__" = pure none := by rw [typeLookup_type, builtinLookup_eq_fast]; kernel_rfl

theorem entry_wd_get : entryFor table "wrapper_descriptor.__get__" = some Builtin.«wrapper_descriptor.__get__» := entryFor_of_tree (by kernel_rfl)
theorem args_wd_get (a b c : Value) : argsOk "wrapper_descriptor.__get__" ⟨[a, b, c], []⟩ := by unfold argsOk; kernel_rfl
theorem entry_obj_ga : entryFor table "object.__getattribute__" = some Builtin.«object.__getattribute__» := entryFor_of_tree (by kernel_rfl)
theorem args_obj_ga (a b : Value) : argsOk "object.__getattribute__" ⟨[a, b], []⟩ := by unfold argsOk; kernel_rfl
theorem owner_lin : (".".intercalate ("list_iterator.__next__".cutAt '.').dropLast) = "list_iterator" := by
  have e0 : "list_iterator.__next__".cutAt '.' = ["list_iterator", "__next__"] := by first | rfl | decide +kernel
  rw [e0]; decide +kernel
theorem sub_li : isSubtype (.type "list_iterator") (.type "list_iterator") = pure true := by rw [isSubtype_type]; kernel_rfl

noncomputable abbrev wrapObj (it : Addr) : Obj := { cls := .type "method-wrapper", data := .fields #[.builtin "list_iterator.__next__", .ref it] }

section
variable {prog : Program} {w : World} {A : Around} {E : Value → Shared → Prop} {h : Heap} {g : Array GenState} {d : Drawn} {t : Nat} {os : OsState} {a : Addr} {o : Obj}
theorem li_get {R : Result → Shared → Prop} {vs : Array Value} {sl : Array (Option Value)} (hx : h.get? a = some ⟨.type "list_iterator", none, .fields vs, sl⟩) (hq : R (.ok (.ret (.ref h.objs.size))) ⟨h.push (wrapObj a), g, d, t, os⟩) :
    codeAny (model prog w) A (.call (.builtin "wrapper_descriptor.__get__") ⟨[.builtin "list_iterator.__next__", .ref a, .type "list_iterator"], []⟩) R ⟨h, g, d, t, os⟩ := by
  have hT : (⟨h, g, d, t, os⟩ : Shared).TypeIs (.ref a) "list_iterator" := ⟨_, hx, rfl⟩
  have hT5 : (⟨h, g, d, t, os⟩ : Shared).TypeIs (.builtin "list_iterator.__next__") "wrapper_descriptor" := typeOf_lin
  have f8 : isSubtype (.type "list_iterator") (.type (".".intercalate ("list_iterator.__next__".cutAt '.').dropLast)) = pure true := by rw [owner_lin]; exact sub_li
  refine codeAny_call_builtin wd_get.plain entry_wd_get (wd_get.check _ _ _ _ _ _ _ _ hT5 (args_wd_get _ _ _) ?_)
  repeat (any_goals (first | assumption | wp_step))
theorem li_entry {tk : Tok} {Q : PySem.Fin → Shared → Prop} {vs : Array Value} {sl : Array (Option Value)} (hx : h.get? a = some ⟨.type "list_iterator", none, .fields vs, sl⟩) (hq : Q (.done (.ret (.ref h.objs.size))) ⟨h.push (wrapObj a), g, d, t, os⟩) :
    wpAny (model prog w) A (Builtin.«object.__getattribute__» ⟨[.ref a, .str "__next__" tk], []⟩) Q E ⟨h, g, d, t, os⟩ := by
  have hT : (⟨h, g, d, t, os⟩ : Shared).TypeIs (.ref a) "list_iterator" := ⟨_, hx, rfl⟩
  have f4 := slot_listiter_next.lookup
  have f5 := typeOf_lin
  have f6 := wd_get.lookup
  have f7 := wd_set
  have f8 := wd_del
  repeat (any_goals (first | assumption | wp_step))
  refine li_get hx ?_
  repeat (any_goals (first | assumption | wp_step))
theorem li_attr {expr : Bool} {Q : Value → Shared → Prop} {vs : Array Value} {sl : Array (Option Value)} (hx : h.get? a = some ⟨.type "list_iterator", none, .fields vs, sl⟩) (hq : Q (.ref h.objs.size) ⟨h.push (wrapObj a), g, d, t + 1, os⟩) :
    wpAny (model prog w) A (getAttr (.ref a) "__next__" expr) Q E ⟨h, g, d, t, os⟩ := by
  have hT : (⟨h, g, d, t + 1, os⟩ : Shared).TypeIs (.ref a) "list_iterator" := ⟨_, hx, rfl⟩
  have f2 := slot_li_ga.lookup
  have f3 := slot_li_ga.bind (.ref a)
  have hx0 : (expr && onTheHeap (Value.builtin "object.__getattribute__")) = false := by cases expr <;> rfl
  unfold getAttr getAttrBy
  repeat (any_goals (first | assumption | wp_step))
  refine codeAny_call_builtin slot_li_ga.plain entry_obj_ga (slot_li_ga.check _ _ _ _ _ _ _ _ hT (args_obj_ga _ _) (li_entry hx ?_))
  repeat (any_goals (first | assumption | wp_step))

theorem lin_bound (it : Addr) : checkBoundCall "list_iterator.__next__" ⟨[.ref it], []⟩ = pure () := by kernel_rfl

theorem wrap_call {R : Result → Shared → Prop} {m it : Addr} (hm : h.get? m = some (wrapObj it)) (hq : codeAny (model prog w) A (.builtin "list_iterator.__next__" ⟨[.ref it], []⟩) R ⟨h, g, d, t, os⟩) :
    codeAny (model prog w) A (.call (.ref m) ⟨[], []⟩) R ⟨h, g, d, t, os⟩ := by
  refine codeAny_of_tree ?_
  show wpAny _ _ (callAny (.ref m) _) _ _ _
  unfold callAny
  refine wpAny_bind (wpAny_load hm ?_)
  dsimp only
  rw [if_pos (by decide)]
  show wpAny _ _ (checkBoundCall "list_iterator.__next__" ⟨[.ref it], []⟩ >>= _) _ _ _
  rw [lin_bound]
  exact wpAny_bind (wpAny_pure (wpAny_bind (wpAny_pure (wpAny_pure ⟨Code.quiet_builtin _ (by decide +kernel), hq⟩))))

theorem lin_item {R : Result → Shared → Prop} {s : Shared} {it l : Addr} {i : Nat} {items : Array Value} {x : Value} (hit : s.heap.IsListIter it l i) (hl : s.heap.IsList l items) (hx : items[i]? = some x)
    (hQ : ∀ h', h'.IsListIter it l (i + 1) → Heap.SameBut it s.heap h' → R (.ok (.ret x)) { s with heap := h' }) : codeAny (model prog w) A (.builtin "list_iterator.__next__" ⟨[.ref it], []⟩) R s := by
  obtain ⟨o, ho, hc, hd⟩ := id hit
  obtain ⟨ol, hol, _, nl, hdl⟩ := hl
  refine codeAny_builtin entry_listiter_next ?_
  show wpAny _ _ (field (.ref it) 0 >>= _) _ _ s
  refine wpAny_bind (wpAny_field ho hd (x := .ref l) rfl ?_)
  show wpAny _ _ (if (Value.ref l == Value.none) = true then _ else _) _ _ s
  rw [if_neg (show ¬ ((Value.ref l == Value.none) = true) from Bool.false_ne_true)]
  show wpAny _ _ (field (.ref it) 1 >>= _) _ _ s
  refine wpAny_bind (wpAny_field ho hd (x := .int i 0) rfl ?_)
  show wpAny _ _ (seqItems? (.ref l) >>= _) _ _ s
  refine wpAny_bind (wpAny_seqItems hol hdl ?_)
  simp only [Int.toNat_natCast, hx]
  refine wpAny_bind (wpAny_setField ho hd (by simp) (wpAny_pure (hQ _ ?_ (Heap.SameBut.update ..))))
  exact ⟨_, Heap.get?_update_self _ ho (Obj.isFreed_of_fields (Obj.data_mapFields hd _)), (Obj.cls_mapFields ..).trans hc, by
    rw [Obj.data_mapFields hd]; simp [rawInt]⟩

theorem lin_end {R : Result → Shared → Prop} {s : Shared} {it l : Addr} {i : Nat} {items : Array Value} (hh : A.handled = none) (hit : s.heap.IsListIter it l i) (hl : s.heap.IsList l items) (hx : items[i]? = none)
    (hQ : ∀ h' e, (∀ b o, b ≠ it → s.heap.get? b = some o → h'.get? b = some o) → s.heap.get? e = none → (∃ t, h'.get? e = some { cls := .type "StopIteration", data := .fields #[.ref t, .none, .none, .none, .bool false, .none] } ∧ s.heap.get? t = none ∧ h'.get? t = some { cls := .type "tuple", data := .seq #[] }) →
      R (.error (.ref e)) { s with heap := h' }) : codeAny (model prog w) A (.builtin "list_iterator.__next__" ⟨[.ref it], []⟩) R s := by
  obtain ⟨o, ho, hc, hd⟩ := id hit
  obtain ⟨ol, hol, _, nl, hdl⟩ := hl
  refine codeAny_builtin entry_listiter_next ?_
  show wpAny _ _ (field (.ref it) 0 >>= _) _ _ s
  refine wpAny_bind (wpAny_field ho hd (x := .ref l) rfl ?_)
  show wpAny _ _ (if (Value.ref l == Value.none) = true then _ else _) _ _ s
  rw [if_neg (show ¬ ((Value.ref l == Value.none) = true) from Bool.false_ne_true)]
  show wpAny _ _ (field (.ref it) 1 >>= _) _ _ s
  refine wpAny_bind (wpAny_field ho hd (x := .int i 0) rfl ?_)
  show wpAny _ _ (seqItems? (.ref l) >>= _) _ _ s
  refine wpAny_bind (wpAny_seqItems hol hdl ?_)
  simp only [Int.toNat_natCast, hx]
  refine wpAny_bind (wpAny_rule (wpAny_bind (wpAny_setField ho hd (by simp) ?_)))
  show wpAny _ _ (newExc (.type "StopIteration") [] >>= _) _ _ _
  refine wpAny_bind ?_
  simp only [newExc, newTuple]
  refine wpAny_bind (wpAny_newObj_type ?_ (by size_fits))
  refine wpAny_bind (m := firstArgMember _ _) (wpAny_of_eq (a := Value.none) (by first | rfl | (simp only [firstArgMember]; rfl)) ?_)
  refine wpAny_newObj_type ?_ (by size_fits)
  simp only [raiseNew]
  refine wpAny_bind (wpAny_handled ?_)
  have hA' : (A.under (Code.builtin "list_iterator.__next__" ⟨[.ref it], []⟩)).handled = none := hh
  rw [hA']
  refine wpAny_bind (wpAny_pure (wpAny_throw ?_))
  have hne : s.heap.get? s.heap.objs.size = none := by
    cases q : s.heap.get? s.heap.objs.size with
    | none => rfl
    | some o => exact absurd (Heap.lt_size q) (Nat.lt_irrefl _)
  have hne1 : s.heap.get? (s.heap.objs.size + 1) = none := by
    cases q : s.heap.get? (s.heap.objs.size + 1) with
    | none => rfl
    | some o => exact absurd (Heap.lt_size q) (Nat.not_lt.mpr (Nat.le_succ _))
  have hsz : (s.heap.update it (Obj.mapFields fun x => x.setIfInBounds 0 Value.none)).objs.size = s.heap.objs.size := (Heap.SameBut.update s.heap it _).1
  refine hQ _ _ (fun b o q z => Heap.get?_push_of_some _ (Heap.get?_push_of_some _ (((Heap.SameBut.update s.heap it _).2 b q).trans z))) ?_ ⟨_, Heap.get?_push_size _ rfl, ?_, Heap.get?_push_of_some _ (Heap.get?_push_size _ rfl)⟩
  · rw [Heap.size_push, hsz]; exact hne1
  · rw [hsz]; exact hne
end

section
variable {c : Cx} {A : Around} {E : Value → AS → Prop} {a : AS} {env : Env} {fs : List Frm} {σ : Addr → Option (Nat × Cell)} {g : Array GenState} {k : Nat}

theorem St.freshOf {s : Shared} {x : Addr} (hs : St c a s) (hn : s.heap.get? x = none) : a.σ x = none ∧ c.base.get? x = none ∧ x ∉ a.fs.flatMap Frm.as := by
  refine ⟨?_, ?_, fun hm => ?_⟩
  · cases e : a.σ x with
    | none => rfl
    | some p => obtain ⟨⟨o, ho, _⟩, _⟩ := hs.own x p.1 p.2 e; rw [hn] at ho; cases ho
  · cases e : c.base.get? x with
    | none => rfl
    | some p => have := hs.keep _ _ e; rw [hn] at this; cases this
  · obtain ⟨f, hf, hx⟩ := List.mem_flatMap.mp hm
    obtain ⟨m, ⟨o, _, _, ho, _⟩, _, h3⟩ := hs.fr f hf
    simp only [Frm.as, List.mem_cons, List.mem_map] at hx
    rcases hx with e | ⟨p, hp, e⟩
    · rw [← e, hn] at ho; cases ho
    · obtain ⟨ov, ⟨oc, hc, _⟩, _⟩ := h3 p hp
      rw [e, hn] at hc; cases hc
theorem St.take {s : Shared} {x : Addr} {cl : Cell} {o : Obj} (k : Nat) (hs : St c a s) (hb : c.base.get? x = none) (hf : x ∉ a.fs.flatMap Frm.as) (ho : s.heap.get? x = some o) (ok : cl.ok c o) : St c { a with σ := upd a.σ x (some (k, cl)) } s := by
  refine ⟨hs.keep, hs.fr, hs.nb, hs.nd, fun y k' cl' e => ?_, hs.os, hs.gens⟩
  by_cases q : y = x
  · subst q
    simp only [upd_self, Option.some.injEq, Prod.mk.injEq] at e
    obtain ⟨rfl, rfl⟩ := e
    exact ⟨⟨o, ho, ok⟩, hb, hf⟩
  · simp only [upd_ne q] at e
    exact hs.own y k' cl' e
/-- a cell may be known less well -/
theorem St.weaken {s : Shared} {x : Addr} {cl cl' : Cell} {k k' : Nat} (hs : St c ⟨fs, σ, g⟩ s) (hx : σ x = some (k, cl)) (hw : ∀ o, cl.ok c o → cl'.ok c o) : St c ⟨fs, upd σ x (some (k', cl')), g⟩ s := by
  obtain ⟨⟨o, ho, ok⟩, hb, hf⟩ := hs.own x k cl hx
  exact hs.take k' hb hf ho (hw o ok)

noncomputable def wrapCell (it : Addr) : Cell := .raw fun o => o = wrapObj it

theorem W_next_attr {it l : Addr} {i k' : Nat} {expr : Bool} {Q : Value → AS → Prop} (kw : Nat) (hit : σ it = some (k', .raw fun o => o = ⟨.type "list_iterator", none, .fields #[.ref l, .int i 0], #[]⟩))
    (h : ∀ m, σ m = none → m ≠ it → ∀ σ', σ' = upd (upd σ it (some (k', iterCell "list_iterator" l i))) m (some (kw, wrapCell it)) → Q (.ref m) ⟨fs, σ', g⟩) : W c A (getAttr (.ref it) "__next__" expr) Q E ⟨fs, σ, g⟩ := by
  intro s hs
  obtain ⟨⟨o, ho, e⟩, _⟩ := hs.own it k' _ hit
  obtain ⟨hp, gg, d, t, os⟩ := s
  have e' : o = ⟨.type "list_iterator", none, .fields #[.ref l, .int i 0], #[]⟩ := e
  subst e'
  have S1 := hs.weaken (k' := k') (cl' := iterCell "list_iterator" l i) hit (by intro o e; have e' : o = ⟨.type "list_iterator", none, .fields #[.ref l, .int i 0], #[]⟩ := e; subst e'; exact ⟨rfl, rfl⟩)
  have ne : hp.objs.size ≠ it := fun q => by have := hs.fresh.1; dsimp only at this; rw [q, hit] at this; cases this
  refine li_attr ho ⟨_, St.of_eq (S1.alloc (k := kw) (cl := wrapCell it) (o := wrapObj it) rfl rfl), h _ hs.fresh.1 ne _ rfl⟩

theorem Kp.wrap {m it : Addr} (hm : a.σ m = some (k, wrapCell it)) : Kp c (.ref m) a := fun s hs => by
  obtain ⟨⟨o, ho, e⟩, _⟩ := hs.own m k _ hm
  have e' : o = wrapObj it := e
  subst e'
  refine ⟨.machine, fun A Q E s' kk q => ?_⟩
  unfold keeperOf
  refine wpAny_bind (wpAny_load (kk _ _ ho) ?_)
  dsimp only
  rw [if_pos (by decide), if_pos (by decide)]
  exact wpAny_pure q

theorem W_wrap_item {m it l : Addr} {i k' kl : Nat} {vs : List AV} {v : AV} {Q : Value → AS → Prop} (hm : σ m = some (k, wrapCell it)) (hit : σ it = some (k', iterCell "list_iterator" l i)) (hl : σ l = some (kl, .list vs)) (hv : vs[i]? = some v)
    (h : ∀ σ' u, σ' = upd σ it (some (k', iterCell "list_iterator" l (i + 1))) → er u = v → Q u ⟨fs, σ', g⟩) : W c A (call (.ref m) []) Q E ⟨fs, σ, g⟩ := by
  refine W_call (fun s hs => ?_)
  obtain ⟨⟨o, ho, e⟩, _⟩ := hs.own m k _ hm
  have e' : o = wrapObj it := e
  subst e'
  obtain ⟨us, n, hol, el⟩ := own_list hs hl
  obtain ⟨u, hu, eu⟩ := get_of el hv
  obtain ⟨hp, gg, d, t, os⟩ := s
  refine wrap_call ho (lin_item (listIter_of hs hit) (isList_of hol) hu fun h' hi hsb => ?_)
  obtain ⟨o', ho', hc', hd'⟩ := hi
  exact ⟨_, hs.put hit (fun b o q z => (hsb.2 b q).trans z) ho' (cl' := iterCell "list_iterator" l (i + 1)) ⟨hc', hd'⟩, h _ _ rfl eu⟩

theorem W_wrap_end {m it l : Addr} {i k' kl : Nat} {vs : List AV} {Q : Value → AS → Prop} (hh : A.handled = none) (hm : σ m = some (k, wrapCell it)) (hit : σ it = some (k', iterCell "list_iterator" l i)) (hl : σ l = some (kl, .list vs)) (hi : vs.length ≤ i)
    (h : ∀ σ' e t, (∀ y p, y ≠ it → σ y = some p → σ' y = some p) → σ e = none → Exc σ' e t (.type "StopIteration") [] none → E (.ref e) ⟨fs, σ', g⟩) : W c A (call (.ref m) []) Q E ⟨fs, σ, g⟩ := by
  refine W_call (fun s hs => ?_)
  obtain ⟨⟨o, ho, e⟩, _⟩ := hs.own m k _ hm
  have e' : o = wrapObj it := e
  subst e'
  obtain ⟨us, n, hol, el⟩ := own_list hs hl
  have hsz := size_of el
  obtain ⟨hp, gg, d, t, os⟩ := s
  have hito := listIter_of hs hit
  refine wrap_call ho (lin_end hh hito (isList_of hol) (by rw [Array.getElem?_eq_none]; omega) fun h' e kk hn ht => ?_)
  obtain ⟨t', h1, h2, h3⟩ := ht
  -- first the heap without the iterator
  have nodrop : e ≠ it := fun q => by obtain ⟨o, ho', _⟩ := hito; rw [← q] at ho'; dsimp only at hn ho'; rw [hn] at ho'; cases ho'
  have nodrop' : t' ≠ it := fun q => by obtain ⟨o, ho', _⟩ := hito; rw [← q] at ho'; dsimp only at h2 ho'; rw [h2] at ho'; cases ho'
  have S0 := hs.drop (h' := h') hit (fun b o q z => kk b o q z)
  obtain ⟨a1, a2, a3⟩ := hs.freshOf hn
  obtain ⟨b1, b2, b3⟩ := hs.freshOf h2
  have S1 := S0.take (x := t') (cl := .tuple []) 0 b2 b3 h3 ⟨#[], 0, rfl, rfl⟩
  have S2 := S1.take (x := e) (cl := excCell (.type "StopIteration") t' none) 8 a2 a3 h1 ⟨rfl, rfl, _, rfl, rfl, rfl, rfl⟩
  have hte : t' ≠ e := fun q => by rw [q, h1] at h3; simp at h3
  refine ⟨_, S2, h _ e t' (fun y p n1 q => ?_) a1 ⟨by simp, ?_, fun T q => by cases q⟩⟩
  · dsimp only at a1 b1
    have n2 : y ≠ e := fun z => by rw [z, a1] at q; cases q
    have n3 : y ≠ t' := fun z => by rw [z, b1] at q; cases q
    simp only [upd_ne n2, upd_ne n3, upd_ne n1]; exact q
  · simp only [upd_ne hte, upd_self]

theorem W_iter_call {l : Addr} {vs : List AV} {Q : Value → AS → Prop} (k' : Nat) (hl : σ l = some (k, .list vs)) (h : ∀ it, σ it = none → ∀ σ', σ' = upd σ it (some (k', .raw fun o => o = ⟨.type "list_iterator", none, .fields #[.ref l, .int 0 0], #[]⟩)) → Q (.ref it) ⟨fs, σ', g⟩) :
    W c A (call (.builtin "iter") [.ref l]) Q E ⟨fs, σ, g⟩ := fun s hs => by
  obtain ⟨us, n, ho, e⟩ := own_list hs hl
  refine call_function_entry (by decide +kernel) (by decide +kernel) kdk_entry_iter (kdk_args_iter _) ?_
  show wpAny _ _ (pyIter (.ref l) >>= _) _ _ s
  refine wpAny_bind (wpAny_pyIter_list (isList_of ho) (wpAny_pure ⟨_, rfl, _, hs.alloc (k := k') (cl := .raw fun o => o = ⟨.type "list_iterator", none, .fields #[.ref l, .int 0 0], #[]⟩) rfl rfl, h _ hs.fresh.1 _ rfl⟩))
end
end Mine

namespace Mine
open PySem PySem.W PyProof.Rows PySem.Calls PySem.F

noncomputable def iterCell4 (ty : String) (l : Addr) (n ep : Nat) (i : Nat) : Cell := .raw fun o => o.cls = .type ty ∧ o.data = .fields #[.ref l, .int i 0, .int n 0, .int ep 0]
noncomputable def viewCell (ty : String) (l : Addr) : Cell := .raw fun o => o.cls = .type ty ∧ o.data = .fields #[.ref l]

section
variable {c : Cx} {A : Around} {E : Value → AS → Prop} {a : AS} {env : Env} {fs : List Frm} {σ : Addr → Option (Nat × Cell)} {g : Array GenState} {k : Nat} {D : Addr} {kvs : List (AV × AV)} {ep : Nat}

theorem W_set0 {Q : Value → AS → Prop} (k : Nat) (h : ∀ l, σ l = none → ∀ σ', σ' = upd σ l (some (k, .set (fun _ => false) 0)) → Q (.ref l) ⟨fs, σ', g⟩) : W c A (call (.type "set") []) Q E ⟨fs, σ, g⟩ := fun s hs =>
  call_set_0 fun led => ⟨_, hs.alloc (k := k) (cl := .set (fun _ => false) 0) (setObjOf_fresh led) rfl, h _ hs.fresh.1 _ rfl⟩

theorem W_iter_dict {Q : Value → AS → Prop} (hl : σ D = some (k, .dict kvs ep)) (h : ∀ it, σ it = none → ∀ σ', σ' = upd σ it (some (9, iterCell4 "dict_keyiterator" D kvs.length ep 0)) → Q (.ref it) ⟨fs, σ', g⟩) : W c A (pyIter (.ref D)) Q E ⟨fs, σ, g⟩ := fun s hs => by
  obtain ⟨kvs', hd, e⟩ := own_dict hs hl
  have hlen : kvs'.length = kvs.length := by rw [e]; simp
  refine wpAny_pyIter_dict (notSys hs hl) hd ⟨_, hs.alloc (k := 9) (cl := iterCell4 "dict_keyiterator" D kvs.length ep 0) ⟨rfl, by rw [hlen]; rfl⟩ rfl, h _ hs.fresh.1 _ rfl⟩

theorem get_erP {kvs' : List (AV × Value)} (e : kvs = kvs'.map erP) {i : Nat} {p : AV × AV} (h : kvs[i]? = some p) : ∃ u, kvs'[i]? = some (p.1, u) ∧ er u = p.2 := by
  rw [e, List.getElem?_map] at h
  obtain ⟨q, hq, eq⟩ := map_some_of h
  subst eq
  exact ⟨q.2, hq, rfl⟩

theorem IterOf.dictKeys (hh : A.handled = none) (hkey : ∀ p ∈ kvs, p.1.isKey = true) : IterOf c A (kvs.map (·.1)) k (fun σ => σ D = some (k, .dict kvs ep)) (iterCell4 "dict_keyiterator" D kvs.length ep) where
  item := fun {it i v fs σ g Q E} hit hl hv h s hs => by
    obtain ⟨kvs', hd, e⟩ := own_dict hs hl
    have hlen : kvs'.length = kvs.length := by rw [e]; simp
    rw [List.getElem?_map] at hv
    obtain ⟨p, hp, rfl⟩ := map_some_of hv
    obtain ⟨u, hu, eu⟩ := get_erP e hp
    obtain ⟨⟨o, ho, hc, hdd⟩, _⟩ := hs.own it 9 _ hit
    rw [← hlen] at hdd
    refine wpAny_pyNext_dict_item ⟨o, ho, hc, hdd⟩ hd hu (fun key h' hkk hi hsb => ?_)
    obtain ⟨o', ho', hc', hd'⟩ := hi
    exact ⟨_, hs.put hit (fun b o q z => (hsb.2 b q).trans z) ho' (cl' := iterCell4 "dict_keyiterator" D kvs.length ep (i + 1)) ⟨hc', by rw [← hlen]; exact hd'⟩, h _ _ rfl (avKind_is.mp hkk).1⟩
  fin := fun {it i fs σ g Q E} hit hl hi h s hs => by
    obtain ⟨kvs', hd, e⟩ := own_dict hs hl
    have hlen : kvs'.length = kvs.length := by rw [e]; simp
    obtain ⟨⟨o, ho, hc, hdd⟩, _⟩ := hs.own it 9 _ hit
    rw [← hlen] at hdd
    refine wpAny_pyNext_dict_end hh ⟨o, ho, hc, hdd⟩ hd (by rw [List.getElem?_eq_none]; rw [hlen]; simp at hi; omega) (fun h' hx => ⟨_, hs.drop hit (fun b o q z => hx b o q z), h _ rfl⟩)
  keep := fun {σ it i x} h hi => by rw [upd_ne (fun q => by rw [q, hi] at h; cases h)]; exact h
  ext := fun {C σ σ'} hk hx h => hx _ _ _ h hk
  own := fun {target it u i fs σ g Q E} h q s hs => by
    obtain ⟨⟨o, ho, hc, hd⟩, _⟩ := hs.own it 9 _ h
    have fin : wpAny (model c.prog c.w) A (do
        let (.ref r, .ref a) := (Value.ref it, u) | return
        let o ← load r
        match o.cls, o.data with
        | .type n, .fields vs =>
          if ["enumerate", "zip", "dict_itemiterator", "dict_reverseitemiterator", "odict_iterator", "itertools.zip_longest", "itertools.pairwise"].contains n && vs[0]? == some (rawInt a) then
            rule "for.unpacks-the-owned-tuple"
            updateField r 0 .none
        | _, _ => pure ()) (fun v s' => ∃ a', St c a' s' ∧ Q v a') (fun e s' => ∃ a', St c a' s' ∧ E e a') s := by
      cases u with
      | ref b =>
        refine wpAny_bind (wpAny_load ho ?_)
        rw [hc, hd]
        exact wpAny_pure ⟨_, hs, q⟩
      | _ => exact wpAny_pure ⟨_, hs, q⟩
    unfold letOwnedTupleGo
    cases target <;> first | exact fin | exact wpAny_pure ⟨_, hs, q⟩

/-! values() -/
theorem W_dict_values {Q : Value → AS → Prop} (hl : σ D = some (k, .dict kvs ep)) (h : ∀ v, σ v = none → ∀ σ', σ' = upd σ v (some (0, viewCell "dict_values" D)) → Q (.ref v) ⟨fs, σ', g⟩) : W c A (call (.builtin "dict.values") [.ref D]) Q E ⟨fs, σ, g⟩ := fun s hs => by
  obtain ⟨kvs', hd, e⟩ := own_dict hs hl
  refine call_meetsIn slot_dict_values hd.dictOf.mapOf.typeIs entry_dict_values (args_dict_values_1 _) (meets_dict_values (avKind c.prog c.w) D (notSys hs hl)) ⟨⟨_, hd.dictOf⟩, ?_⟩
  exact ⟨_, hs.alloc (k := 0) (cl := viewCell "dict_values" D) ⟨rfl, rfl⟩ rfl, h _ hs.fresh.1 _ rfl⟩
theorem W_iter_values {v : Addr} {k' : Nat} {Q : Value → AS → Prop} (hv : σ v = some (k', viewCell "dict_values" D)) (hl : σ D = some (k, .dict kvs ep)) (h : ∀ it, σ it = none → ∀ σ', σ' = upd σ it (some (9, iterCell4 "dict_valueiterator" D kvs.length ep 0)) → Q (.ref it) ⟨fs, σ', g⟩) : W c A (pyIter (.ref v)) Q E ⟨fs, σ, g⟩ := fun s hs => by
  obtain ⟨kvs', hd, e⟩ := own_dict hs hl
  have hlen : kvs'.length = kvs.length := by rw [e]; simp
  obtain ⟨⟨o, ho, hc, hdd⟩, _⟩ := hs.own v k' _ hv
  exact wpAny_pyIter_values ⟨o, ho, hc, hdd⟩ hd ⟨_, hs.alloc (k := 9) (cl := iterCell4 "dict_valueiterator" D kvs.length ep 0) ⟨rfl, by rw [hlen]; rfl⟩ rfl, h _ hs.fresh.1 _ rfl⟩
theorem IterOf.dictValues (hh : A.handled = none) : IterOf c A (kvs.map (·.2)) k (fun σ => σ D = some (k, .dict kvs ep)) (iterCell4 "dict_valueiterator" D kvs.length ep) where
  item := fun {it i v fs σ g Q E} hit hl hv h s hs => by
    obtain ⟨kvs', hd, e⟩ := own_dict hs hl
    have hlen : kvs'.length = kvs.length := by rw [e]; simp
    rw [List.getElem?_map] at hv
    obtain ⟨p, hp, rfl⟩ := map_some_of hv
    obtain ⟨u, hu, eu⟩ := get_erP e hp
    obtain ⟨⟨o, ho, hc, hdd⟩, _⟩ := hs.own it 9 _ hit
    rw [← hlen] at hdd
    refine wpAny_pyNext_values_item ⟨o, ho, hc, hdd⟩ hd hu (fun h' hi hsb => ?_)
    obtain ⟨o', ho', hc', hd'⟩ := hi
    exact ⟨_, hs.put hit (fun b o q z => (hsb.2 b q).trans z) ho' (cl' := iterCell4 "dict_valueiterator" D kvs.length ep (i + 1)) ⟨hc', by rw [← hlen]; exact hd'⟩, h _ _ rfl eu⟩
  fin := fun {it i fs σ g Q E} hit hl hi h s hs => by
    obtain ⟨kvs', hd, e⟩ := own_dict hs hl
    have hlen : kvs'.length = kvs.length := by rw [e]; simp
    obtain ⟨⟨o, ho, hc, hdd⟩, _⟩ := hs.own it 9 _ hit
    rw [← hlen] at hdd
    refine wpAny_pyNext_values_end hh ⟨o, ho, hc, hdd⟩ hd (by rw [List.getElem?_eq_none]; rw [hlen]; simp at hi; omega) (fun h' hx => ⟨_, hs.drop hit (fun b o q z => hx b o q z), h _ rfl⟩)
  keep := fun {σ it i x} h hi => by rw [upd_ne (fun q => by rw [q, hi] at h; cases h)]; exact h
  ext := fun {C σ σ'} hk hx h => hx _ _ _ h hk
  own := fun {target it u i fs σ g Q E} h q s hs => by
    obtain ⟨⟨o, ho, hc, hd⟩, _⟩ := hs.own it 9 _ h
    have fin : wpAny (model c.prog c.w) A (do
        let (.ref r, .ref a) := (Value.ref it, u) | return
        let o ← load r
        match o.cls, o.data with
        | .type n, .fields vs =>
          if ["enumerate", "zip", "dict_itemiterator", "dict_reverseitemiterator", "odict_iterator", "itertools.zip_longest", "itertools.pairwise"].contains n && vs[0]? == some (rawInt a) then
            rule "for.unpacks-the-owned-tuple"
            updateField r 0 .none
        | _, _ => pure ()) (fun v s' => ∃ a', St c a' s' ∧ Q v a') (fun e s' => ∃ a', St c a' s' ∧ E e a') s := by
      cases u with
      | ref b =>
        refine wpAny_bind (wpAny_load ho ?_)
        rw [hc, hd]
        exact wpAny_pure ⟨_, hs, q⟩
      | _ => exact wpAny_pure ⟨_, hs, q⟩
    unfold letOwnedTupleGo
    cases target <;> first | exact fin | exact wpAny_pure ⟨_, hs, q⟩
end
end Mine

namespace Mine
open PySem PySem.W PyProof.Rows PySem.Calls PySem.F

section
variable {c : Cx} {A : Around} {E : Value → AS → Prop} {a : AS} {env : Env} {fs : List Frm} {σ : Addr → Option (Nat × Cell)} {g : Array GenState} {k : Nat}

theorem W_While {test : Expr} {body orelse : List Stmt} {pos : Pos} {Q : Flow → AS → Prop} (I : Nat → AS → Prop)
    (turn : ∀ n a, I n a → W c A (isTrue test env (eval test env)) (fun b a₁ => if b then W c A (execs body env) (fun f a₂ => match f with
        | .next | .cont => ∃ m, m < n ∧ I m a₂
        | .brk => Q .next a₂
        | .ret v => Q (.ret v) a₂) (Noted c A env (Came c A env E)) a₁ else W c A (execs orelse env) Q (Noted c A env (Came c A env E)) a₁) (Noted c A env (Came c A env E)) a)
    (n : Nat) (h : I n a) : W c A (exec (.While test body orelse pos) env) Q E a := by
  intro s hs
  refine wpAny_While (codeAny_loop rfl (fun n s => ∃ a, St c a s ∧ I n a) (fun n s ⟨a, hs, hI⟩ => ?_) n ⟨a, hs, h⟩)
  show wpAny _ A ((whileTurn test body orelse env).onRaise (fun x => do noteFrame x env; theTreesLotGoes x)) _ _ s
  refine wpAny_noted ?_
  have nt : ∀ e s', (∃ a', St c a' s' ∧ Noted c A env (Came c A env E) e a') → notedBy (model c.prog c.w) A env (fun e s' => cameBackBy (model c.prog c.w) A env (fun e s' => ∃ a', St c a' s' ∧ E e a') e s') e s' := fun e s' ⟨a', h1, q⟩ =>
    wpAny_mono (q s' h1) (fun _ s'' x => came_of x) fun e' s'' x => came_of x
  unfold whileTurn
  refine wpAny_bind (wpAny_mono (turn n a hI s hs) (fun b s₁ ⟨a₁, h1, q⟩ => ?_) nt)
  cases b with
  | true =>
    refine wpAny_bind (wpAny_mono (q s₁ h1) (fun f s₂ ⟨a₂, h2, q⟩ => ?_) nt)
    cases f with
    | next => obtain ⟨m, hm, hi⟩ := q; exact wpAny_pure ⟨rfl, m, hm, a₂, h2, hi⟩
    | cont => obtain ⟨m, hm, hi⟩ := q; exact wpAny_pure ⟨rfl, m, hm, a₂, h2, hi⟩
    | brk => exact wpAny_pure ⟨a₂, h2, q⟩
    | ret v => exact wpAny_pure ⟨a₂, h2, q⟩
  | false =>
    exact wpAny_bind (wpAny_mono (q s₁ h1) (fun f s₂ x => wpAny_pure x) nt)
end
end Mine

namespace Mine
open PySem PySem.W PyProof.Rows PySem.Calls PySem.F

theorem mem_cellsFrom : ∀ {names : List (Str × NameKind)} {n : Nat} {acc : List (Str × Addr)} {p : Str × Addr}, p ∈ cellsFrom n names acc → p ∈ acc ∨ (p.1, NameKind.cell) ∈ names
  | [], _, _, _, h => .inl h
  | (x, k) :: r, n, acc, p, h => by
    unfold cellsFrom at h
    split at h
    · rename_i hk
      rcases mem_cellsFrom h with q | q
      · rcases List.mem_cons.mp q with e | q
        · subst e; rw [eq_of_beq hk]; exact .inr (List.mem_cons_self ..)
        · exact .inl q
      · exact .inr (List.mem_cons_of_mem _ q)
    · rcases mem_cellsFrom h with q | q
      · exact .inl q
      · exact .inr (List.mem_cons_of_mem _ q)
theorem cellsFrom_acc : ∀ {names : List (Str × NameKind)} {n : Nat} {acc : List (Str × Addr)} {p : Str × Addr}, p ∈ acc → p ∈ cellsFrom n names acc
  | [], _, _, _, h => h
  | (x, k) :: r, n, acc, p, h => by
    unfold cellsFrom
    split
    · exact cellsFrom_acc (List.mem_cons_of_mem _ h)
    · exact cellsFrom_acc h
theorem cellsFrom_has : ∀ {names : List (Str × NameKind)} {n : Nat} {acc : List (Str × Addr)} {x : Str}, (x, NameKind.cell) ∈ names → ∃ a, (x, a) ∈ cellsFrom n names acc
  | (y, k) :: r, n, acc, x, h => by
    unfold cellsFrom
    rcases List.mem_cons.mp h with e | h
    · cases e; exact ⟨n, by rw [if_pos (by rfl)]; exact cellsFrom_acc (List.mem_cons_self ..)⟩
    · split
      · exact cellsFrom_has h
      · exact cellsFrom_has h
theorem cellsFrom_nd : ∀ {names : List (Str × NameKind)} {n : Nat} {acc : List (Str × Addr)}, (names.map (·.1)).Nodup → (acc.map (·.1)).Nodup → (∀ x ∈ names.map (·.1), x ∉ acc.map (·.1)) → ((cellsFrom n names acc).map (·.1)).Nodup
  | [], _, _, _, h, _ => h
  | (y, k) :: r, n, acc, h1, h2, h3 => by
    simp only [List.map_cons, List.nodup_cons] at h1
    unfold cellsFrom
    split
    · refine cellsFrom_nd h1.2 ?_ ?_
      · simp only [List.map_cons, List.nodup_cons]
        exact ⟨h3 y (by simp), h2⟩
      · intro x hx q
        simp only [List.map_cons, List.mem_cons] at q
        rcases q with e | q
        · exact h1.1 (e ▸ hx)
        · exact h3 x (by simp only [List.map_cons, List.mem_cons]; exact .inr hx) q
    · exact cellsFrom_nd h1.2 h2 fun x hx => h3 x (by simp only [List.map_cons, List.mem_cons]; exact .inr hx)

theorem lookup_none_of {x : Str} {α : Type} : ∀ {l : List (Str × α)}, x ∉ l.map (·.1) → l.lookup x = none
  | [], _ => rfl
  | p :: l, h => by
    simp only [List.map_cons, List.mem_cons, not_or] at h
    rw [List.lookup_cons, beq_eq_false_iff_ne.mpr h.1]
    exact lookup_none_of h.2
theorem bindL_eq {k : Str → Option NameKind} {x : Str} : ∀ {b : List (Str × Value)} {m : Str → Option Value}, (b.map (·.1)).Nodup → bindL k b m x = if k x = some .local then (b.lookup x).or (m x) else m x
  | [], m, _ => by simp [bindL]
  | (n, v) :: r, m, h => by
    simp only [List.map_cons, List.nodup_cons] at h
    unfold bindL
    rw [bindL_eq h.2, List.lookup_cons]
    by_cases e : x = n
    · subst e
      by_cases q : k x = some .local
      · simp [q, lookup_none_of h.1]
      · simp [q]
    · rw [beq_eq_false_iff_ne.mpr e]
      by_cases q : k n = some .local
      · simp [q, e]
      · simp [q]
theorem bindC_eq {k : Str → Option NameKind} {x : Str} : ∀ {b : List (Str × Value)} {m : Str → Option Value}, (b.map (·.1)).Nodup → bindC k b m x = if k x = some .local then m x else (b.lookup x).or (m x)
  | [], m, _ => by simp [bindC]
  | (n, v) :: r, m, h => by
    simp only [List.map_cons, List.nodup_cons] at h
    unfold bindC
    rw [bindC_eq h.2, List.lookup_cons]
    by_cases e : x = n
    · subst e
      by_cases q : k x = some .local
      · simp [q, lookup_none_of h.1]
      · simp [q, lookup_none_of h.1]
    · rw [beq_eq_false_iff_ne.mpr e]
      by_cases q : k n = some .local
      · simp [q, e]
      · simp [q, e]

noncomputable def nkKind (b : Bool) : NameKind := if b then .cell else .local

structure FnOkC (K : Frag) (f : Addr) (nk : List (Str × Bool)) (gs : List Str) : Prop where
  fn : isFd K f = true
  code : codeIn K (fdOf K f).code (fdOf K f).qualname = true
  names : (fdOf K f).scope.names = nk.map (fun p => (p.1, nkKind p.2)) ++ gs.map (·, NameKind.globalImplicit)
  kind : (fdOf K f).scope.kind = .function
  co : (fdOf K f).scope.isCoroutine = false
  gen : (fdOf K f).scope.isGenerator = false
  body : (fdOf K f).body = .stmts (bodyOf (fdOf K f))
  gl : (fdOf K f).globals = mainGlobals
  bl : (fdOf K f).builtins = builtinsNs
  clo : (fdOf K f).closure = []
  nd : ((("__debug__" : Str) :: (nk.map (·.1) ++ gs)).map codeOf).Nodup

structure CapOk (env : Env) (cl : List (Str × Addr)) (xs : List Str) : Prop where
  kind : env.scope.kind = .function
  cap : ∀ x ∈ xs, (x == ("__debug__" : Str)) = false ∧ env.kindOf x = some .cell ∧ ∃ ca, env.cells.lookup x = some ca ∧ cl.lookup x = some ca

section
variable {c : Cx} {A : Around} {E : Value → AS → Prop} {a : AS} {env : Env} {fs : List Frm} {σ : Addr → Option (Nat × Cell)} {g : Array GenState} {k : Nat}

theorem Wk_call_C {K : Frag} {f : Addr} {nk : List (Str × Bool)} {ps rs ns : List Str} {gs : List (Str × Value)} {args : List Value} {us : List AV} {vs : List (Option AV)} {d : Nat} {R : Result → AS → Prop}
    (hK : c.K = K) (hf : FnOkC K f nk (gs.map (·.1))) (hnk : nk.map (·.1) = ps ++ rs) (hns : ns = ps ++ rs) (hbind : bindArgs (fdOf K f) ⟨args, []⟩ = pure (ps.zip args)) (hu : args.map er = us) (hi : Init ps us rs vs) (hglob : ∀ p ∈ gs, Glob c p.1 p.2) (hA : AOk A fs (d + 1))
    (h : ∀ L cl env, env = callEnvC (fdOf K f) L f → σ L = none → AOk (A.deeper env) (⟨L, cl, ns, vs⟩ :: fs) d → EnvOk c env L cl ns gs → CapOk env cl ((nk.filter (·.2)).map (·.1)) →
      W c (A.deeper env) (execs (bodyOf (fdOf K f)) env) (fun fl a' => Pop fs (R (.ok (.ret (retOf fl)))) a')
        (fun e a' => W c (A.deeper env) (leaving env e) (fun _ a'' => Pop fs (R (.error e)) a'') (fun _ _ => False) a') ⟨⟨L, cl, ns, vs⟩ :: fs, σ, g⟩) :
    Wk c A (.call (.ref f) ⟨args, []⟩) R ⟨fs, σ, g⟩ := by
  subst hK hns
  obtain ⟨o, ho, hd⟩ := fdOf_ex hf.fn
  have hnm := hf.names
  have hnd := nodup_of_codes hf.nd
  have hnd2 := (List.nodup_cons.mp hnd).2
  have hkeys : ((fdOf c.K f).scope.names.map (·.1)).Nodup := by
    rw [hnm, List.map_append, List.map_map, List.map_map]
    simpa [Function.comp_def] using hnd2
  have look : ∀ {p}, p ∈ (fdOf c.K f).scope.names → (fdOf c.K f).scope.names.lookup p.1 = some p.2 := fun hp => lookup_nodup hkeys hp
  have nodbg : ∀ x ∈ nk.map (·.1) ++ gs.map (·.1), (x == ("__debug__" : Str)) = false := fun x hx => beq_eq_false_iff_ne.mpr fun e => (List.nodup_cons.mp hnd).1 (e ▸ hx)
  have hnsnd : (ps ++ rs).Nodup := hnk ▸ (List.nodup_append.mp hnd2).1
  intro s hs
  obtain ⟨f1, f2, f3⟩ := hs.fresh
  have X : c.K.In s.heap := c.inK.keeps hs.keep
  generalize hL : s.heap.objs.size = L at *
  have clmem : ∀ {p : Str × Addr}, p ∈ cellsFrom (L + 1) (fdOf c.K f).scope.names [] → (p.1, NameKind.cell) ∈ (fdOf c.K f).scope.names := fun hp => (mem_cellsFrom hp).resolve_left (by simp)
  have clnd : ((cellsFrom (L + 1) (fdOf c.K f).scope.names []).map (·.1)).Nodup := cellsFrom_nd hkeys .nil (by simp)
  have cllook : ∀ {x : Str}, (x, NameKind.cell) ∈ (fdOf c.K f).scope.names → ∃ ca, (cellsFrom (L + 1) (fdOf c.K f).scope.names []).lookup x = some ca := fun hx => by
    obtain ⟨ca, hc⟩ := cellsFrom_has (n := L + 1) (acc := []) hx
    exact ⟨ca, lookup_nodup clnd hc⟩
  have nkm : ∀ {x : Str}, x ∈ ps ++ rs → ∃ b, (x, nkKind b) ∈ (fdOf c.K f).scope.names ∧ (x, b) ∈ nk := fun {x} hx => by
    rw [← hnk] at hx
    obtain ⟨p, hp, rfl⟩ := List.mem_map.mp hx
    exact ⟨p.2, by rw [hnm]; exact List.mem_append_left _ (List.mem_map.mpr ⟨p, hp, rfl⟩), hp⟩
  have EO : EnvOk c (callEnvC (fdOf c.K f) L f) L (cellsFrom (L + 1) (fdOf c.K f).scope.names []) (ps ++ rs) gs := by
    refine ⟨hf.kind, rfl, hnsnd, clnd, fun x hx => ⟨nodbg x (List.mem_append_left _ (hnk ▸ hx)), ?_⟩, fun p hp => ⟨nodbg _ (List.mem_append_right _ (List.mem_map_of_mem hp)), look (p := (p.1, .globalImplicit)) ?_, hglob p hp⟩, hf.gl, hf.bl⟩
    · obtain ⟨b, hb, _⟩ := nkm hx
      cases b with
      | false =>
        refine .inl ⟨lookup_none_of fun q => ?_, look hb⟩
        obtain ⟨p, hp, rfl⟩ := List.mem_map.mp q
        have e1 := look (clmem hp)
        have e2 := look hb
        dsimp only at e1 e2
        rw [e1] at e2
        cases e2
      | true =>
        obtain ⟨ca, hc⟩ := cllook hb
        exact .inr ⟨ca, hc, look hb, hc⟩
    · rw [hnm]; exact List.mem_append_right _ (by rw [List.map_map]; exact List.mem_map.mpr ⟨p, hp, rfl⟩)
  have CO : CapOk (callEnvC (fdOf c.K f) L f) (cellsFrom (L + 1) (fdOf c.K f).scope.names []) ((nk.filter (·.2)).map (·.1)) := by
    refine ⟨hf.kind, fun x hx => ?_⟩
    obtain ⟨p, hp, rfl⟩ := List.mem_map.mp hx
    obtain ⟨hp1, hp2⟩ := List.mem_filter.mp hp
    have hm : (p.1, NameKind.cell) ∈ (fdOf c.K f).scope.names := by
      rw [hnm]; refine List.mem_append_left _ (List.mem_map.mpr ⟨p, hp1, by simp [nkKind, hp2]⟩)
    obtain ⟨ca, hc⟩ := cllook hm
    exact ⟨nodbg _ (List.mem_append_left _ (List.mem_map_of_mem hp1)), look hm, ca, hc, hc⟩
  have zm : ∀ x ∈ ps.zip args, x.1 ∈ ps ++ rs := fun x hx => List.mem_append_left _ (List.of_mem_zip hx).1
  refine codeAny_call_cells hA.room (X _ _ ho) hd (c.nolim.keeps hs.keep) (codeRec_of X hf.code) hf.body hbind hf.clo (fun x hx => ?_) (fun s₁ x => ?_) hf.co hf.gen hf.kind
  · obtain ⟨b, hb, _⟩ := nkm (zm x hx)
    cases b with
    | false => exact .inl (look hb)
    | true =>
      obtain ⟨ca, hc⟩ := cllook hb
      exact .inr ⟨look hb, by rw [hL, hc]; rfl⟩
  rw [hL] at x ⊢
  have kd : ∀ y, (callEnvC (fdOf c.K f) L f).kindOf y = (fdOf c.K f).scope.names.lookup y := fun _ => rfl
  have hzn := zip_nodup (args := args) (List.nodup_append.mp hnsnd).1
  have big : ∀ b, L ≤ b → c.base.get? b = none ∧ σ b = none ∧ b ∉ fs.flatMap Frm.as := by
    intro b hb
    have lt : ∀ {o}, s.heap.get? b = some o → False := fun e => by have := Heap.lt_size e; rw [hL] at this; exact absurd hb (Nat.not_le.mpr this)
    refine ⟨?_, ?_, fun hm => ?_⟩
    · cases e : c.base.get? b with
      | none => rfl
      | some o => exact (lt (hs.keep _ _ e)).elim
    · cases e : σ b with
      | none => rfl
      | some p =>
        obtain ⟨⟨o, ho, _⟩, _⟩ := hs.own _ p.1 p.2 e
        exact (lt ho).elim
    · obtain ⟨f, hf, hx⟩ := List.mem_flatMap.mp hm
      obtain ⟨m, ⟨o, es, ep, ho, _⟩, _, h3⟩ := hs.fr f hf
      simp only [Frm.as, List.mem_cons, List.mem_map] at hx
      rcases hx with e | ⟨p, hp, e⟩
      · exact lt (e ▸ ho)
      · obtain ⟨ov, ⟨oc, hc, _⟩, _⟩ := h3 p hp
        exact lt (e ▸ hc)
  have abv : ∀ p ∈ cellsFrom (L + 1) (fdOf c.K f).scope.names [], L < p.2 := fun p hp => x.above p.1 p.2 hp
  have asL : ∀ b ∈ (L :: (cellsFrom (L + 1) (fdOf c.K f).scope.names []).map (·.2)), L ≤ b := fun b hb => by
    rcases List.mem_cons.mp hb with rfl | hb
    · exact Nat.le_refl _
    · obtain ⟨p, hp, rfl⟩ := List.mem_map.mp hb
      exact Nat.le_of_lt (abv p hp)
  have S : St c ⟨⟨L, cellsFrom (L + 1) (fdOf c.K f).scope.names [], ps ++ rs, vs⟩ :: fs, σ, g⟩ s₁ := by
    obtain ⟨h', tk, e⟩ := x.toInCall.same
    have hk := x.toInCall.keep
    refine ⟨fun b o e => hk b o (hs.keep b o e), fun f' hf => ?_, fun f' hf => ?_, ?_, fun y k cl e => ?_, by rw [e]; exact hs.os, by rw [e]; exact hs.gens⟩
    · rcases List.mem_cons.mp hf with rfl | hf
      · refine ⟨_, x.toInCall.ns, fun y hy => ?_, fun p hp => ?_⟩
        · rw [bindL_eq hzn]
          have := hi.gv args hu y
          rw [← this, kd]
          by_cases q : (fdOf c.K f).scope.names.lookup y = some .local
          · rw [if_pos q]; cases (ps.zip args).lookup y <;> rfl
          · rw [if_neg q]
            cases z : (ps.zip args).lookup y with
            | none => rfl
            | some v =>
              exfalso
              obtain ⟨b, hb, _⟩ := nkm (zm _ (PySem.mem_of_lookup z))
              cases b with
              | false => exact q (look hb)
              | true =>
                obtain ⟨ca, hc⟩ := cllook hb
                dsimp only at hc hy
                rw [hc] at hy; cases hy
        · refine ⟨_, x.cell p.1 p.2 (lookup_nodup clnd hp), ?_⟩
          rw [bindC_eq hzn, kd, look (clmem hp), if_neg (by intro q; cases q)]
          rw [← hi.gv args hu p.1]
          cases (ps.zip args).lookup p.1 <;> rfl
      · exact (hs.fr f' hf).keeps fun b _ o e => hk b o e
    · rcases List.mem_cons.mp hf with rfl | hf
      · exact fun y hy => (big y (asL y hy)).1
      · exact hs.nb f' hf
    · rw [List.flatMap_cons]
      refine List.nodup_append.mpr ⟨?_, hs.nd, fun y hy z hz e => (big y (asL y hy)).2.2 (e ▸ hz)⟩
      simp only [Frm.as, List.nodup_cons]
      refine ⟨fun q => ?_, ?_⟩
      · obtain ⟨p, hp, e⟩ := List.mem_map.mp q
        have := abv p hp
        rw [e] at this; exact Nat.lt_irrefl _ this
      · have := x.apart
        exact List.pairwise_map.mpr this
    · obtain ⟨⟨o', ho', ok⟩, r1, r2⟩ := hs.own y k cl e
      refine ⟨⟨o', hk _ _ ho', ok⟩, r1, fun q => ?_⟩
      rw [List.flatMap_cons] at q
      rcases List.mem_append.mp q with q | q
      · have := (big y (asL y q)).2.1
        dsimp only at e; rw [this] at e; cases e
      · exact r2 q
  refine wpAny_mono (h L _ _ rfl f1 (hA.deeper hf.kind rfl) EO CO _ S) (fun fl s' ⟨a', h1, f', e1, q⟩ => ?_) (fun e s' ⟨a', h1, q⟩ => ?_)
  · obtain ⟨fs', σ', g'⟩ := a'
    dsimp only at e1 q; subst e1
    exact ⟨_, h1.pop, by cases fl <;> exact q⟩
  · refine wpAny_mono (q s' h1) (fun _ s'' ⟨a'', h2, f', e1, q⟩ => ?_) fun _ _ ⟨_, _, x⟩ => x.elim
    obtain ⟨fs', σ', g'⟩ := a''
    dsimp only at e1 q; subst e1
    exact ⟨_, h2.pop, q⟩

theorem W_call_C {K : Frag} {f : Addr} {nk : List (Str × Bool)} {ps rs ns : List Str} {gs : List (Str × Value)} {args : List Value} {us : List AV} {vs : List (Option AV)} {d : Nat} {Q : Value → AS → Prop}
    (hK : c.K = K) (hf : FnOkC K f nk (gs.map (·.1))) (hnk : nk.map (·.1) = ps ++ rs) (hns : ns = ps ++ rs) (hbind : bindArgs (fdOf K f) ⟨args, []⟩ = pure (ps.zip args)) (hu : args.map er = us) (hi : Init ps us rs vs) (hglob : ∀ p ∈ gs, Glob c p.1 p.2) (hA : AOk A fs (d + 1))
    (h : ∀ L cl env, env = callEnvC (fdOf K f) L f → σ L = none → AOk (A.deeper env) (⟨L, cl, ns, vs⟩ :: fs) d → EnvOk c env L cl ns gs → CapOk env cl ((nk.filter (·.2)).map (·.1)) →
      W c (A.deeper env) (execs (bodyOf (fdOf K f)) env) (fun fl a' => Pop fs (Q (retOf fl)) a')
        (fun e a' => W c (A.deeper env) (leaving env e) (fun _ a'' => Pop fs (E e) a'') (fun _ _ => False) a') ⟨⟨L, cl, ns, vs⟩ :: fs, σ, g⟩) :
    W c A (call (.ref f) args) Q E ⟨fs, σ, g⟩ := W_call (Wk_call_C hK hf hnk hns hbind hu hi hglob hA h)

/-- a captured name -/
theorem W_NameCap {x : Str} {pos : Pos} {v : AV} {L : Addr} {cl : List (Str × Addr)} {ns xs : List Str} {vs : List (Option AV)} {Q : Value → AS → Prop} (he : CapOk env cl xs) (hx : x ∈ xs) (hf : ⟨L, cl, ns, vs⟩ ∈ a.fs) (hv : VarAt ns vs x (some v)) (hnd : ns.Nodup) (h : All v (fun u => Q u a)) :
    W c A (eval (.Name x pos) env) Q E a := by
  intro s hs
  obtain ⟨e, hm⟩ := hv.gv hnd
  obtain ⟨m, hn, h2, h3⟩ := hs.fr _ hf
  obtain ⟨d1, d2, ca, d3, d4⟩ := he.cap x hx
  obtain ⟨ov, hov, eo⟩ := h3 _ (lookup_mem d4)
  obtain ⟨u, rfl, eu⟩ := map_some_of (eo.trans e)
  exact wpAny_Name (wpAny_loadName_cell he.kind d2 d3 hov ⟨_, hs, h.at eu⟩) d1
end
end Mine

namespace Mine
open PySem PySem.W PyProof.Rows PySem.Calls PySem.F

structure CScope (sc : Scope) (x : Str) (gls caps : List Str) : Prop where
  kind : sc.kind = .function
  names : sc.names = ((".0" : Str), NameKind.local) :: (x, NameKind.local) :: (gls.map (·, NameKind.globalImplicit) ++ caps.map (·, NameKind.free))
  nd : ((("__debug__" : Str) :: (".0" : Str) :: x :: (gls ++ caps)).map codeOf).Nodup

noncomputable def capCells (env : Env) (caps : List Str) : List (Str × Addr) := (caps.map fun n => (n, (env.cells.lookup n).getD 0)).reverse

theorem closure_loop {env : Env} (f : Str × NameKind → List (Str × Addr) → Sem (ForInStep (List (Str × Addr))))
    (hf : ∀ n k cs, f (n, k) cs = if k == .free then (do let a ← cellOf env n; pure (.yield ((n, a) :: cs))) else pure (.yield cs)) :
    ∀ (names : List (Str × NameKind)) (acc : List (Str × Addr)), (∀ p ∈ names, p.2 = .free → ∃ ca, env.cells.lookup p.1 = some ca) →
      forIn names acc f = (pure (((names.filter fun p => p.2 == .free).map fun p => (p.1, (env.cells.lookup p.1).getD 0)).reverse ++ acc) : Sem _)
  | [], acc, _ => rfl
  | (n, k) :: r, acc, h => by
    have ih := closure_loop f hf r
    rw [List.forIn_cons, hf]
    by_cases e : k = .free
    · subst e
      obtain ⟨ca, hca⟩ := h (n, .free) (List.mem_cons_self ..) rfl
      dsimp only at hca
      have : cellOf env n = pure ca := by unfold cellOf; rw [hca]
      rw [if_pos (by rfl), this]
      show forIn r ((n, ca) :: acc) f = _
      rw [ih _ fun p hp => h p (List.mem_cons_of_mem _ hp)]
      simp [List.filter_cons, hca]
    · have e' : (k == NameKind.free) = false := beq_eq_false_iff_ne.mpr e
      rw [if_neg (by simp [e'])]
      show forIn r acc f = _
      rw [ih _ fun p hp => h p (List.mem_cons_of_mem _ hp)]
      simp [List.filter_cons, e']

section
variable {c : Cx} {A : Around} {E : Value → AS → Prop} {a : AS} {env : Env} {fs : List Frm} {σ : Addr → Option (Nat × Cell)} {g : Array GenState} {k : Nat}
  {sc : Scope} {x : Str} {gls caps : List Str} {cl : List (Str × Addr)}

theorem CScope.closure (h : CScope sc x gls caps) (hc : CapOk env cl caps) : closureFor sc env = pure (capCells env caps) := by
  unfold closureFor
  have hf : ∀ p ∈ sc.names, p.2 = NameKind.free → ∃ ca, env.cells.lookup p.1 = some ca := by
    intro p hp hk
    rw [h.names] at hp
    simp only [List.mem_cons, List.mem_append, List.mem_map] at hp
    rcases hp with rfl | rfl | ⟨y, _, rfl⟩ | ⟨y, hy, rfl⟩
    · cases hk
    · cases hk
    · cases hk
    · obtain ⟨_, _, ca, h1, _⟩ := hc.cap y hy
      exact ⟨ca, h1⟩
  have := closure_loop (env := env) (fun p cs => if (p.2 == NameKind.free) = true then (do let a ← cellOf env p.1; pure (.yield ((p.1, a) :: cs))) else pure (.yield cs)) (fun _ _ _ => rfl) sc.names [] hf
  have e : ((sc.names.filter fun p => p.2 == NameKind.free).map fun p => (p.1, (env.cells.lookup p.1).getD 0)).reverse ++ [] = capCells env caps := by
    unfold capCells
    rw [h.names, List.append_nil]
    congr 1
    rw [List.filter_cons, List.filter_cons]
    rw [if_neg (by simp), if_neg (by simp), List.filter_append]
    have e1 : (gls.map (·, NameKind.globalImplicit)).filter (fun p => p.2 == NameKind.free) = [] := by
      rw [List.filter_eq_nil_iff]; intro p hp; obtain ⟨y, _, rfl⟩ := List.mem_map.mp hp; simp
    have e2 : (caps.map (·, NameKind.free)).filter (fun p => p.2 == NameKind.free) = caps.map (·, NameKind.free) := by
      rw [List.filter_eq_self]; intro p hp; obtain ⟨y, _, rfl⟩ := List.mem_map.mp hp; simp
    rw [e1, e2, List.nil_append, List.map_map]
    rfl
  rw [e] at this
  refine Eq.trans (b := ((forIn sc.names [] (fun p cs => if (p.2 == NameKind.free) = true then (do let a ← cellOf env p.1; pure (.yield ((p.1, a) :: cs))) else pure (.yield cs))) >>= fun cs => pure cs)) ?_ ?_
  · congr 1
  · rw [this]
    rfl

theorem CScope.keys (h : CScope sc x gls caps) : (sc.names.map (·.1)).Nodup := by
  have := (List.nodup_cons.mp (nodup_of_codes h.nd)).2
  rw [h.names]
  simpa [Function.comp_def] using this

theorem relabel_lookup {names : List (Str × NameKind)} : (names.map fun (n, k) => if (k == NameKind.free && env.scope.kind == ScopeKind.function && env.kindOf n == some NameKind.cell) then (n, NameKind.cell) else (n, k)).map (·.1) = names.map (·.1) := by
  rw [List.map_map]
  congr 1
  funext p
  obtain ⟨n, k⟩ := p
  simp only [Function.comp_apply]
  split <;> rfl

theorem CScope.envOk (h : CScope sc x gls caps) (hc : CapOk env cl caps) {C : Addr} {gs : List (Str × Value)} (hg : gs.map (·.1) = gls) (hglob : ∀ p ∈ gs, Glob c p.1 p.2) (hgl : env.globals = mainGlobals) (hbl : env.builtins = builtinsNs) :
    EnvOk c (compEnvC sc (capCells env caps) C env) C [] [x] gs ∧ CapOk (compEnvC sc (capCells env caps) C env) cl caps := by
  have hkeys := h.keys
  have hnd := nodup_of_codes h.nd
  have nodbg : ∀ y ∈ (".0" : Str) :: x :: (gls ++ caps), (y == ("__debug__" : Str)) = false := fun y hy => beq_eq_false_iff_ne.mpr fun e => (List.nodup_cons.mp hnd).1 (e ▸ hy)
  have look : ∀ {p : Str × NameKind}, p ∈ (relabel sc env).names → (compEnvC sc (capCells env caps) C env).kindOf p.1 = some p.2 := fun hp => lookup_nodup (l := (relabel sc env).names) (by rw [relabel, relabel_lookup]; exact hkeys) hp
  have rmem : ∀ {n : Str} {kk : NameKind}, (n, kk) ∈ sc.names → (if (kk == NameKind.free && env.scope.kind == .function && env.kindOf n == some .cell) then (n, NameKind.cell) else (n, kk)) ∈ (relabel sc env).names := fun {n kk} hp => List.mem_map.mpr ⟨(n, kk), hp, rfl⟩
  refine ⟨⟨h.kind, rfl, by simp, .nil, fun y hy => ?_, fun p hp => ⟨nodbg _ ?_, ?_, hglob p hp⟩, hgl, hbl⟩, ⟨h.kind, fun y hy => ⟨nodbg y ?_, ?_, ?_⟩⟩⟩
  · rw [List.mem_singleton] at hy; subst hy
    refine ⟨nodbg y (by simp), .inl ⟨rfl, ?_⟩⟩
    have := rmem (n := y) (kk := .local) (by rw [h.names]; simp)
    exact look (p := (y, .local)) (by simpa using this)
  · have : p.1 ∈ gls := hg ▸ List.mem_map_of_mem hp
    simp [this]
  · have hm : p.1 ∈ gls := hg ▸ List.mem_map_of_mem hp
    have := rmem (n := p.1) (kk := .globalImplicit) (by rw [h.names]; simp [hm])
    exact look (p := (p.1, .globalImplicit)) (by simpa using this)
  · simp [hy]
  · have := rmem (n := y) (kk := .free) (by rw [h.names]; simp [hy])
    obtain ⟨_, h2, _⟩ := hc.cap y hy
    rw [if_pos (by rw [hc.kind, h2]; rfl)] at this
    exact look (p := (y, .cell)) this
  · obtain ⟨_, _, ca, h3, h4⟩ := hc.cap y hy
    refine ⟨ca, ?_, h4⟩
    have hcn : caps.Nodup := by
      have := (List.nodup_cons.mp hnd).2
      have := (List.nodup_cons.mp (List.nodup_cons.mp this).2).2
      exact (List.nodup_append.mp this).2.1
    have : ((capCells env caps).map (·.1)).Nodup := by
      unfold capCells
      rw [List.map_reverse, List.map_map]
      exact (List.reverse_perm _).nodup_iff.mpr (by simpa [Function.comp_def] using hcn)
    exact lookup_nodup this (p := (y, ca)) (by unfold capCells; rw [List.mem_reverse]; exact List.mem_map.mpr ⟨y, hy, by rw [h3]; rfl⟩)

/-- what is left of a comprehension when its iterator stands -/
noncomputable def CompK (c : Cx) (A : Around) (env : Env) (elt iter : Expr) (x : Str) (px : Pos) (ifs : List Expr) (sc : Scope) (pos : Pos) (caps : List Str) (use : Option (Value → Sem Unit)) (it : Value) (Q : Value → AS → Prop) (E : Value → AS → Prop) (a : AS) : Prop :=
  ∀ s, St c a s → wpAny (model c.prog c.w) A (newList []) (fun acc s₃ => wpAny (model c.prog c.w) A (newFunctionEnv sc env.globals (capCells env caps) [] env.qual none .none (some env)) (fun cenv s₄ =>
    codeAny (model c.prog c.w) A (.compStart (.ListComp elt [⟨.Name x px, iter, ifs, 0⟩] sc pos) 0 it acc { cenv with scope := relabel sc env })
      (compPost (model c.prog c.w) A (fun e s' => ∃ a', St c a' s' ∧ E e a') use (fun v s' => ∃ a', St c a' s' ∧ Q v a') acc cenv.locals) s₄) (fun e s' => ∃ a', St c a' s' ∧ E e a') s₃) (fun e s' => ∃ a', St c a' s' ∧ E e a') s

theorem CScope.names_ok (h : CScope sc x gls caps) : ∀ y ∈ sc.names, y.2 = .local → sc.names.lookup y.1 = some .local := fun y hy e => by
  have := lookup_nodup h.keys hy
  rw [e] at this; exact this

theorem W_ListComp {elt iter : Expr} {px : Pos} {ifs : List Expr} {pos : Pos} {Q : Value → AS → Prop} (h : CScope sc x gls caps) (hc : CapOk env cl caps)
    (hw : W c A (eval iter env) (fun xv a₁ => W c A (pyIter xv) (fun it a₂ => CompK c A env elt iter x px ifs sc pos caps none it Q E a₂) E a₁) E a)
    (hs : ∀ x, foldedSetIterable iter env x = pure x := by intro _; with_unfolding_all rfl) : W c A (eval (.ListComp elt [⟨.Name x px, iter, ifs, 0⟩] sc pos) env) Q E a := by
  intro s hs'
  rw [eval_ListComp]
  refine wpAny_comprehension_free (use := none) rfl hs (h.closure hc) h.kind h.names_ok (wpAny_mono (hw s hs') (fun xv s₁ ⟨a₁, h1, q⟩ => wpAny_mono (q s₁ h1) (fun it s₂ ⟨a₂, h2, q⟩ => ?_) fun _ _ e => e) fun _ _ e => e)
  exact q s₂ h2

theorem St.pushComp {s : Shared} {h₁ : Heap} {tk : Nat} {ns : List Str} {vs : List (Option AV)} (hs : St c ⟨fs, σ, g⟩ s) (hns : h₁.Ns s.heap.objs.size (fun _ => none)) (hk : ∀ b o, s.heap.get? b = some o → h₁.get? b = some o)
    (hv : ∀ y, gv ns vs y = none) : St c ⟨⟨s.heap.objs.size, [], ns, vs⟩ :: fs, σ, g⟩ { s with heap := h₁, toks := tk } := by
  obtain ⟨f1, f2, f3⟩ := hs.fresh
  refine ⟨fun b o e => hk b o (hs.keep b o e), fun f' hf => ?_, fun f' hf => ?_, ?_, fun x k cl e => ?_, hs.os, hs.gens⟩
  · rcases List.mem_cons.mp hf with rfl | hf
    · exact ⟨_, hns, fun x _ => by dsimp only; rw [hv]; rfl, fun p hp => by cases hp⟩
    · exact (hs.fr f' hf).keeps fun b _ o e => hk b o e
  · rcases List.mem_cons.mp hf with rfl | hf
    · intro x hx
      simp only [Frm.as, List.map_nil, List.mem_singleton] at hx
      rw [hx]; exact f3
    · exact hs.nb f' hf
  · rw [List.flatMap_cons]
    refine List.nodup_append.mpr ⟨by simp [Frm.as], hs.nd, fun x hx y hy e => ?_⟩
    simp only [Frm.as, List.map_nil, List.mem_singleton] at hx
    exact f2 (by rw [← hx, e]; exact hy)
  · obtain ⟨⟨o', ho', ok⟩, r1, r2⟩ := hs.own x k cl e
    refine ⟨⟨o', hk _ _ ho', ok⟩, r1, fun q => ?_⟩
    rw [List.flatMap_cons] at q
    rcases List.mem_append.mp q with q | q
    · simp only [Frm.as, List.map_nil, List.mem_singleton] at q
      rw [q] at e; dsimp only at e f1; rw [f1] at e; cases e
    · exact r2 q

/-- the head frame is let go, whatever its dict became -/
theorem St.popBut {f : Frm} {s : Shared} {h' : Heap} (hs : St c ⟨f :: fs, σ, g⟩ s) (hc : f.cl = []) (hsb : Heap.SameBut f.L s.heap h') : St c ⟨fs, σ, g⟩ { s with heap := h' } := by
  have P := hs.pop
  have nd := hs.nd
  rw [List.flatMap_cons] at nd
  have hL : f.L ∉ fs.flatMap Frm.as := fun q => (List.nodup_append.mp nd).2.2 f.L (by simp [Frm.as]) f.L q rfl
  have hk : ∀ b o, b ≠ f.L → s.heap.get? b = some o → h'.get? b = some o := fun b o q e => (hsb.2 b q).trans e
  refine ⟨fun b o e => hk b o (fun q => ?_) (P.keep b o e), fun f' hf => (P.fr f' hf).keeps fun b hb o e => hk b o (fun q => hL (q ▸ List.mem_flatMap.mpr ⟨f', hf, hb⟩)) e, P.nb, P.nd, fun y k cl e => ?_, P.os, P.gens⟩
  · have := hs.nb f (List.mem_cons_self ..) f.L (by simp [Frm.as])
    rw [q, this] at e; cases e
  · obtain ⟨⟨o, ho, ok⟩, r1, r2⟩ := P.own y k cl e
    refine ⟨⟨o, hk y o (fun q => ?_) ho, ok⟩, r1, r2⟩
    obtain ⟨_, _, r3⟩ := hs.own y k cl e
    exact r3 (by rw [List.flatMap_cons]; exact List.mem_append_left _ (by simp [Frm.as, q]))

theorem St.recolour {s : Shared} {x : Addr} {k k' : Nat} {cl : Cell} (hs : St c ⟨fs, σ, g⟩ s) (hx : σ x = some (k, cl)) : St c ⟨fs, upd σ x (some (k', cl)), g⟩ s := by
  refine ⟨hs.keep, hs.fr, hs.nb, hs.nd, fun y k2 cl2 e => ?_, hs.os, hs.gens⟩
  by_cases q : y = x
  · subst q
    dsimp only at e
    rw [upd_self] at e
    cases e
    exact hs.own y k cl hx
  · dsimp only at e
    rw [upd_ne q] at e
    exact hs.own y k2 cl2 e

noncomputable def testsOf (ifs : List Expr) (env : Env) : Sem Bool := forIn ifs true fun c r => if r = true then do let ok ← isTrue c env (eval c env); pure (ForInStep.yield ok) else pure (ForInStep.yield r)
theorem W_tests_nil {Q : Bool → AS → Prop} (h : Q true a) : W c A (testsOf [] env) Q E a := fun s hs => wpAny_tests_nil ⟨_, hs, h⟩
theorem W_tests_one {e : Expr} {Q : Bool → AS → Prop} (h : W c A (isTrue e env (eval e env)) Q E a) : W c A (testsOf [e] env) Q E a := fun s hs => wpAny_tests_one (h s hs)

noncomputable def IterSelf (c : Cx) (A : Around) (cell : Nat → Cell) : Prop := ∀ {it i fs σ g} {Q : Value → AS → Prop} {E : Value → AS → Prop}, σ it = some (9, cell i) → Q (.ref it) ⟨fs, σ, g⟩ → W c A (pyIter (.ref it)) Q E ⟨fs, σ, g⟩

theorem CompK_loop {elt iter : Expr} {px : Pos} {ifs : List Expr} {pos : Pos} {use : Option (Value → Sem Unit)} {it : Addr} {vs : List AV} {src : (Addr → Option (Nat × Cell)) → Prop} {cell : Nat → Cell} {σ₀ σ₁ : Addr → Option (Nat × Cell)} {gs : List (Str × Value)} {Q : Value → AS → Prop}
    (h : CScope sc x gls caps) (hc : CapOk env cl caps) (hg : gs.map (·.1) = gls) (hglob : ∀ p ∈ gs, Glob c p.1 p.2) (hgl : env.globals = mainGlobals) (hbl : env.builtins = builtinsNs)
    (IO : IterOf c A vs k src cell) (IS : IterSelf c A cell) (Cs : List Nat) (h9 : 9 ∉ Cs) (hk : k ∉ Cs) (hk9 : k ≠ 9) (kd : Nat) (J : Nat → List AV → (Addr → Option (Nat × Cell)) → Prop)
    (stab : ∀ i ys σ σ', J i ys σ → Ext [9] σ σ' → J i ys σ') (hit : σ₀ it = none) (e₁ : σ₁ = upd σ₀ it (some (9, cell 0))) (hsrc : src σ₁) (hJ : J 0 [] σ₀)
    (hlen : ∀ i ys σ, J i ys σ → ys.length ≤ 1000000)
    (turn : ∀ C cenv i v σ ys, EnvOk c cenv C [] [x] gs → CapOk cenv cl caps → cenv.globals = mainGlobals → cenv.builtins = builtinsNs → J i ys σ → vs[i]? = some v → src σ → Ext Cs σ₀ σ →
      W c A (testsOf ifs cenv) (fun ok a' => if ok then W c A (eval elt cenv) (fun y a'' => ∃ σ', a'' = ⟨⟨C, [], [x], [some v]⟩ :: fs, σ', g⟩ ∧ Ext Cs σ σ' ∧ J (i + 1) (ys ++ [er y]) σ') (fun _ _ => False) a'
        else ∃ σ', a' = ⟨⟨C, [], [x], [some v]⟩ :: fs, σ', g⟩ ∧ Ext Cs σ σ' ∧ J (i + 1) ys σ') (fun _ _ => False) ⟨⟨C, [], [x], [some v]⟩ :: fs, σ, g⟩)
    (fin : ∀ D C vx ys σ, J vs.length ys σ → Ext Cs σ₀ σ → σ₀ D = none → σ D = some (kd, .list ys) →
      match use with
      | none => Q (.ref D) ⟨fs, σ, g⟩
      | some u => W c A (u (.ref D)) (fun _ a' => ∃ fs', a'.fs = ⟨C, [], [x], vx⟩ :: fs' ∧ Q .none ⟨fs', a'.σ, a'.gens⟩) E ⟨⟨C, [], [x], vx⟩ :: fs, σ, g⟩) :
    CompK c A env elt iter x px ifs sc pos caps use (.ref it) Q E ⟨fs, σ₁, g⟩ := by
  intro s hs
  have hcellN : ∀ y ∈ sc.names, y.2 ≠ NameKind.cell := by
    intro p hp hk
    rw [h.names] at hp
    simp only [List.mem_cons, List.mem_append, List.mem_map] at hp
    rcases hp with rfl | rfl | ⟨y, _, rfl⟩ | ⟨y, hy, rfl⟩ <;> cases hk
  refine wpAny_newObj_type (hd := by size_fits) ?_
  have S1 := hs.alloc (k := 9) (cl := .list []) (o := { cls := .type "list", dict := none, data := .seq ([] : List Value).toArray }) ⟨#[], _, rfl, rfl⟩ rfl
  have fD := hs.fresh
  generalize hD : s.heap.objs.size = D at *
  refine wpAny_newFunctionEnv hcellN (by intro y hy; simp at hy) (fun h₁ hns₁ hsb₁ => ?_) h.kind
  dsimp only at hns₁ hsb₁ ⊢
  have fC := S1.fresh
  have S2 := S1.pushComp (ns := [x]) (vs := [none]) (tk := s.toks + 0) (by simpa using hns₁) (fun b o e => by
      have hb : b ≠ (s.heap.push { cls := .type "list", dict := none, data := .seq ([] : List Value).toArray }).objs.size := Nat.ne_of_lt (Heap.lt_size e)
      exact hsb₁.extBut b o hb (Heap.get?_push_of_some _ e)) (fun y => by unfold gv gv; split <;> rfl)
  dsimp only at fC S2
  generalize hC : (s.heap.push { cls := .type "list", dict := none, data := .seq ([] : List Value).toArray }).objs.size = C at *
  obtain ⟨EO, CO⟩ := h.envOk hc hg hglob hgl hbl (C := C)
  have ne1 : D ≠ it := fun q => by rw [q] at fD; rw [e₁] at fD; simp at fD
  have hσ₀D : σ₀ D = none := by have := fD.1; dsimp only at this; rw [e₁, upd_ne ne1] at this; exact this
  have Ex1 : Ext Cs σ₀ (upd σ₁ D (some (9, .list []))) := by rw [e₁]; exact (Ext.upd_new hit).trans (Ext.upd_new (by rw [upd_ne ne1]; exact hσ₀D))
  have Ex9 : Ext [9] σ₀ (upd σ₁ D (some (9, .list []))) := by rw [e₁]; exact (Ext.upd_new hit).trans (Ext.upd_new (by rw [upd_ne ne1]; exact hσ₀D))
  have loop : ∀ s₂, St c ⟨⟨C, [], [x], [none]⟩ :: fs, upd σ₁ D (some (9, .list [])), g⟩ s₂ → codeAny (model c.prog c.w) A (.compLoop (.ListComp elt [⟨.Name x px, iter, ifs, 0⟩] sc pos) 0 (.ref it) (.ref D) (compEnvC sc (capCells env caps) C env))
      (compPost (model c.prog c.w) A (fun e s' => ∃ a', St c a' s' ∧ E e a') use (fun v s' => ∃ a', St c a' s' ∧ Q v a') (.ref D) C) s₂ := by
    intro s₂ hs₂
    refine codeAny_compLoop_tests (fun n s' => ∃ i ys vx σ, St c ⟨⟨C, [], [x], [vx]⟩ :: fs, σ, g⟩ s' ∧ n + i = vs.length ∧ σ it = some (9, cell i) ∧ σ D = some (9, .list ys) ∧ src σ ∧ J i ys σ ∧ Ext Cs σ₀ σ) ?_ vs.length ?_
    · rintro n s' ⟨i, ys, vx, σ, hS, hn, hci, hcD, hsr, hj, hx⟩
      have off : ∀ z, Ext Cs σ₀ (upd σ it z) := fun z y k' cl' q1 q2 => by
        rw [upd_ne (fun z => by rw [z, hit] at q1; cases q1)]; exact hx y k' cl' q1 q2
      cases n with
      | zero =>
        refine wpAny_mono (IO.fin (fs := ⟨C, [], [x], [vx]⟩ :: fs) (g := g) (Q := fun r a => r = none ∧ a = ⟨⟨C, [], [x], [vx]⟩ :: fs, upd σ it none, g⟩) (E := fun _ _ => False) hci hsr (by omega) (fun σ' e' => ⟨rfl, by rw [e']⟩) s' hS) (fun r s₁ ⟨a', hS1, er, ea⟩ => ?_) fun _ _ ⟨_, _, q⟩ => q.elim
        subst er ea
        have hi : i = vs.length := by omega
        subst hi
        have hcD' : upd σ it none D = some (9, .list ys) := by rw [upd_ne ne1]; exact hcD
        have hS2 := hS1.recolour (k' := kd) hcD'
        have X9 : Ext [9] (upd σ it none) (upd (upd σ it none) D (some (kd, .list ys))) := Ext.upd_own hcD' (by simp)
        have Jf := stab _ _ _ _ (stab _ _ _ _ hj (Ext.upd_own (x := none) hci (by simp))) X9
        have Xf : Ext Cs σ₀ (upd (upd σ it none) D (some (kd, .list ys))) := fun y k' cl' q1 q2 => by
          rw [upd_ne (fun z => by rw [z, hσ₀D] at q1; cases q1)]; exact off none y k' cl' q1 q2
        have F := fin D C [vx] ys _ Jf Xf hσ₀D (by simp)
        have NsC : ∃ m, s₁.heap.Ns C m := by obtain ⟨m, hn, _⟩ := hS2.fr _ (List.mem_cons_self ..); exact ⟨m, hn⟩
        cases use with
        | none =>
          obtain ⟨m, hn⟩ := NsC
          exact ⟨m, hn, fun h' hsb => ⟨_, hS2.popBut rfl hsb, F⟩⟩
        | some u =>
          refine wpAny_mono (F s₁ hS2) (fun _ s'' ⟨a', hS3, fs', e', q⟩ => ?_) fun _ _ e => e
          obtain ⟨fs2, σ2, g2⟩ := a'
          dsimp only at e' q
          subst e'
          obtain ⟨m, hn, _⟩ := hS3.fr _ (List.mem_cons_self ..)
          exact ⟨m, hn, fun h' hsb => ⟨_, hS3.popBut rfl hsb, q⟩⟩
      | succ n =>
        have hi : i < vs.length := by omega
        refine wpAny_mono (IO.item (fs := ⟨C, [], [x], [vx]⟩ :: fs) (g := g) (Q := fun r a => ∃ u, r = some u ∧ er u = vs[i] ∧ a = ⟨⟨C, [], [x], [vx]⟩ :: fs, upd σ it (some (9, cell (i + 1))), g⟩) (E := fun _ _ => False) hci hsr (v := vs[i]) (by simp [hi]) (fun σ' u e' eu => ⟨u, rfl, eu, by rw [e']⟩) s' hS) (fun r s₁ ⟨a', hS1, u, er', eu, ea⟩ => ?_) fun _ _ ⟨_, _, q⟩ => q.elim
        subst er' ea
        have J1 := stab _ _ _ _ hj (Ext.upd_own (x := some (9, cell (i + 1))) hci (by simp))
        have hcD' : upd σ it (some (9, cell (i + 1))) D = some (9, .list ys) := by rw [upd_ne ne1]; exact hcD
        refine wpAny_assign_Name (wpAny_mono (W_storeName (u := u) (vs' := [some (er u)]) (Q := fun _ a => a = ⟨⟨C, [], [x], [some (er u)]⟩ :: fs, upd σ it (some (9, cell (i + 1))), g⟩) (E := fun _ _ => False) EO .here rfl s₁ hS1) (fun _ s₂ ⟨a', hS2, ea⟩ => ?_) fun _ _ ⟨_, _, q⟩ => q.elim)
        subst ea
        rw [eu] at hS2
        refine wpAny_mono (turn C _ i vs[i] _ ys EO CO hgl hbl J1 (by simp [hi]) (IO.keep hsr hci) (off _) s₂ hS2) (fun ok s₃ ⟨a', hS3, q⟩ => ?_) fun _ _ ⟨_, _, q⟩ => q.elim
        cases ok with
        | false =>
          simp only [Bool.false_eq_true, if_false] at q ⊢
          obtain ⟨σ', rfl, x1, x2⟩ := q
          exact ⟨n, by omega, i + 1, ys, _, σ', hS3, by omega, x1 it 9 _ (by simp) h9, x1 D 9 _ hcD' h9, IO.ext hk x1 (IO.keep hsr hci), x2, (off _).trans x1⟩
        | true =>
          simp only [if_true] at q ⊢
          refine wpAny_mono (q s₃ hS3) (fun y s₄ ⟨a', hS4, σ', ea, x1, x2⟩ => ?_) fun _ _ ⟨_, _, q⟩ => q.elim
          subst ea
          have hcD2 : σ' D = some (9, .list ys) := x1 D 9 _ hcD' h9
          have hci2 : σ' it = some (9, cell (i + 1)) := x1 it 9 _ (by simp) h9
          have hl := hlen _ _ _ x2
          refine wpAny_mono (W_append (E := fun _ _ => False) (u := y) (Q := fun _ a => a = ⟨⟨C, [], [x], [some vs[i]]⟩ :: fs, upd σ' D (some (9, .list (ys ++ [er y]))), g⟩) hcD2 (by simp at hl; omega) (fun σ2 e2 => by rw [e2]) s₄ hS4) (fun _ s₅ ⟨a', hS5, ea⟩ => ?_) fun _ _ ⟨_, _, q⟩ => q.elim
          subst ea
          refine ⟨n, by omega, i + 1, _, _, _, hS5, by omega, by rw [upd_ne (Ne.symm ne1)]; exact hci2, by simp, ?_, stab _ _ _ _ x2 (Ext.upd_own hcD2 (by simp)), ?_⟩
          · exact IO.ext (C := [9]) (by simpa using hk9) (Ext.upd_own hcD2 (by simp)) (IO.ext hk x1 (IO.keep hsr hci))
          · exact fun y k' cl' q1 q2 => by
              rw [upd_ne (fun z => by rw [z, hσ₀D] at q1; cases q1)]; exact ((off _).trans x1) y k' cl' q1 q2
    · exact ⟨0, [], none, _, hs₂, by omega, by rw [upd_ne (Ne.symm ne1), e₁]; simp, by simp, IO.ext (C := []) (by simp) (Ext.upd_new fD.1) hsrc, stab _ _ _ _ hJ Ex9, Ex1⟩
  refine codeAny_compStart_list (loop _ S2) (wpAny_mono (IS (i := 0) (Q := fun v a => v = .ref it ∧ a = ⟨⟨C, [], [x], [none]⟩ :: fs, upd σ₁ D (some (9, .list [])), g⟩) (E := fun _ _ => False) (by rw [upd_ne (Ne.symm ne1), e₁]; simp) ⟨rfl, rfl⟩ _ S2) (fun v s' ⟨a', hS, ev, ea⟩ => ?_) fun _ _ ⟨_, _, q⟩ => q.elim)
  subst ev ea
  exact loop _ hS
end
end Mine

namespace Mine
open PySem PySem.W PyProof.Rows PySem.Calls PySem.F

theorem upd_back {σ : Addr → Option (Nat × Cell)} {l : Addr} {x} (h : σ l = none) : upd (upd σ l x) l none = σ := by
  funext y
  by_cases e : y = l
  · subst e; simp [h]
  · simp [upd, e]
theorem upd_upd {σ : Addr → Option (Nat × Cell)} {l : Addr} {x y} : upd (upd σ l x) l y = upd σ l y := by
  funext z
  by_cases e : z = l
  · subst e; simp
  · simp [upd, e]

section
variable {c : Cx} {A : Around} {E : Value → AS → Prop} {a : AS} {env : Env} {fs : List Frm} {σ : Addr → Option (Nat × Cell)} {g : Array GenState} {k : Nat}

/-! iterators that give themselves -/
/-! ranges -/
noncomputable def rangeCell (lo hi : Int) : Cell := .raw fun o => ∃ t u v, o = { cls := .type "range", dict := none, data := .fields #[.int lo t, .int hi u, .int 1 v], slots := #[] }
noncomputable def rangeIt (lo : Int) (n : Nat) (i : Nat) : Cell := .raw fun o => o = { cls := .type "range_iterator", dict := none, data := .fields #[rawInt (lo + i), rawInt ((n : Int) - i), rawInt 1], slots := #[] }
noncomputable def intsFrom (lo : Int) (n : Nat) : List AV := (List.range n).map fun (i : Nat) => AV.int (lo + i)

theorem W_range1 {n : Int} {t : Tok} {Q : Value → AS → Prop} (h : ∀ r, σ r = none → ∀ σ', σ' = upd σ r (some (9, rangeCell 0 n)) → Q (.ref r) ⟨fs, σ', g⟩) : W c A (call (.type "range") [.int n t]) Q E ⟨fs, σ, g⟩ := fun s hs => by
  refine call_range_1 ⟨_, (hs.alloc (k := 9) (cl := rangeCell 0 n) ⟨s.toks, t, s.toks + 1, rfl⟩ rfl).of_eq, h _ hs.fresh.1 _ rfl⟩
theorem W_range2 {m n : Int} {t u : Tok} {Q : Value → AS → Prop} (h : ∀ r, σ r = none → ∀ σ', σ' = upd σ r (some (9, rangeCell m n)) → Q (.ref r) ⟨fs, σ', g⟩) : W c A (call (.type "range") [.int m t, .int n u]) Q E ⟨fs, σ, g⟩ := fun s hs => by
  refine call_range_2 ⟨_, (hs.alloc (k := 9) (cl := rangeCell m n) ⟨t, u, s.toks, rfl⟩ rfl).of_eq, h _ hs.fresh.1 _ rfl⟩
theorem W_iter_range {r : Addr} {m n : Int} {Q : Value → AS → Prop} (hr : σ r = some (k, rangeCell m n)) (h1 : -(2 ^ 62) ≤ m) (h2 : m < 2 ^ 62) (h3 : -(2 ^ 62) ≤ n) (h4 : n < 2 ^ 62)
    (h : ∀ it, σ it = none → ∀ σ', σ' = upd σ it (some (9, rangeIt m (n - m).toNat 0)) → Q (.ref it) ⟨fs, σ', g⟩) : W c A (pyIter (.ref r)) Q E ⟨fs, σ, g⟩ := fun s hs => by
  obtain ⟨⟨o, ho, t, u, v, rfl⟩, _⟩ := hs.own r k _ hr
  refine wpAny_pyIter_range ho (small_one h1 h2 h3 h4) ⟨_, hs.alloc (k := 9) (cl := rangeIt m (n - m).toNat 0) ?_ rfl, h _ hs.fresh.1 _ rfl⟩
  have : Builtin.Range.rangeSize m n 1 = (((n - m).toNat : Nat) : Int) - ((0 : Nat) : Int) := by rw [rangeSize_one]; split <;> omega
  show _ = _
  rw [this]; simp
theorem IterOf.range {lo : Int} {n : Nat} (hh : A.handled = none) : IterOf c A (intsFrom lo n) k (fun _ => True) (rangeIt lo n) where
  item := fun {it i v fs σ g Q E} hit _ hv h s hs => by
    have hi : i < n := by have := (List.getElem?_eq_some_iff.mp hv).1; simpa [intsFrom] using this
    have hv' : v = .int (lo + i) := by simpa [intsFrom, hi] using hv.symm
    subst hv'
    obtain ⟨⟨o, ho, rfl⟩, _⟩ := hs.own it 9 _ hit
    refine wpAny_pyNext_range_item ho (by omega) (fun h' hi' hsb => ?_)
    refine ⟨_, (hs.put hit (fun b o q z => (hsb.2 b q).trans z) hi' (k' := 9) (cl' := rangeIt lo n (i + 1)) ?_).of_eq, h _ _ rfl rfl⟩
    show _ = _
    rw [show lo + (i : Int) + 1 = lo + ((i + 1 : Nat) : Int) by omega, show (n : Int) - (i : Int) - 1 = (n : Int) - ((i + 1 : Nat) : Int) by omega]
  fin := fun {it i fs σ g Q E} hit _ hi h s hs => by
    have hi : i = n := by simpa [intsFrom] using hi
    obtain ⟨⟨o, ho, rfl⟩, _⟩ := hs.own it 9 _ hit
    exact wpAny_pyNext_range_end hh ho (by omega) (fun h' hx => ⟨_, hs.drop hit (fun b o q z => hx b o q z), h _ rfl⟩)
  keep := fun _ _ => trivial
  ext := fun _ _ _ => trivial
  own := fun {target it u i fs σ g Q E} h q => by
    intro s hs
    obtain ⟨⟨o, ho, rfl⟩, _⟩ := hs.own it 9 _ h
    unfold letOwnedTupleGo
    have fin : wpAny (model c.prog c.w) A (do
        let (.ref r, .ref a) := (Value.ref it, u) | return
        let o ← load r
        match o.cls, o.data with
        | .type n, .fields vs =>
          if ["enumerate", "zip", "dict_itemiterator", "dict_reverseitemiterator", "odict_iterator", "itertools.zip_longest", "itertools.pairwise"].contains n && vs[0]? == some (rawInt a) then
            rule "for.unpacks-the-owned-tuple"
            updateField r 0 .none
        | _, _ => pure ()) (fun v s' => ∃ a', St c a' s' ∧ Q v a') (fun e s' => ∃ a', St c a' s' ∧ E e a') s := by
      cases u with
      | ref b =>
        refine wpAny_bind (wpAny_load ho ?_)
        dsimp only
        rw [show (["enumerate", "zip", "dict_itemiterator", "dict_reverseitemiterator", "odict_iterator", "itertools.zip_longest", "itertools.pairwise"].contains "range_iterator") = false by decide]
        exact wpAny_pure ⟨_, hs, q⟩
      | _ => exact wpAny_pure ⟨_, hs, q⟩
    cases target <;> first | exact fin | exact wpAny_pure ⟨_, hs, q⟩
theorem IterSelf.range {lo : Int} {n : Nat} : IterSelf c A (rangeIt lo n) := fun {it i fs σ g Q E} h q s hs => by
  obtain ⟨⟨o, ho, rfl⟩, _⟩ := hs.own it 9 _ h
  exact wpAny_pyIter_rangeiter ho ⟨_, hs, q⟩

/-! unpacking -/
theorem notIterable_starry {l : Addr} {vs : List AV} {Q : Bool → AS → Prop} (h : Starry c a l vs) (q : Q false a) : W c A (notIterableAtAll (.ref l)) Q E a := fun s hs => by
  obtain ⟨T, us, n, o, hT, ho, hc, hd, e⟩ := starry_obj hs h
  unfold notIterableAtAll specialOf
  refine wpAny_bind (wpAny_bind (wpAny_typeOf ⟨_, ho, hc⟩ ?_))
  rcases hT with rfl | rfl
  · rw [PySem.F.slot_list_iter.lookup]; exact wpAny_pure (wpAny_pure ⟨_, hs, q⟩)
  · rw [PySem.F.slot_tuple_iter.lookup]; exact wpAny_pure (wpAny_pure ⟨_, hs, q⟩)

theorem W_draw {vs : List AV} {src : (Addr → Option (Nat × Cell)) → Prop} {cell : Nat → Cell} {it : Addr} (IO : IterOf c A vs k src cell) : ∀ (n i : Nat) (σ : Addr → Option (Nat × Cell)) (Q : List Value → AS → Prop), n + i = vs.length → σ it = some (9, cell i) → src σ →
    (∀ us σ', us.map er = vs.drop i → σ' = upd σ it (some (9, cell vs.length)) → src σ' → Q us ⟨fs, σ', g⟩) → W c A (draw (.ref it) n) Q E ⟨fs, σ, g⟩
  | 0, i, σ, Q, hn, hc, hs, h => by
    have : i = vs.length := by omega
    subst this
    have e : upd σ it (some (9, cell vs.length)) = σ := by funext y; by_cases q : y = it <;> simp [upd, q, hc]
    exact W_pure (h [] σ (by simp) e.symm hs)
  | n + 1, i, σ, Q, hn, hc, hs, h => by
    have hi : i < vs.length := by omega
    unfold draw
    refine W_bind (IO.item hc hs (v := vs[i]) (by simp [hi]) (fun σ' u e eu => ?_))
    subst e
    refine W_bind (W_holding (W_draw IO n (i + 1) _ _ (by omega) (by simp) (IO.keep hs hc) fun us σ' e1 e2 e3 => W_pure (h _ _ ?_ ?_ e3)))
    · rw [List.map_cons, e1, eu]; rw [← List.getElem_cons_drop hi]
    · rw [e2, upd_upd]

theorem W_unpackItems {l : Addr} {vs : List AV} {Q : List Value → AS → Prop} {n : Nat} (hl : Starry c ⟨fs, σ, g⟩ l vs) (hn : vs.length = n) (hh : A.handled = none) (h : ∀ us, us.map er = vs → Q us ⟨fs, σ, g⟩) : W c A (unpackItems (.ref l) n none) Q E ⟨fs, σ, g⟩ := by
  unfold unpackItems
  refine W_bind (notIterable_starry hl ?_)
  simp only [Bool.false_eq_true, if_false]
  obtain ⟨k, hl | hl⟩ := hl <;> dsimp only at hl
  · refine W_bind (W_holding (W_iter_list hl fun it h0 σ' e => ?_))
    subst e
    have hsrc : upd σ it (some (9, iterCell "list_iterator" l 0)) l = some (k, .list vs) := by rw [upd_ne (fun q => by rw [← q, hl] at h0; cases h0)]; exact hl
    refine W_bind (W_holding (W_draw (IterOf.list (k := k) hh) n 0 _ _ (by omega) (by simp) hsrc fun us σ' e1 e2 e3 => ?_))
    have hlen : us.length = n := by have := congrArg List.length e1; simpa [hn] using this
    rw [if_neg (by omega)]
    refine W_bind (W_holding ((IterOf.list (k := k) hh).fin (i := vs.length) (by rw [e2]; simp) e3 rfl fun σ'' e4 => ?_))
    simp only [Option.isSome_none, Bool.false_eq_true, if_false]
    refine W_pure ?_
    rw [e4, e2, upd_upd, upd_back h0]
    exact h us (by simpa using e1)
  · refine W_bind (W_holding (W_iter_tuple hl fun it h0 σ' e => ?_))
    subst e
    have hsrc : upd σ it (some (9, iterCell "tuple_iterator" l 0)) l = some (k, .tuple vs) := by rw [upd_ne (fun q => by rw [← q, hl] at h0; cases h0)]; exact hl
    refine W_bind (W_holding (W_draw (IterOf.tuple (k := k) hh) n 0 _ _ (by omega) (by simp) hsrc fun us σ' e1 e2 e3 => ?_))
    have hlen : us.length = n := by have := congrArg List.length e1; simpa [hn] using this
    rw [if_neg (by omega)]
    refine W_bind (W_holding ((IterOf.tuple (k := k) hh).fin (i := vs.length) (by rw [e2]; simp) e3 rfl fun σ'' e4 => ?_))
    simp only [Option.isSome_none, Bool.false_eq_true, if_false]
    refine W_pure ?_
    rw [e4, e2, upd_upd, upd_back h0]
    exact h us (by simpa using e1)

theorem W_inOrder_nil {us : List Value} {Q : Unit → AS → Prop} (h : Q () a) : W c A (assignInOrder [] us) Q E a := by cases us <;> exact W_pure h
theorem W_inOrder_cons {t : Value → Sem Unit} {ts : List (Value → Sem Unit)} {u : Value} {us : List Value} {Q : Unit → AS → Prop} (h : W c A (t u) (fun _ a₁ => W c A (assignInOrder ts us) Q E a₁) E a) : W c A (assignInOrder (t :: ts) (u :: us)) Q E a :=
  W_bind (W_holding h)
theorem W_assign_Tuple {es : List Expr} {kk : Nat} {p : Pos} {l : Addr} {vs : List AV} {Q : Unit → AS → Prop} (hl : Starry c ⟨fs, σ, g⟩ l vs) (hn : vs.length = (assignEach es env).length) (hh : A.handled = none)
    (h : ∀ us, us.map er = vs → W c A (assignInOrder ((assignEach es env).map (·.2)) us) Q E ⟨fs, σ, g⟩) (hst : (assignEach es env).findIdx? (·.1) = none := by with_unfolding_all rfl) : W c A (assign (.Tuple es kk p) env (.ref l)) Q E ⟨fs, σ, g⟩ := by
  rw [arm_assign_Tuple]
  refine W_bind (W_standAt ?_)
  unfold unpack
  rw [hst]
  exact W_bind (W_holding (W_unpackItems hl hn hh h))

/-! numbers -/
theorem W_floordiv {i j : Int} {t u : Tok} {Q : Value → AS → Prop} (hj : j ≠ 0) (hb : j.natAbs.log2 < 9000) (h : ∀ t, Q (.int (i.fdiv j) t) a) : W c A (binaryOp .FloorDiv (.int i t) (.int j u)) Q E a := fun s hs =>
  AutoIntOps.floordiv_1 (by simpa using hj) (by rw [PyProof.noPylong_of_log2 hb]; simp) ⟨a, hs.of_eq, h _⟩
theorem W_min2 {i j : Int} {t u : Tok} {Q : Value → AS → Prop} (hh : A.handled = none) (h : ∀ t, Q (.int (min i j) t) a) : W c A (call (.builtin "min") [.int i t, .int j u]) Q E a := fun s hs => by
  refine min_two_ints hh fun h' tk hk => ⟨a, (hs.grow hk).of_eq, ?_⟩
  by_cases q : j < i
  · rw [if_pos q]; have := h u; rwa [Int.min_eq_right (by omega)] at this
  · rw [if_neg q]; have := h t; rwa [Int.min_eq_left (by omega)] at this

/-! slices -/
theorem W_slice_from {value lower : Expr} {p pos : Pos} {Q : Value → AS → Prop} (kd : Nat)
    (h : W c A (eval value env) (fun o a₁ => W c A (eval lower env) (fun vl a₂ => ∃ l k vs i t, o = .ref l ∧ vl = .int i t ∧ a₂.σ l = some (k, .list vs) ∧ vs.length ≤ 1000000 ∧ 0 ≤ i ∧ i.toNat ≤ vs.length ∧
      ∀ D, a₂.σ D = none → ∀ σ', σ' = upd a₂.σ D (some (kd, .list (vs.drop i.toNat))) → Q (.ref D) ⟨a₂.fs, σ', a₂.gens⟩) E a₁) E a)
    (ht : ∀ o r, letTemporaryGo value o r = pure () := by intro _ _; with_unfolding_all rfl) : W c A (eval (.Subscript value (.Slice (some lower) none none p) pos) env) Q E a := fun s hs => by
  refine wpAny_Subscript_list_slice (wpAny_mono (h s hs) (fun o s₁ ⟨a₁, h1, q⟩ => ?_) fun _ _ x => x) ht
  show wpAny _ _ (eval lower env) _ _ _
  refine wpAny_mono (q s₁ h1) (fun vl s₂ ⟨a₂, h2, l, k, vs, i, t, e1, e2, hl, hz, h0, hi, q⟩ => ?_) fun _ _ x => x
  rw [show evalPart none env = (pure .none : Sem Value) from rfl]
  refine wpAny_pure ?_
  obtain ⟨us, n, ho, e⟩ := own_list h2 hl
  have hsz := size_of e
  refine ⟨l, us, some i, none, e1, isList_of ho, by rw [hsz]; exact sizeLine_big hz, by rw [e2]; exact .int i t, .none, ?_⟩
  have S1 := h2.grow (h' := s₂.heap.push { cls := .type "slice", data := .fields #[vl, .none, .none] }) fun b o e => Heap.get?_push_of_some _ e
  obtain ⟨j, rfl⟩ := Int.eq_ofNat_of_zero_le h0
  have hp : slicePick us (some (j : Int)) none none = (us.toList.drop j).toArray := slicePick_from us j (by rw [hsz]; simpa using hi)
  rw [hp]
  have := S1.alloc (k := kd) (cl := .list (vs.drop j)) (o := { cls := .type "list", data := .seq (us.toList.drop j).toArray }) ⟨_, 0, rfl, by rw [← e]; simp⟩ rfl
  have hf := S1.fresh.1
  dsimp only at this hf
  rw [Heap.size_push] at this hf
  exact ⟨_, this, q _ hf _ (by simp)⟩

theorem slicePick_to (items : Array Value) (b : Nat) : slicePick items none (some (b : Int)) none = (items.toList.take b).toArray := by
  have e : sliceBounds none (some (b : Int)) none items.size = (((0 : Nat) : Int), ((min b items.size : Nat) : Int), 1) := by
    simp only [sliceBounds, Option.getD_none]
    have h2 : ¬ ((b : Int) < 0) := by omega
    simp only [h2, if_false, show (1 : Int) > 0 by decide, if_true]
    congr 1
    congr 1; omega
  unfold slicePick
  rw [e]
  simp only [sliceRange_one, pick_run]
  congr 1
  simp only [List.drop_zero, Nat.sub_zero]
  rw [List.take_eq_take_iff]; simp

end
end Mine

namespace Mine
open PySem PySem.W PyProof.Rows PySem.Calls PySem.F

section
variable {c : Cx} {A : Around} {E : Value → AS → Prop} {a : AS} {env : Env} {fs : List Frm} {σ : Addr → Option (Nat × Cell)} {g : Array GenState} {k : Nat}

/-! a bound method -/
noncomputable def boundCell (f x : Addr) : Cell := .raw fun o => o = methodObj (.ref f) (.ref x)

structure BindOk (K : Frag) (C : Addr) (name : Str) (f : Addr) : Prop where
  get : plainGet K C name = true
  dict : hasDictIn K C = true
  find : findIn K (.ref C) name = some (some (.ref f))
  fn : isFn K (.ref f) = true
  gf : specialIn K (.ref f) "__get__" = some (some (.builtin "function.__get__"))
  takes : takesIn K (.ref f) = some false
  copied : copiedNames.contains name = false

theorem W_getBound {x C dx f : Addr} {sl : List (Option AV)} {k k' : Nat} {kvs : List (Str × AV)} {name : Str} {e : Bool} {Q : Value → AS → Prop} (hx : σ x = some (k, .inst C dx sl)) (hd : σ dx = some (k', .attrs kvs))
    (hg : BindOk c.K C name f) (hv : name ∉ kvs.map (·.1)) (h : ∀ m, σ m = none → ∀ σ', σ' = upd σ m (some (9, boundCell f x)) → Q (.ref m) ⟨fs, σ', g⟩) : W c A (getAttr (.ref x) name e) Q E ⟨fs, σ, g⟩ := by
  intro s hs
  obtain ⟨ox, es, n, I, _, _, _, hf', _⟩ := inst_at hs hx hd
  have X : c.K.In s.heap := c.inK.keeps hs.keep
  refine get_bind X I (plainGet_of hg.get).1 (findObj_fn hg.dict hg.find hg.gf hg.takes hg.copied (by show lookIn name (dictOf es n) = _; rw [lookIn_dict, getL_none hf' hv])) (plainGet_of hg.get).2
    (wpAny_call (fn_get (s := { s with toks := s.toks + 1 }) X (beq_iff_eq.mp hg.fn) (handed_on rfl ?_)))
  exact ⟨_, (hs.alloc (k := 9) (cl := boundCell f x) rfl rfl).of_eq, h _ hs.fresh.1 _ rfl⟩

theorem Kp.bound {m f x : Addr} {o : Obj} {fd : FuncData} (hm : a.σ m = some (k, boundCell f x)) (ho : c.K.lookup f = some o) (hd : o.data = .func fd) : Kp c (.ref m) a := fun s hs => by
  obtain ⟨⟨om, hom, e⟩, _⟩ := hs.own m k _ hm
  have e' : om = methodObj (.ref f) (.ref x) := e
  subst e'
  have hof := (c.inK.keeps hs.keep) _ _ ho
  refine ⟨.boundFrame, fun A Q E s' kk q => ?_⟩
  unfold keeperOf
  refine wpAny_bind (wpAny_load (kk _ _ hom) ?_)
  show wpAny _ _ (load f >>= _) _ _ _
  refine wpAny_bind (wpAny_load (kk _ _ hof) ?_)
  rw [hd]
  exact wpAny_pure q

theorem Wk_bound {m f x : Addr} {args : List Value} {kw : List (Str × Value)} {R : Result → AS → Prop} (hm : a.σ m = some (k, boundCell f x)) (h : Wk c A (.call (.ref f) ⟨.ref x :: args, kw⟩) R a) : Wk c A (.call (.ref m) ⟨args, kw⟩) R a := fun s hs => by
  obtain ⟨⟨om, hom, e⟩, _⟩ := hs.own m k _ hm
  have e' : om = methodObj (.ref f) (.ref x) := e
  subst e'
  exact method_call hom (h s hs)
/-! is -/
theorem W_is_bool {b b' : Bool} {Q : Value → AS → Prop} (h : Q (.bool (b == b')) a) : W c A (compareOp .Is (.bool b) (.bool b')) Q E a := fun s hs => by
  refine wpAny_is_plain (by cases b <;> cases b' <;> rfl) ⟨a, hs, ?_⟩
  cases b <;> cases b' <;> exact h
theorem W_isnot_bool {b b' : Bool} {Q : Value → AS → Prop} (h : Q (.bool (!(b == b'))) a) : W c A (compareOp .IsNot (.bool b) (.bool b')) Q E a := by
  cases b <;> cases b' <;> exact W_pure h

/-! an item of a thing deleted -/
theorem W_Delete_Sub {o i : Expr} {p pos : Pos} {Q : Flow → AS → Prop} (h : W c A (eval o env) (fun ov a₁ => W c A (eval i env) (fun iv a₂ => W c A (delItem ov iv) (fun _ => Q .next) E a₂) E a₁) E a) : W c A (exec (.Delete [.Subscript o i p] pos) env) Q E a := by
  show W c A (standAt pos >>= _) Q E a
  refine W_bind (W_standAt (W_bind ?_))
  show W c A (delete (.Subscript o i p) env >>= fun _ => pure ()) _ E a
  refine W_bind ?_
  show W c A (eval o env >>= _) _ E a
  refine W_bind (W_mono h (fun ov a₁ q => W_bind (W_holding (W_mono q (fun iv a₂ q => W_bind (W_standAt (W_bind (W_holding (W_mono q (fun _ a₃ q => ?_) fun _ _ x => x))))) fun _ _ x => x))) fun _ _ x => x)
  intro s hs Γ p' hΓ
  rw [Sem.wp_release]
  exact ⟨a₃, hs, W_pure (W_pure q)⟩
theorem W_Call_Sub {o i : Expr} {p pos : Pos} {args : List Expr} {Q : Value → AS → Prop}
    (h : W c A (eval (.Subscript o i p) env) (fun f a₁ => W c A (callWith pos f [] (backTo pos (starEach args env)) []) Q E a₁) E a) : W c A (eval (.Call (.Subscript o i p) args [] pos) env) Q E a := by
  show W c A (eval (.Subscript o i p) env >>= _) Q E a
  exact W_bind h
theorem W_iadd {i j : Int} {t u : Tok} {Q : Value → AS → Prop} (h : ∀ t, Q (.int (i + j) t) a) : W c A (inplaceOp .Add (.int i t) (.int j u)) Q E a := fun s hs => AutoIntOps.iadd_0 ⟨a, hs.of_eq, h _⟩
theorem W_isub {i j : Int} {t u : Tok} {Q : Value → AS → Prop} (h : ∀ t, Q (.int (i - j) t) a) : W c A (inplaceOp .Sub (.int i t) (.int j u)) Q E a := fun s hs => AutoIntOps.isub_0 ⟨a, hs.of_eq, h _⟩
/-! sum -/
theorem preSum_list (l : List Int) : ∀ j, preSum (fun i => l.getD i 0) j = (l.take j).sum := PyProof.Rows.preSum_getD l
theorem W_sum {l : Addr} {is : List Int} {Q : Value → AS → Prop} (hh : A.handled = none) (hl : a.σ l = some (k, .list (is.map AV.int))) (h : ∀ t, Q (.int is.sum t) a) : W c A (call (.builtin "sum") [.ref l]) Q E a := fun s hs => by
  obtain ⟨us, n, ho, e⟩ := own_list hs hl
  have hsz : us.size = is.length := by have := size_of e; simpa using this
  have hlt : l < s.heap.objs.size := Heap.lt_size ho
  refine call_sum_walkG (wpAny_pyIter_list (isList_of ho) ?_)
  refine ⟨_, _, _, us.size, _, _, fun i => is.getD i 0, rfl, Walks.list (A := A.in1) hh s.heap.objs.size l (Nat.ne_of_lt hlt) us, ⟨⟨_, Heap.get?_push_size _ rfl, rfl, rfl⟩, (isList_of ho).push _⟩, ?_, ?_, ?_⟩
  · intro b hb
    dsimp only
    rw [Heap.size_push]
    simp only [List.mem_cons, List.not_mem_nil, or_false] at hb
    rcases hb with rfl | rfl
    · exact Nat.lt_succ_self _
    · exact Nat.lt_succ_of_lt hlt
  · intro i v hv
    have : (us.toList.map er)[i]? = some (er v) := by rw [List.getElem?_map, Array.getElem?_toList, hv]; rfl
    rw [e, List.getElem?_map] at this
    cases q : is[i]? with
    | none => rw [q] at this; cases this
    | some j =>
      rw [q] at this
      obtain ⟨t, ht⟩ := er_int (Option.some.inj this).symm
      exact ⟨t, by rw [ht]; simp [List.getD_eq_getElem?_getD, q]⟩
  · intro h' tk t' kk
    rw [preSum_list, hsz, List.take_length]
    refine ⟨a, (hs.grow (h' := h') fun b o e => kk b o (fun q => ?_) (Heap.get?_push_of_some _ e)).of_eq, h _⟩
    simp only [List.mem_cons, List.not_mem_nil, or_false] at q
    rw [q] at e
    exact absurd (Heap.lt_size e) (Nat.lt_irrefl _)
end
end Mine

namespace Mine
open PySem PySem.W PyProof.Rows PySem.Calls PySem.F

section
variable {c : Cx} {A : Around} {E : Value → AS → Prop} {a : AS} {env : Env} {fs : List Frm} {σ : Addr → Option (Nat × Cell)} {g : Array GenState} {k : Nat}
theorem W_neg {i : Int} {t : Tok} {Q : Value → AS → Prop} (h : ∀ t, Q (.int (-i) t) a) : W c A (unaryOp .USub (.int i t)) Q E a := fun s hs => P.neg_int ⟨a, hs.of_eq, h _⟩
theorem W_truthy_none {Q : Bool → AS → Prop} (h : Q false a) : W c A (truthy .none) Q E a := fun s hs _ _ _ => ⟨a, hs, h⟩
theorem W_Joined1 {v : Expr} {pos : Pos} {Q : Value → AS → Prop} (h : W c A (eval v env) Q E a) : W c A (eval (.JoinedStr [v] pos) env) Q E a := fun s hs => wpAny_JoinedStr_one (h s hs)
theorem IterSelf.dictValues {D : Addr} {n ep : Nat} : IterSelf c A (iterCell4 "dict_valueiterator" D n ep) := fun {it i fs σ g Q E} h q s hs => by
  obtain ⟨⟨o, ho, hc, hd⟩, _⟩ := hs.own it 9 _ h
  exact wpAny_pyIter_valiter (d := D) (i := i) (n := n) (ep := ep) ⟨o, ho, hc, hd⟩ ⟨_, hs, q⟩
theorem CapOk.nil {cl : List (Str × Addr)} (hk : env.scope.kind = .function) : CapOk env cl [] := ⟨hk, fun _ h => by cases h⟩

/-- colours turned -/
noncomputable def recol (f : Nat → Nat) (σ : Addr → Option (Nat × Cell)) : Addr → Option (Nat × Cell) := fun x => (σ x).map fun p => (f p.1, p.2)
theorem St.recol {s : Shared} (f : Nat → Nat) (h : St c ⟨fs, σ, g⟩ s) : St c ⟨fs, recol f σ, g⟩ s :=
  ⟨h.keep, h.fr, h.nb, h.nd, fun x k cl e => by
    obtain ⟨p, h1, h2⟩ := map_some_of e
    cases h2
    exact h.own x p.1 p.2 h1, h.os, h.gens⟩
theorem W_recol {α : Type} {t : Sem α} {Q : α → AS → Prop} (f : Nat → Nat) (h : W c A t Q E ⟨fs, recol f σ, g⟩) : W c A t Q E ⟨fs, σ, g⟩ := fun s hs => h s (hs.recol f)
noncomputable def fk (k n : Nat) : Nat := if n = k then 0 else n
theorem Ext.recolk {C : List Nat} {k : Nat} (h : k ∈ C) : Ext C σ (recol (fk k) σ) := fun x k' cl e n => by
  have : fk k k' = k' := by unfold fk; rw [if_neg (fun (z : k' = k) => n (by rw [z]; exact h))]
  show (σ x).map _ = _
  rw [e]; simp [this]
theorem recolk_at {x : Addr} {k : Nat} {cl : Cell} (h : σ x = some (k, cl)) : recol (fk k) σ x = some (0, cl) := by
  show (σ x).map _ = _
  rw [h]; simp [fk]
theorem recolk_ne {x : Addr} {k k' : Nat} {cl : Cell} (h : σ x = some (k', cl)) (hn : k' ≠ k) : recol (fk k) σ x = some (k', cl) := by
  show (σ x).map _ = _
  rw [h]; simp [fk, hn]

/-! frozen data -/
noncomputable def fz (σ : Addr → Option (Nat × Cell)) : Addr → Option (Nat × Cell) := fun x => match σ x with
  | some (0, cl) => some (0, cl)
  | _ => none
theorem fz_iff {x : Addr} {k : Nat} {cl : Cell} : fz σ x = some (k, cl) ↔ k = 0 ∧ σ x = some (0, cl) := by
  unfold fz
  split
  · rename_i cl' h
    rw [h]; constructor
    · intro e; cases e; exact ⟨rfl, rfl⟩
    · rintro ⟨rfl, e⟩; exact e
  · rename_i h
    constructor
    · intro e; cases e
    · rintro ⟨rfl, e⟩; exact absurd e (h cl)
noncomputable def Dz (σ : Addr → Option (Nat × Cell)) (v : AV) (d : PyData) : Prop := RdV (fz σ) v d
noncomputable def DzL (σ : Addr → Option (Nat × Cell)) (v : List AV) (d : List PyData) : Prop := RdL (fz σ) v d
theorem fz_ext {C : List Nat} {σ' : Addr → Option (Nat × Cell)} (e : Ext C σ σ') (h0 : 0 ∉ C) : Ext [] (fz σ) (fz σ') := fun x k cl h _ => by
  obtain ⟨rfl, h1⟩ := fz_iff.mp h
  exact fz_iff.mpr ⟨rfl, e _ _ _ h1 h0⟩
theorem Dz.ext {C : List Nat} {σ' : Addr → Option (Nat × Cell)} {v : AV} {d : PyData} (h : Dz σ v d) (e : Ext C σ σ') (h0 : 0 ∉ C) : Dz σ' v d := RdV.ext (fz_ext e h0) h
theorem DzL.ext {C : List Nat} {σ' : Addr → Option (Nat × Cell)} {v : List AV} {d : List PyData} (h : DzL σ v d) (e : Ext C σ σ') (h0 : 0 ∉ C) : DzL σ' v d := RdL.ext (fz_ext e h0) h
theorem Dz.rd {v : AV} {d : PyData} (h : Dz σ v d) : RdV σ v d := RdV.ext (fun x k cl h _ => (fz_iff.mp h).1 ▸ (fz_iff.mp h).2) h
theorem Dz.int {i : Int} : Dz σ (.int i) (.int i) := RdV.int
theorem Dz.list {l : Addr} {vs : List AV} {ds : List PyData} (h : σ l = some (0, .list vs)) (q : DzL σ vs ds) : Dz σ (.ref l) (.list ds) := RdV.list (fz_iff.mpr ⟨rfl, h⟩) q
theorem Dz.tuple {l : Addr} {vs : List AV} {ds : List PyData} (h : σ l = some (0, .tuple vs)) (q : DzL σ vs ds) : Dz σ (.ref l) (.tuple ds) := RdV.tuple (fz_iff.mpr ⟨rfl, h⟩) q
theorem DzL.nil : DzL σ [] [] := RdL.nil
theorem DzL.cons {v : AV} {vs : List AV} {d : PyData} {ds : List PyData} (h : Dz σ v d) (q : DzL σ vs ds) : DzL σ (v :: vs) (d :: ds) := RdL.cons h q
theorem Dz.list_inv {l : Addr} {ds : List PyData} (h : Dz σ (.ref l) (.list ds)) : ∃ vs, σ l = some (0, .list vs) ∧ DzL σ vs ds := by
  unfold Dz at h
  cases h with
  | list e r => exact ⟨_, (fz_iff.mp e).2, r⟩
theorem Dz.tuple_inv {l : Addr} {ds : List PyData} (h : Dz σ (.ref l) (.tuple ds)) : ∃ vs, σ l = some (0, .tuple vs) ∧ DzL σ vs ds := by
  unfold Dz at h
  cases h with
  | tuple e r => exact ⟨_, (fz_iff.mp e).2, r⟩
theorem Dz.list_ref {v : AV} {ds : List PyData} (h : Dz σ v (.list ds)) : ∃ l, v = .ref l := by
  unfold Dz at h
  cases h with
  | list e r => exact ⟨_, rfl⟩
theorem Dz.int_inv {v : AV} {i : Int} (h : Dz σ v (.int i)) : v = .int i := by
  unfold Dz at h
  cases h with
  | int => rfl
theorem DzL.len {vs : List AV} {ds : List PyData} (h : DzL σ vs ds) : vs.length = ds.length := by
  unfold DzL at h
  induction ds generalizing vs with
  | nil => cases h; rfl
  | cons d ds ih => cases h with | cons a b => simp [ih b]
theorem DzL.at_ {vs : List AV} {ds : List PyData} {i : Nat} {d : PyData} (h : DzL σ vs ds) (hd : ds[i]? = some d) : ∃ v, vs[i]? = some v ∧ Dz σ v d := by
  unfold DzL at h
  induction ds generalizing vs i with
  | nil => simp at hd
  | cons d' ds ih =>
    cases h with
    | cons a b =>
      cases i with
      | zero => simp only [List.getElem?_cons_zero, Option.some.injEq] at hd; subst hd; exact ⟨_, rfl, a⟩
      | succ i => exact ih (i := i) b hd
theorem DzL.ints_inv {vs : List AV} {is : List Int} (h : DzL σ vs (is.map PyData.int)) : vs = is.map AV.int := by
  unfold DzL at h
  induction is generalizing vs with
  | nil => cases h; rfl
  | cons d ds ih => cases h with | cons a b => rw [Dz.int_inv (σ := σ) a, ih b]; rfl
theorem DzL.append {vs vs' : List AV} {ds ds' : List PyData} (h : DzL σ vs ds) (h' : DzL σ vs' ds') : DzL σ (vs ++ vs') (ds ++ ds') := by
  unfold DzL at h
  induction ds generalizing vs with
  | nil => cases h; exact h'
  | cons d ds ih => cases h with | cons a b => exact RdL.cons a (ih b)
/-- a row of ints at its place -/
theorem DzL.row {vs : List AV} {rs : List (List Int)} {i : Nat} {r : List Int} (h : DzL σ vs (rs.map fun r => .list (r.map .int))) (hr : rs[i]? = some r) : ∃ l, vs[i]? = some (.ref l) ∧ σ l = some (0, .list (r.map AV.int)) := by
  obtain ⟨v, hv, hd⟩ := h.at_ (i := i) (d := .list (r.map .int)) (by rw [List.getElem?_map, hr]; rfl)
  obtain ⟨l, rfl⟩ := hd.list_ref
  obtain ⟨ws, h1, h2⟩ := hd.list_inv
  rw [h2.ints_inv] at h1
  exact ⟨l, hv, h1⟩
theorem DzL.ints {is : List Int} : DzL σ (is.map AV.int) (is.map PyData.int) := by
  induction is with
  | nil => exact .nil
  | cons i is ih => exact .cons .int ih
end
end Mine

namespace Mine
open PySem PySem.W PyProof.Rows PySem.Calls PySem.F

/-! the same rules with what is wanted behind a step kept under a name -/

structure Nx (c : Cx) (A : Around) (rest : List Stmt) (env : Env) (Q : Flow → AS → Prop) (E : Value → AS → Prop) (P : Flow → AS → Prop) : Prop where
  nx : ∀ a, W c A (execs rest env) Q E a → P .next a
  br : ∀ a, Q .brk a → P .brk a
  co : ∀ a, Q .cont a → P .cont a
  re : ∀ v a, Q (.ret v) a → P (.ret v) a

/-- a def's end -/
structure Fx (fs : List Frm) (Q : Value → AS → Prop) (P : Flow → AS → Prop) : Prop where
  nx : ∀ f σ g, Q .none ⟨fs, σ, g⟩ → P .next ⟨f :: fs, σ, g⟩
  re : ∀ v f σ g, Q v ⟨fs, σ, g⟩ → P (.ret v) ⟨f :: fs, σ, g⟩

/-- an exception leaves a def -/
structure Ux (L : Addr) (fs : List Frm) (E P : Value → AS → Prop) : Prop where
  ex : ∀ e t cls args tb cl ns vs σ g, Exc σ e t cls args tb → (∀ σ' T, Ext [8] σ σ' → Exc σ' e t cls args (some T) → E (.ref e) ⟨fs, σ', g⟩) → P (.ref e) ⟨⟨L, cl, ns, vs⟩ :: fs, σ, g⟩

/-- a turn's end -/
structure Lx (L : Addr) (cl : List (Str × Addr)) (ns : List Str) (fs : List Frm) (g : Array GenState) (C : List Nat) (σ : Addr → Option (Nat × Cell)) (J : List (Option AV) → (Addr → Option (Nat × Cell)) → Prop) (R : Result → AS → Prop) (P : Flow → AS → Prop) : Prop where
  nx : ∀ vv σ', Ext C σ σ' → J vv σ' → P .next ⟨⟨L, cl, ns, vv⟩ :: fs, σ', g⟩
  co : ∀ vv σ', Ext C σ σ' → J vv σ' → P .cont ⟨⟨L, cl, ns, vv⟩ :: fs, σ', g⟩
  br : ∀ a, R (.ok .next) a → P .brk a
  re : ∀ v a, R (.ok (.ret v)) a → P (.ret v) a

structure Wx (I : AS → Prop) (Q : Flow → AS → Prop) (P : Flow → AS → Prop) : Prop where
  nx : ∀ a, I a → P .next a
  co : ∀ a, I a → P .cont a
  br : ∀ a, Q .next a → P .brk a
  re : ∀ v a, Q (.ret v) a → P (.ret v) a

section
variable {c : Cx} {A : Around} {E : Value → AS → Prop} {a : AS} {env : Env} {fs : List Frm} {σ : Addr → Option (Nat × Cell)} {g : Array GenState} {k : Nat} {d : Nat}

theorem W_consG {st : Stmt} {rest : List Stmt} {Q : Flow → AS → Prop} (h : ∀ P, Nx c A rest env Q E P → W c A (exec st env) P E a) : W c A (execs (st :: rest) env) Q E a :=
  W_cons (h _ ⟨fun _ h => h, fun _ h => h, fun _ h => h, fun _ _ h => h⟩)
theorem W_cutG {t : Sem Flow} {Q : Flow → AS → Prop} (P : Flow → AS → Prop) (h1 : ∀ P', (∀ f a', P f a' → P' f a') → W c A t P' E a) (h2 : ∀ f a', P f a' → Q f a') : W c A t Q E a :=
  W_mono (h1 P fun _ _ h => h) h2 (fun _ _ x => x)
theorem W_cutV {α : Type} {t : Sem α} {Q : α → AS → Prop} (P : α → AS → Prop) (h1 : ∀ P', (∀ f a', P f a' → P' f a') → W c A t P' E a) (h2 : ∀ f a', P f a' → Q f a') : W c A t Q E a :=
  W_mono (h1 P fun _ _ h => h) h2 (fun _ _ x => x)
/-- the same where the end is .next alone -/
theorem W_cutN {t : Sem Flow} {Q : Flow → AS → Prop} (P : AS → Prop) (h1 : ∀ P', (∀ a', P a' → P' Flow.next a') → W c A t P' E a) (h2 : ∀ a', P a' → Q .next a') : W c A t Q E a :=
  W_mono (h1 (fun f a' => f = .next ∧ P a') fun _ h => ⟨rfl, h⟩) (fun f a' q => q.1 ▸ h2 a' q.2) (fun _ _ x => x)

theorem Wk_call_GD {K : Frag} {f : Addr} {ps rs ns : List Str} {gs : List (Str × Value)} {args vals : List Value} {us : List AV} {vs : List (Option AV)} {R : Result → AS → Prop}
    (hK : c.K = K) (hf : FnOk K f ps rs (gs.map (·.1))) (hns : ns = ps ++ rs) (hbind : ∀ s : Shared, K.In s.heap → BindsTo s (fdOf K f) ⟨args, []⟩ (ps.zip vals)) (hu : vals.map er = us) (hi : Init ps us rs vs) (hglob : ∀ p ∈ gs, Glob c p.1 p.2) (hA : AOk A fs (d + 1))
    (h : ∀ L env B P X, env.frame = some L → B.handled = none → σ L = none → AOk B (⟨L, [], ns, vs⟩ :: fs) d → (∃ outer, B.frames = some (env :: outer)) → EnvOk c env L [] ns gs → Fx fs (fun v => R (.ok (.ret v))) P → Ux L fs (fun e => R (.error e)) X →
      W c B (execs (bodyOf (fdOf K f)) env) P X ⟨⟨L, [], ns, vs⟩ :: fs, σ, g⟩) :
    Wk c A (.call (.ref f) ⟨args, []⟩) R ⟨fs, σ, g⟩ := by
  refine Wk_call_KD hK hf hns hbind hu hi hglob hA fun L env he hL hA' hE => ?_
  have hfr : env.frame = some L := by rw [he]; rfl
  have ho := hA.head env
  refine h L env _ _ _ hfr hA'.handled hL hA' ho hE ⟨fun _ _ _ q => Pop.mk q, fun _ _ _ _ q => Pop.mk q⟩ ⟨fun e t cls ar tb cl ns' vs' σ1 g1 hx q => ?_⟩
  obtain ⟨outer, ho⟩ := ho
  exact W_leaving (hA'.pop fun f hf => (List.mem_cons.mp hf).elim (fun z => ⟨⟨L, cl, ns', vs'⟩, List.mem_cons_self .., by rw [z]⟩) fun z => ⟨f, List.mem_cons_of_mem _ z, rfl⟩).link ho hfr hx fun σ' T x1 x2 => Pop.mk (q σ' T x1 x2)

theorem Wk_call_G {K : Frag} {f : Addr} {ps rs ns : List Str} {gs : List (Str × Value)} {args : List Value} {us : List AV} {vs : List (Option AV)} {R : Result → AS → Prop}
    (hK : c.K = K) (hf : FnOk K f ps rs (gs.map (·.1))) (hns : ns = ps ++ rs) (hbind : bindArgs (fdOf K f) ⟨args, []⟩ = pure (ps.zip args)) (hu : args.map er = us) (hi : Init ps us rs vs) (hglob : ∀ p ∈ gs, Glob c p.1 p.2) (hA : AOk A fs (d + 1))
    (h : ∀ L env B P X, env.frame = some L → B.handled = none → σ L = none → AOk B (⟨L, [], ns, vs⟩ :: fs) d → (∃ outer, B.frames = some (env :: outer)) → EnvOk c env L [] ns gs → Fx fs (fun v => R (.ok (.ret v))) P → Ux L fs (fun e => R (.error e)) X →
      W c B (execs (bodyOf (fdOf K f)) env) P X ⟨⟨L, [], ns, vs⟩ :: fs, σ, g⟩) :
    Wk c A (.call (.ref f) ⟨args, []⟩) R ⟨fs, σ, g⟩ := Wk_call_GD hK hf hns (fun _ _ => .of_eq hbind) hu hi hglob hA h

theorem W_call_G {K : Frag} {f : Addr} {ps rs ns : List Str} {gs : List (Str × Value)} {args : List Value} {us : List AV} {vs : List (Option AV)} {Q : Value → AS → Prop}
    (hK : c.K = K) (hf : FnOk K f ps rs (gs.map (·.1))) (hns : ns = ps ++ rs) (hbind : bindArgs (fdOf K f) ⟨args, []⟩ = pure (ps.zip args)) (hu : args.map er = us) (hi : Init ps us rs vs) (hglob : ∀ p ∈ gs, Glob c p.1 p.2) (hA : AOk A fs (d + 1))
    (h : ∀ L env B P X, env.frame = some L → B.handled = none → σ L = none → AOk B (⟨L, [], ns, vs⟩ :: fs) d → (∃ outer, B.frames = some (env :: outer)) → EnvOk c env L [] ns gs → Fx fs Q P → Ux L fs E X →
      W c B (execs (bodyOf (fdOf K f)) env) P X ⟨⟨L, [], ns, vs⟩ :: fs, σ, g⟩) :
    W c A (call (.ref f) args) Q E ⟨fs, σ, g⟩ := W_call (Wk_call_G hK hf hns hbind hu hi hglob hA h)

theorem Wk_call_GS {K : Frag} {f : Addr} {ps rs ns : List Str} {gs : List (Str × Value)} {pre rest : List Value} {us : List AV} {vs : Addr → List (Option AV)} {R : Result → AS → Prop}
    (hK : c.K = K) (hf : FnOk K f ps rs (gs.map (·.1))) (hns : ns = ps ++ rs) (hbind : bindArgs (fdOf K f) ⟨pre ++ rest, []⟩ = (do let t ← newTuple rest; pure (ps.zip (pre ++ [t])))) (hu : pre.map er = us)
    (hi : ∀ t, Init ps (us ++ [.ref t]) rs (vs t)) (hglob : ∀ p ∈ gs, Glob c p.1 p.2) (hA : AOk A fs (d + 1)) (hz : rest.length ≤ 1000000)
    (h : ∀ L env t σ' B P X, env.frame = some L → B.handled = none → σ t = none → σ' = upd σ t (some (0, .tuple (rest.map er))) → σ' L = none → AOk B (⟨L, [], ns, vs t⟩ :: fs) d → (∃ outer, B.frames = some (env :: outer)) → EnvOk c env L [] ns gs →
      Fx fs (fun v => R (.ok (.ret v))) P → Ux L fs (fun e => R (.error e)) X → W c B (execs (bodyOf (fdOf K f)) env) P X ⟨⟨L, [], ns, vs t⟩ :: fs, σ', g⟩) :
    Wk c A (.call (.ref f) ⟨pre ++ rest, []⟩) R ⟨fs, σ, g⟩ := by
  refine Wk_call_KS hK hf hns hbind hu hi hglob hA hz fun L env t σ' he ht e1 hL hA' hE => ?_
  have hfr : env.frame = some L := by rw [he]; rfl
  have ho := hA.head env
  refine h L env t σ' _ _ _ hfr hA'.handled ht e1 hL hA' ho hE ⟨fun _ _ _ q => Pop.mk q, fun _ _ _ _ q => Pop.mk q⟩ ⟨fun e t cls ar tb cl ns' vs' σ1 g1 hx q => ?_⟩
  obtain ⟨outer, ho⟩ := ho
  exact W_leaving (hA'.pop fun f hf => (List.mem_cons.mp hf).elim (fun z => ⟨⟨L, cl, ns', vs'⟩, List.mem_cons_self .., by rw [z]⟩) fun z => ⟨f, List.mem_cons_of_mem _ z, rfl⟩).link ho hfr hx fun σ' T x1 x2 => Pop.mk (q σ' T x1 x2)

theorem W_call_GC {K : Frag} {f : Addr} {nk : List (Str × Bool)} {ps rs ns : List Str} {gs : List (Str × Value)} {args : List Value} {us : List AV} {vs : List (Option AV)} {Q : Value → AS → Prop}
    (hK : c.K = K) (hf : FnOkC K f nk (gs.map (·.1))) (hnk : nk.map (·.1) = ps ++ rs) (hns : ns = ps ++ rs) (hbind : bindArgs (fdOf K f) ⟨args, []⟩ = pure (ps.zip args)) (hu : args.map er = us) (hi : Init ps us rs vs) (hglob : ∀ p ∈ gs, Glob c p.1 p.2) (hA : AOk A fs (d + 1))
    (h : ∀ L cl env B P X, env.globals = mainGlobals → env.builtins = builtinsNs → env.frame = some L → B.handled = none → σ L = none → AOk B (⟨L, cl, ns, vs⟩ :: fs) d → (∃ outer, B.frames = some (env :: outer)) → EnvOk c env L cl ns gs → CapOk env cl ((nk.filter (·.2)).map (·.1)) → Fx fs Q P → Ux L fs E X →
      W c B (execs (bodyOf (fdOf K f)) env) P X ⟨⟨L, cl, ns, vs⟩ :: fs, σ, g⟩) :
    W c A (call (.ref f) args) Q E ⟨fs, σ, g⟩ := by
  refine W_call_C hK hf hnk hns hbind hu hi hglob hA fun L cl env he hL hA' hE hC => ?_
  have hfr : env.frame = some L := by rw [he]; rfl
  have ho := hA.head env
  refine h L cl env _ _ _ hE.gl hE.bl hfr hA'.handled hL hA' ho hE hC ⟨fun _ _ _ q => Pop.mk q, fun _ _ _ _ q => Pop.mk q⟩ ⟨fun e t cls ar tb cl ns' vs' σ1 g1 hx q => ?_⟩
  obtain ⟨outer, ho⟩ := ho
  exact W_leaving (hA'.pop fun f hf => (List.mem_cons.mp hf).elim (fun z => ⟨⟨L, cl, ns', vs'⟩, List.mem_cons_self .., by rw [z]⟩) fun z => ⟨f, List.mem_cons_of_mem _ z, rfl⟩).link ho hfr hx fun σ' T x1 x2 => Pop.mk (q σ' T x1 x2)

theorem Wk_loopG {L : Addr} {cl : List (Str × Addr)} {ns : List Str} {target : Expr} {it : Addr} {body : List Stmt} {vs : List AV} {src : (Addr → Option (Nat × Cell)) → Prop} {cell : Nat → Cell} {vv₀ : List (Option AV)} {σ₀ σ₁ : Addr → Option (Nat × Cell)} {R : Result → AS → Prop}
    (IO : IterOf c A vs k src cell) (C : List Nat) (h9 : 9 ∉ C) (hk : k ∉ C) (J : Nat → List (Option AV) → (Addr → Option (Nat × Cell)) → Prop)
    (stab : ∀ i vv σ σ', J i vv σ → Ext [9] σ σ' → J i vv σ') (hit : σ₀ it = none) (e₁ : σ₁ = upd σ₀ it (some (9, cell 0))) (hsrc : src σ₁) (hJ : J 0 vv₀ σ₀)
    (turn : ∀ i v vv σ u P X, Lx L cl ns fs g C σ (J (i + 1)) R P → (∀ e a', Noted c A env (fun e a' => R (.error e) a') e a' → X e a') → J i vv σ → vs[i]? = some v → er u = v → src σ → Ext C σ₀ σ →
      W c A (assign target env u) (fun _ a₂ => W c A (execs body env) P X a₂) X ⟨⟨L, cl, ns, vv⟩ :: fs, σ, g⟩)
    (fin : ∀ vv σ, J vs.length vv σ → Ext C σ₀ σ → R (.ok .next) ⟨⟨L, cl, ns, vv⟩ :: fs, σ, g⟩) :
    Wk c A (.forLoop target (.ref it) body [] env) R ⟨⟨L, cl, ns, vv₀⟩ :: fs, σ₁, g⟩ :=
  Wk_loop IO C h9 hk J stab hit e₁ hsrc hJ (fun i v vv σ u hj hv eu hs hx => turn i v vv σ u _ _ ⟨fun vv σ' x j => ⟨vv, σ', rfl, x, j⟩, fun vv σ' x j => ⟨vv, σ', rfl, x, j⟩, fun _ h => h, fun _ _ h => h⟩ (fun _ _ h => h) hj hv eu hs hx) fin

theorem W_WhileG {test : Expr} {body orelse : List Stmt} {pos : Pos} {Q : Flow → AS → Prop} (I : Nat → AS → Prop)
    (turn : ∀ n a P X, Wx (fun a' => ∃ m, m < n ∧ I m a') Q P → (∀ e a', Noted c A env (Came c A env E) e a' → X e a') → I n a →
      W c A (isTrue test env (eval test env)) (fun b a₁ => if b then W c A (execs body env) P X a₁ else W c A (execs orelse env) Q X a₁) X a)
    (n : Nat) (h : I n a) : W c A (exec (.While test body orelse pos) env) Q E a :=
  W_While I (fun n a hI => turn n a _ _ ⟨fun _ h => h, fun _ h => h, fun _ h => h, fun _ _ h => h⟩ (fun _ _ h => h) hI) n h
end
end Mine

namespace Mine
open PySem PySem.W PyProof.Rows PySem.Calls PySem.F PySem.SeqAt

/-! data that may be compared -/
noncomputable def Sh (n : Nat) (d : PyData) : Prop := d.canLay0 = true ∧ d.depth ≤ n
theorem Sh.int {i : Int} {n : Nat} : Sh n (.int i) := ⟨rfl, Nat.zero_le _⟩
theorem Sh.none {n : Nat} : Sh n .none := ⟨rfl, Nat.zero_le _⟩
theorem Sh.all {n : Nat} {ds : List PyData} (h : ∀ d ∈ ds, Sh n d) : PyData.canLayAll0 ds = true ∧ PyData.depthAll ds ≤ n := by
  induction ds with
  | nil => exact ⟨rfl, Nat.zero_le _⟩
  | cons d ds ih =>
    obtain ⟨a, b⟩ := ih fun x hx => h x (List.mem_cons_of_mem _ hx)
    obtain ⟨a', b'⟩ := h d (List.mem_cons_self ..)
    exact ⟨by rw [PyData.canLayAll0, a, a']; rfl, by rw [PyData.depthAll]; exact Nat.max_le.mpr ⟨b', b⟩⟩
theorem Sh.list {n : Nat} {ds : List PyData} (h : ∀ d ∈ ds, Sh n d) : Sh (n + 1) (.list ds) := ⟨(Sh.all h).1, Nat.succ_le_succ (Sh.all h).2⟩
theorem Sh.tuple {n : Nat} {ds : List PyData} (h : ∀ d ∈ ds, Sh n d) : Sh (n + 1) (.tuple ds) := ⟨(Sh.all h).1, Nat.succ_le_succ (Sh.all h).2⟩
theorem Sh.ints {n : Nat} {is : List Int} : ∀ d ∈ is.map PyData.int, Sh n d := fun d hd => by
  obtain ⟨i, _, rfl⟩ := List.mem_map.mp hd
  exact .int
theorem Sh.ok {n : Nat} {d : PyData} (h : Sh n d) (hn : n ≤ 64 := by decide) : shaped d = true := by
  unfold shaped
  rw [h.1, Bool.true_and, decide_eq_true_eq]
  exact Nat.le_trans h.2 hn
theorem eqv_nil {ds : List PyData} : PyData.eqv (.list ds) (.list []) = ds.isEmpty := by
  cases ds <;> rfl
theorem eqv_self {n : Nat} {d : PyData} (h : Sh n d) : PyData.eqv d d = true := PySem.SeqAt.eqv_refl d h.1

theorem RdL.ints {σ : Addr → Option (Nat × Cell)} {is : List Int} : RdL σ (is.map AV.int) (is.map PyData.int) := by
  induction is with
  | nil => exact .nil
  | cons i is ih => exact .cons .int ih
theorem RdL.rows {σ : Addr → Option (Nat × Cell)} {k : Nat} : ∀ {as : List Addr} {rs : List (List Int)}, as.length = rs.length → (∀ (j : Nat) (p : Addr) (r : List Int), as[j]? = some p → rs[j]? = some r → σ p = some (k, .list (r.map AV.int))) →
    RdL σ (as.map AV.ref) (rs.map fun r => .list (r.map .int))
  | [], [], _, _ => .nil
  | a :: as, r :: rs, hl, h => .cons (.list (h 0 a r rfl rfl) RdL.ints) (RdL.rows (by simpa using hl) fun j p q x y => h (j + 1) p q x y)
  | [], _ :: _, h, _ => by simp at h
  | _ :: _, [], h, _ => by simp at h
theorem Sh.rows {rs : List (List Int)} : Sh 2 (.list (rs.map fun r => .list (r.map .int))) := Sh.list fun d hd => by
  obtain ⟨r, _, rfl⟩ := List.mem_map.mp hd
  exact Sh.list Sh.ints
section
variable {c : Cx} {A : Around} {E : Value → AS → Prop} {a : AS} {env : Env} {fs : List Frm} {σ : Addr → Option (Nat × Cell)} {g : Array GenState} {k : Nat} {d : Nat} {L : Addr} {ns : List Str} {gs : List (Str × Value)}

noncomputable def BL (c : Cx) (l : Addr) (vs : List AV) : Prop := ∃ us : Array Value, c.base.IsList l us ∧ us.toList.map er = vs
theorem W_slice_toB {value upper : Expr} {p pos : Pos} {Q : Value → AS → Prop} (kd : Nat)
    (h : W c A (eval value env) (fun o a₁ => W c A (eval upper env) (fun vl a₂ => ∃ l vs i t, o = .ref l ∧ vl = .int i t ∧ BL c l vs ∧ vs.length ≤ 1000000 ∧ 0 ≤ i ∧
      ∀ D, a₂.σ D = none → ∀ σ', σ' = upd a₂.σ D (some (kd, .list (vs.take i.toNat))) → Q (.ref D) ⟨a₂.fs, σ', a₂.gens⟩) E a₁) E a)
    (ht : ∀ o r, letTemporaryGo value o r = pure () := by intro _ _; with_unfolding_all rfl) : W c A (eval (.Subscript value (.Slice none (some upper) none p) pos) env) Q E a := fun s hs => by
  refine wpAny_Subscript_list_slice (wpAny_mono (h s hs) (fun o s₁ ⟨a₁, h1, q⟩ => ?_) fun _ _ x => x) ht
  rw [show evalPart none env = (pure .none : Sem Value) from rfl]
  refine wpAny_pure ?_
  show wpAny _ _ (eval upper env) _ _ _
  refine wpAny_mono (q s₁ h1) (fun vl s₂ ⟨a₂, h2, l, vs, i, t, e1, e2, ⟨us, hl, e⟩, hz, h0, q⟩ => ?_) fun _ _ x => x
  have hsz := size_of e
  obtain ⟨o, ho, hc, n, hd⟩ := hl
  refine ⟨l, us, none, some i, e1, ⟨o, h2.keep _ _ ho, hc, n, hd⟩, by rw [hsz]; exact sizeLine_big hz, .none, by rw [e2]; exact .int i t, ?_⟩
  have S1 := h2.grow (h' := s₂.heap.push { cls := .type "slice", data := .fields #[.none, vl, .none] }) fun b o e => Heap.get?_push_of_some _ e
  obtain ⟨j, rfl⟩ := Int.eq_ofNat_of_zero_le h0
  rw [slicePick_to us j]
  have := S1.alloc (k := kd) (cl := .list (vs.take j)) (o := { cls := .type "list", data := .seq (us.toList.take j).toArray }) ⟨_, 0, rfl, by rw [← e]; simp⟩ rfl
  have hf := S1.fresh.1
  dsimp only at this hf
  rw [Heap.size_push] at this hf
  exact ⟨_, this, q _ hf _ (by simp)⟩

theorem W_Assign_swap3 {x y z : Str} {px py pz q1 q2 q3 tp vp pos : Pos} {kk k' : Nat} {Q : Flow → AS → Prop} (he : EnvOk c env L [] ns gs) (hx : x ∈ ns) (hy : y ∈ ns) (hz : z ∈ ns) (hnd : ([x, y, z].map codeOf).Nodup) (hh : A.handled = none)
    (h : W c A (eval (.Tuple [.List [] q1, .List [] q2, .List [] q3] k' vp) env) (fun v a₁ => ∃ l v1 v2 v3, v = .ref l ∧ Starry c a₁ l [v1, v2, v3] ∧ All v3 (fun u3 => W c A (storeName env z u3) (fun _ a₂ => All v2 (fun u2 => W c A (storeName env y u2) (fun _ a₃ => All v1 (fun u1 => W c A (storeName env x u1) (fun _ => Q .next) E a₃)) E a₂)) E a₁)) E a)
    (hl : (py.line == px.line) = true := by rfl) (hl' : (pz.line == px.line) = true := by rfl) :
    W c A (exec (.Assign [.Tuple [.Name x px, .Name y py, .Name z pz] kk tp] (.Tuple [.List [] q1, .List [] q2, .List [] q3] k' vp) pos) env) Q E a := by
  have kd : ∀ {w}, w ∈ ns → env.kindOf w = some .local := fun hw => by
    rcases (he.var _ hw).2 with ⟨_, q⟩ | ⟨ca, q, _⟩
    · exact q
    · cases q
  have hbk : env.blockKind = .function := by unfold Env.blockKind; rw [he.kind]; rfl
  have n3 := nodup_of_codes hnd
  have nn : x ≠ y ∧ x ≠ z ∧ y ≠ z := by
    simp only [List.nodup_cons, List.mem_cons, List.not_mem_nil, or_false, not_or] at n3
    exact ⟨n3.1.1, n3.1.2, n3.2.1⟩
  have hsw : swappedStores [.Tuple [.Name x px, .Name y py, .Name z pz] kk tp] (.Tuple [.List [] q1, .List [] q2, .List [] q3] k' vp) env = pure (some [x, y, z]) := by
    have b1 : (y == x) = false := beq_eq_false_iff_ne.mpr (Ne.symm nn.1)
    have b2 : (z == x) = false := beq_eq_false_iff_ne.mpr (Ne.symm nn.2.1)
    have b3 : (z == y) = false := beq_eq_false_iff_ne.mpr (Ne.symm nn.2.2)
    have he3 : [x, y, z].eraseDups = [x, y, z] := by
      simp [List.eraseDups, List.eraseDupsBy, List.eraseDupsBy.loop, b1, b2, b3]
    have hnm : [(x, px.line), (y, py.line), (z, pz.line)].filterMap (fun p => if env.kindOf p.1 == some .local && p.2 == px.line then some p.1 else none) = [x, y, z] := by
      simp [kd hx, kd hy, kd hz, beq_iff_eq.mp hl, beq_iff_eq.mp hl']
    have e0 : swappedStores [.Tuple [.Name x px, .Name y py, .Name z pz] kk tp] (.Tuple [.List [] q1, .List [] q2, .List [] q3] k' vp) env =
      (fun (bk : Bool) (nm : List Str) => if bk = true then pure none else if (nm.length != 3 || nm.eraseDups.length != nm.length) = true then pure none else pure (some nm)) (env.blockKind != .function)
        ([(x, px.line), (y, py.line), (z, pz.line)].filterMap (fun p => if env.kindOf p.1 == some .local && p.2 == px.line then some p.1 else none)) := by kernel_rfl
    rw [e0, hnm, hbk]
    dsimp only
    rw [he3]
    rfl
  show W c A (do standAt pos; if ← (pure false : Sem Bool) then _ else do let v ← eval (.Tuple [.List [] q1, .List [] q2, .List [] q3] k' vp) env; assignStores env v (← swappedStores [.Tuple [.Name x px, .Name y py, .Name z pz] kk tp] (.Tuple [.List [] q1, .List [] q2, .List [] q3] k' vp) env) _) Q E a
  rw [hsw]
  refine W_bind (W_standAt (W_bind (W_pure ?_)))
  rw [if_neg Bool.false_ne_true]
  refine W_bind (W_mono h (fun v a₁ q => ?_) fun _ _ x => x)
  obtain ⟨l, v1, v2, v3, rfl, hs, q⟩ := q
  refine W_bind (W_pure (W_bind (W_rule (W_bind ?_))))
  obtain ⟨fs₁, σ₁, g₁⟩ := a₁
  refine W_unpackItems hs rfl hh fun us eu => ?_
  obtain ⟨u1, us, rfl, q1, eu⟩ := List.map_eq_cons_iff.mp eu
  obtain ⟨u2, us, rfl, q2, eu⟩ := List.map_eq_cons_iff.mp eu
  obtain ⟨u3, us, rfl, q3, eu⟩ := List.map_eq_cons_iff.mp eu
  rw [List.map_eq_nil_iff] at eu; subst eu
  refine W_bind ?_
  have bn : ∀ {n : Str} {u : Value} {a : AS} {Q : Unit → AS → Prop}, W c A (storeName env n u) Q E a → W c A (bindName env n u) Q E a := fun h s hs => wpAny_bindName (h s hs)
  refine W_inOrder_cons (bn (W_mono (q.at q3) (fun _ a₂ q => ?_) fun _ _ x => x))
  refine W_inOrder_cons (bn (W_mono (q.at q2) (fun _ a₃ q => ?_) fun _ _ x => x))
  refine W_inOrder_cons (bn (W_mono (q.at q1) (fun _ a₄ q => ?_) fun _ _ x => x))
  exact W_inOrder_nil (W_pure q)
end
end Mine

namespace Mine
open PySem PySem.W PyProof.Rows PySem.Calls

theorem All.ref {a : Addr} {P : Value → Prop} (h : P (.ref a)) : All (.ref a) P := h
theorem All.none {P : Value → Prop} (h : P .none) : All .none P := h
theorem All.int {i : Int} {P : Value → Prop} (h : ∀ t, P (.int i t)) : All (.int i) P := h
theorem Kp.inK {c : Cx} {f : Value} {a : AS} (h : keepIn c.K f = true) : Kp c f a := fun s hs => by
  obtain ⟨k, _, l⟩ := looks_keep (M := model c.prog c.w) h (c.inK.keeps hs.keep)
  exact ⟨k, l⟩

theorem AOk.underMake {A : Around} {fs : List Frm} {d : Nat} {C : Addr} {args : List Value} (h : AOk A fs (d + 1)) : AOk (A.under (.builtin "type.__call__" ⟨.ref C :: args, []⟩)) fs d :=
  h.under (Nat.le_of_ble_eq_true rfl) (Nat.le_of_ble_eq_true rfl) rfl rfl

/-! the sorter's state -/
structure SS where
  keys : List AV
  np : AV → Int
  su : AV → List AV
  ready : Option (List AV)
  npass : Int
  nfin : Int

noncomputable def fset {α : Type} (f : AV → α) (k : AV) (v : α) : AV → α := fun y => if y = k then v else f y
@[simp] theorem fset_self {α : Type} {f : AV → α} {k : AV} {v : α} : fset f k v k = v := by simp [fset]
theorem fset_ne {α : Type} {f : AV → α} {k y : AV} {v : α} (h : y ≠ k) : fset f k v y = f y := by simp [fset, h]


noncomputable def SS.ens (st : SS) (k : AV) : SS := { st with keys := if k ∈ st.keys then st.keys else st.keys ++ [k] }
noncomputable def SS.succ (st : SS) (k p : AV) : SS := { st.ens p with su := fset st.su p (st.su p ++ [k]) }
noncomputable def SS.addN (st : SS) (k : AV) (n : Int) : SS := { st.ens k with np := fset st.np k (st.np k + n) }
noncomputable def SS.add (st : SS) (k : AV) (ps : List AV) : SS := ps.foldl (fun s p => s.succ k p) (st.addN k ps.length)

noncomputable def SS.out (np : AV → Int) (l : List AV) : AV → Int := l.foldl (fun f k => fset f k (-1)) np
noncomputable def SS.getReady (st : SS) (l : List AV) : SS := { st with np := SS.out st.np l, ready := some [], npass := st.npass + l.length }
noncomputable def SS.dec (st : SS) (k : AV) : SS := { st with np := fset st.np k (st.np k - 1), ready := if st.np k - 1 = 0 then some (st.ready.getD [] ++ [k]) else st.ready }
noncomputable def SS.done1 (st : SS) (k : AV) : SS := let s := (st.su k).foldl (fun s p => s.dec p) { st with np := fset st.np k (-2) }; { s with nfin := s.nfin + 1 }
noncomputable def SS.done (st : SS) (l : List AV) : SS := l.foldl SS.done1 st

noncomputable def SS.rl (st : SS) : Nat := (st.ready.getD []).length
theorem SS.dec_rl {st : SS} {k : AV} : (st.dec k).rl ≤ st.rl + 1 := by
  unfold SS.dec SS.rl; dsimp only
  split
  · simp
  · omega
theorem SS.decs_rl : ∀ {l : List AV} {st : SS}, (l.foldl (fun s p => s.dec p) st).rl ≤ st.rl + l.length
  | [], _ => Nat.le_refl _
  | k :: l, st => by
    have := SS.decs_rl (l := l) (st := st.dec k)
    have := SS.dec_rl (st := st) (k := k)
    simp only [List.foldl_cons, List.length_cons]; omega
theorem SS.decs_same : ∀ {l : List AV} {st : SS}, (l.foldl (fun s p => s.dec p) st).keys = st.keys ∧ (l.foldl (fun s p => s.dec p) st).su = st.su ∧ ((l.foldl (fun s p => s.dec p) st).ready.isSome = st.ready.isSome ∨ (l.foldl (fun s p => s.dec p) st).ready.isSome = true) ∧ (l.foldl (fun s p => s.dec p) st).npass = st.npass ∧ (l.foldl (fun s p => s.dec p) st).nfin = st.nfin
  | [], _ => ⟨rfl, rfl, .inl rfl, rfl, rfl⟩
  | k :: l, st => by
    obtain ⟨h1, h2, h3, h4, h5⟩ := SS.decs_same (l := l) (st := st.dec k)
    simp only [List.foldl_cons]
    refine ⟨h1, h2, ?_, h4, h5⟩
    rcases h3 with h3 | h3
    · by_cases q : st.np k - 1 = 0
      · right; rw [h3]; simp [SS.dec, q]
      · left; rw [h3]; simp [SS.dec, q]
    · exact .inr h3
theorem SS.done1_same {st : SS} {k : AV} : (st.done1 k).keys = st.keys ∧ (st.done1 k).su = st.su ∧ (st.ready.isSome = true → (st.done1 k).ready.isSome = true) ∧ (st.done1 k).npass = st.npass ∧ (st.done1 k).nfin = st.nfin + 1 ∧ (st.done1 k).rl ≤ st.rl + (st.su k).length := by
  obtain ⟨h1, h2, h3, h4, h5⟩ := SS.decs_same (l := st.su k) (st := { st with np := fset st.np k (-2) })
  refine ⟨h1, h2, fun q => ?_, h4, ?_, SS.decs_rl (l := st.su k) (st := { st with np := fset st.np k (-2) })⟩
  · rcases h3 with h3 | h3
    · exact h3.trans q
    · exact h3
  · unfold SS.done1; dsimp only; rw [h5]
theorem SS.done_same {N : Nat} : ∀ {l : List AV} {st : SS}, (∀ k, (st.su k).length ≤ N) → (st.done l).keys = st.keys ∧ (st.done l).su = st.su ∧ (st.ready.isSome = true → (st.done l).ready.isSome = true) ∧ (st.done l).npass = st.npass ∧ (st.done l).nfin = st.nfin + l.length ∧ (st.done l).rl ≤ st.rl + N * l.length
  | [], _, _ => ⟨rfl, rfl, id, rfl, by simp [SS.done], by simp [SS.done]⟩
  | k :: l, st, hN => by
    obtain ⟨a1, a2, a3, a4, a5, a6⟩ := SS.done1_same (st := st) (k := k)
    obtain ⟨h1, h2, h3, h4, h5, h6⟩ := SS.done_same (l := l) (st := st.done1 k) (N := N) (by rw [a2]; exact hN)
    have e : st.done (k :: l) = (st.done1 k).done l := rfl
    have hk := hN k
    refine ⟨by rw [e, h1, a1], by rw [e, h2, a2], fun q => by rw [e]; exact h3 (a3 q), by rw [e, h4, a4], by rw [e, h5, a5, List.length_cons]; omega, ?_⟩
    rw [e, List.length_cons, Nat.mul_succ]; omega
theorem SS.done_snoc {l : List AV} {k : AV} {st : SS} : st.done (l ++ [k]) = (st.done l).done1 k := by unfold SS.done; rw [List.foldl_append]; rfl

structure SS.Fit (st : SS) (N : Nat) : Prop where
  keys : st.keys.length ≤ N
  su : ∀ k, (st.su k).length ≤ N

theorem SS.Fit.mono {st : SS} {N M : Nat} (h : st.Fit N) (hm : N ≤ M) : st.Fit M := ⟨Nat.le_trans h.keys hm, fun k => Nat.le_trans (h.su k) hm⟩
theorem SS.ens_len {st : SS} {k : AV} : (st.ens k).keys.length ≤ st.keys.length + 1 := by
  unfold SS.ens; dsimp only; split <;> simp
theorem SS.Fit.addN {st : SS} {N : Nat} {k : AV} {n : Int} (h : st.Fit N) : (st.addN k n).Fit (N + 1) :=
  ⟨Nat.le_trans SS.ens_len (Nat.succ_le_succ h.keys), fun k => Nat.le_succ_of_le (h.su k)⟩
theorem SS.Fit.succ {st : SS} {N : Nat} {k p : AV} (h : st.Fit N) : (st.succ k p).Fit (N + 1) :=
  ⟨Nat.le_trans SS.ens_len (Nat.succ_le_succ h.keys), fun q => by
    show (fset st.su p (st.su p ++ [k]) q).length ≤ _
    by_cases e : q = p
    · subst e; rw [fset_self, List.length_append]; exact Nat.succ_le_succ (h.su q)
    · rw [fset_ne e]; exact Nat.le_succ_of_le (h.su q)⟩
theorem SS.Fit.succs {k : AV} : ∀ {ps : List AV} {st : SS} {N : Nat}, st.Fit N → (ps.foldl (fun s p => s.succ k p) st).Fit (N + ps.length)
  | [], _, _, h => h
  | p :: ps, st, N, h => by
    have := SS.Fit.succs (k := k) (ps := ps) (h.succ (k := k) (p := p))
    simpa [Nat.add_assoc, Nat.add_comm 1] using this
theorem SS.Fit.add {st : SS} {N : Nat} {k : AV} {ps : List AV} (h : st.Fit N) : (st.add k ps).Fit (N + 1 + ps.length) := h.addN.succs

structure NAd where
  i : Addr
  d : Addr
  s : Addr

noncomputable abbrev CNI : Addr := 40
noncomputable abbrev CTS : Addr := 137

structure NdAt (σ : Addr → Option (Nat × Cell)) (p : NAd) (k : AV) (n : Int) (su : List AV) : Prop where
  i : σ p.i = some (1, .inst CNI p.d [some k, some (.int n), some (.ref p.s)])
  d : σ p.d = some (1, .attrs [])
  s : σ p.s = some (2, .list su)

@[reducible] noncomputable def sAttrs (nd : Addr) (rv : AV) (st : SS) : List (Str × AV) := [("_node2info", .ref nd), ("_ready_nodes", rv), ("_npassedout", .int st.npass), ("_nfinished", .int st.nfin)]

noncomputable def RdyAt (σ : Addr → Option (Nat × Cell)) (rv : AV) (r : Option (List AV)) : Prop := match r with
  | none => rv = .none
  | some l => ∃ b, rv = .ref b ∧ σ b = some (1, .list l)

structure SAt (σ : Addr → Option (Nat × Cell)) (x : Addr) (st : SS) (dx nd : Addr) (rv : AV) (as : List NAd) (ep : Nat) : Prop where
  x : σ x = some (1, .inst CTS dx [])
  dx : σ dx = some (1, .attrs (sAttrs nd rv st))
  nd : σ nd = some (1, .dict (st.keys.zip (as.map fun p => AV.ref p.i)) ep)
  len : as.length = st.keys.length
  nds : ∀ (j : Nat) (p : NAd) (k : AV), as[j]? = some p → st.keys[j]? = some k → NdAt σ p k (st.np k) (st.su k)
  rdy : RdyAt σ rv st.ready
  ni : (as.map (·.i)).Nodup
  nsu : (as.map (·.s)).Nodup
  key : ∀ k ∈ st.keys, k.isKey = true
  knd : st.keys.Nodup
  dflt : ∀ k, k ∉ st.keys → st.np k = 0 ∧ st.su k = []

theorem nodup_idx {α β : Type} {f : α → β} {l : List α} (h : (l.map f).Nodup) {i j : Nat} {a b : α} (ha : l[i]? = some a) (hb : l[j]? = some b) (e : f a = f b) : i = j := by
  obtain ⟨hi, ha⟩ := List.getElem?_eq_some_iff.mp ha
  obtain ⟨hj, hb⟩ := List.getElem?_eq_some_iff.mp hb
  have h' := List.pairwise_iff_getElem.mp h
  rcases Nat.lt_trichotomy i j with q | q | q
  · exact (h' i j (by simpa using hi) (by simpa using hj) q (by simp [ha, hb, e])).elim
  · exact q
  · exact (h' j i (by simpa using hj) (by simpa using hi) q (by simp [ha, hb, e])).elim
theorem nodup_idx' {α : Type} {l : List α} (h : l.Nodup) {i j : Nat} {a : α} (ha : l[i]? = some a) (hb : l[j]? = some a) : i = j :=
  nodup_idx (f := id) (by simpa using h) ha hb rfl

theorem dget_zip : ∀ {ks vs : List AV} {j : Nat} {k v : AV}, ks.Nodup → ks[j]? = some k → vs[j]? = some v → dget (ks.zip vs) k = some v
  | a :: ks, b :: vs, 0, k, v, _, h1, h2 => by
    simp only [List.getElem?_cons_zero, Option.some.injEq] at h1 h2
    subst h1 h2; simp [dget]
  | a :: ks, b :: vs, j + 1, k, v, hd, h1, h2 => by
    simp only [List.getElem?_cons_succ] at h1 h2
    have hm := List.mem_of_getElem? h1
    have hne : a ≠ k := fun e => (List.nodup_cons.mp hd).1 (e ▸ hm)
    have := dget_zip (List.nodup_cons.mp hd).2 h1 h2
    simpa [dget, hne] using this
  | [], _, _, _, _, _, h, _ => by simp at h
  | _ :: _, [], _, _, _, _, _, h => by simp at h
theorem dget_zip_none : ∀ {ks vs : List AV} {k : AV}, k ∉ ks → dget (ks.zip vs) k = none
  | a :: ks, b :: vs, k, h => by
    simp only [List.mem_cons, not_or] at h
    have := dget_zip_none (vs := vs) h.2
    simpa [dget, Ne.symm h.1] using this
  | [], _, _, _ => by simp [dget]
  | _ :: _, [], _, _ => by simp [dget]
theorem dset_zip {ks vs : List AV} {k v : AV} (hl : ks.length = vs.length) (h : k ∉ ks) : dset (ks.zip vs) k v = (ks ++ [k]).zip (vs ++ [v]) := by
  have : (ks.zip vs).any (fun p => p.1 = k) = false := by
    rw [List.any_eq_false]
    intro p hp
    have := (List.of_mem_zip hp).1
    simp only [decide_eq_true_eq]
    exact fun e => h (e ▸ this)
  unfold dset
  rw [this, List.zip_append hl]
  simp

section
variable {σ σ' : Addr → Option (Nat × Cell)} {x dx nd : Addr} {rv : AV} {as : List NAd} {ep : Nat} {st : SS}

theorem NdAt.ext {C : List Nat} {p : NAd} {k : AV} {n : Int} {su : List AV} (h : NdAt σ p k n su) (e : Ext C σ σ') (h1 : 1 ∉ C) (h2 : 2 ∉ C) : NdAt σ' p k n su := ⟨e _ _ _ h.i h1, e _ _ _ h.d h1, e _ _ _ h.s h2⟩
theorem RdyAt.ext {C : List Nat} {r : Option (List AV)} (h : RdyAt σ rv r) (e : Ext C σ σ') (h1 : 1 ∉ C) : RdyAt σ' rv r := by
  cases r with
  | none => exact h
  | some l => obtain ⟨b, h2, h3⟩ := h; exact ⟨b, h2, e _ _ _ h3 h1⟩
theorem SAt.ext {C : List Nat} (h : SAt σ x st dx nd rv as ep) (e : Ext C σ σ') (h1 : 1 ∉ C) (h2 : 2 ∉ C) : SAt σ' x st dx nd rv as ep :=
  ⟨e _ _ _ h.x h1, e _ _ _ h.dx h1, e _ _ _ h.nd h1, h.len, fun j p k a b => (h.nds j p k a b).ext e h1 h2, h.rdy.ext e h1, h.ni, h.nsu, h.key, h.knd, h.dflt⟩

theorem SAt.find (h : SAt σ x st dx nd rv as ep) {k : AV} (hk : k ∈ st.keys) : ∃ (j : Nat) (p : NAd), st.keys[j]? = some k ∧ as[j]? = some p ∧ dget (st.keys.zip (as.map fun p => AV.ref p.i)) k = some (.ref p.i) := by
  obtain ⟨j, hj, e⟩ := List.mem_iff_getElem.mp hk
  have hj' : j < as.length := by rw [h.len]; exact hj
  refine ⟨j, as[j], by simp [hj, e], by simp [hj'], dget_zip h.knd (j := j) (by simp [hj, e]) (by simp [hj'])⟩
theorem SAt.find_none (h : SAt σ x st dx nd rv as ep) {k : AV} (hk : k ∉ st.keys) : dget (st.keys.zip (as.map fun p => AV.ref p.i)) k = none := dget_zip_none hk

/-- a node's count changed -/
theorem SAt.setNp (h : SAt σ x st dx nd rv as ep) {j : Nat} {p : NAd} {k : AV} {n : Int} (hk : st.keys[j]? = some k) (hp : as[j]? = some p) :
    SAt (upd σ p.i (some (1, .inst CNI p.d [some k, some (.int n), some (.ref p.s)]))) x { st with np := fset st.np k n } dx nd rv as ep := by
  have N := h.nds j p k hp hk
  have ne : ∀ {y c' cl}, σ y = some (c', cl) → (∀ d sl, cl ≠ .inst CNI d sl) → y ≠ p.i := fun {y c' cl} e q z => by rw [z, N.i] at e; cases e; exact q _ _ rfl
  have nx : x ≠ p.i := fun z => by have := h.x; rw [z, N.i] at this; cases this
  refine ⟨by rw [upd_ne nx]; exact h.x, by rw [upd_ne (ne h.dx (by intro _ _ q; cases q))]; exact h.dx, by rw [upd_ne (ne h.nd (by intro _ _ q; cases q))]; exact h.nd, h.len, fun j' p' k' a b => ?_, ?_, h.ni, h.nsu, h.key, h.knd, fun k' hk' => ?_⟩
  · have N' := h.nds j' p' k' a b
    have hd := ne N'.d (by intro _ _ q; cases q)
    have hs := ne N'.s (by intro _ _ q; cases q)
    by_cases e : p'.i = p.i
    · have := nodup_idx h.ni a hp e
      subst this
      rw [hp] at a; cases a
      rw [hk] at b; cases b
      exact ⟨by simp, by rw [upd_ne hd]; exact N.d, by rw [upd_ne hs]; exact N.s⟩
    · have hkk : k' ≠ k := fun z => e (by
        subst z
        have := nodup_idx' h.knd hk b
        subst this
        rw [hp] at a; cases a; rfl)
      refine ⟨by rw [upd_ne e]; dsimp only; rw [fset_ne hkk]; exact N'.i, by rw [upd_ne hd]; exact N'.d, by rw [upd_ne hs]; exact N'.s⟩
  · have := h.rdy
    dsimp only
    cases q : st.ready with
    | none => rw [q] at this; exact this
    | some l =>
      rw [q] at this
      obtain ⟨b, h2, h3⟩ := this
      exact ⟨b, h2, by rw [upd_ne (ne h3 (by intro _ _ q; cases q))]; exact h3⟩
  · have hne : k' ≠ k := fun z => hk' (by rw [z]; exact List.mem_of_getElem? hk)
    dsimp only
    rw [fset_ne hne]; exact h.dflt k' hk'

/-- a node's successors changed -/
theorem SAt.setSu (h : SAt σ x st dx nd rv as ep) {j : Nat} {p : NAd} {k : AV} {su : List AV} (hk : st.keys[j]? = some k) (hp : as[j]? = some p) :
    SAt (upd σ p.s (some (2, .list su))) x { st with su := fset st.su k su } dx nd rv as ep := by
  have N := h.nds j p k hp hk
  have ne : ∀ {y cl}, σ y = some (1, cl) → y ≠ p.s := fun {y cl} e z => by rw [z, N.s] at e; cases e
  refine ⟨by rw [upd_ne (ne h.x)]; exact h.x, by rw [upd_ne (ne h.dx)]; exact h.dx, by rw [upd_ne (ne h.nd)]; exact h.nd, h.len, fun j' p' k' a b => ?_, ?_, h.ni, h.nsu, h.key, h.knd, fun k' hk' => ?_⟩
  · have N' := h.nds j' p' k' a b
    have hd := ne N'.d
    have hi := ne N'.i
    by_cases e : p'.s = p.s
    · have := nodup_idx h.nsu a hp e
      subst this
      rw [hp] at a; cases a
      rw [hk] at b; cases b
      exact ⟨by rw [upd_ne hi]; exact N.i, by rw [upd_ne hd]; exact N.d, by simp⟩
    · have hkk : k' ≠ k := fun z => e (by
        subst z
        have := nodup_idx' h.knd hk b
        subst this
        rw [hp] at a; cases a; rfl)
      refine ⟨by rw [upd_ne hi]; exact N'.i, by rw [upd_ne hd]; exact N'.d, by rw [upd_ne e]; dsimp only; rw [fset_ne hkk]; exact N'.s⟩
  · have := h.rdy
    dsimp only
    cases q : st.ready with
    | none => rw [q] at this; exact this
    | some l =>
      rw [q] at this
      obtain ⟨b, h2, h3⟩ := this
      refine ⟨b, h2, by rw [upd_ne (ne h3)]; exact h3⟩
  · have hne : k' ≠ k := fun z => hk' (by rw [z]; exact List.mem_of_getElem? hk)
    dsimp only
    rw [fset_ne hne]; exact h.dflt k' hk'

/-- the list of those ready changed -/
theorem SAt.setReady (h : SAt σ x st dx nd rv as ep) {l l' : List AV} {b : Addr} (hr : st.ready = some l) (hb : rv = .ref b) :
    SAt (upd σ b (some (1, .list l'))) x { st with ready := some l' } dx nd rv as ep := by
  have hb' : σ b = some (1, .list l) := by
    have := h.rdy
    rw [hr] at this
    obtain ⟨b', h2, h3⟩ := this
    rw [h2] at hb; cases hb; exact h3
  have ne : ∀ {y cl}, σ y = some (1, cl) → (∀ l, cl ≠ .list l) → y ≠ b := fun {y cl} e q z => by rw [z, hb'] at e; cases e; exact q _ rfl
  refine ⟨by rw [upd_ne (ne h.x (by intro _ q; cases q))]; exact h.x, by rw [upd_ne (ne h.dx (by intro _ q; cases q))]; exact h.dx, by rw [upd_ne (ne h.nd (by intro _ q; cases q))]; exact h.nd, h.len, fun j' p' k' a b' => ?_, ⟨b, hb, by simp⟩, h.ni, h.nsu, h.key, h.knd, h.dflt⟩
  have N' := h.nds j' p' k' a b'
  exact ⟨by rw [upd_ne (ne N'.i (by intro _ q; cases q))]; exact N'.i, by rw [upd_ne (ne N'.d (by intro _ q; cases q))]; exact N'.d, by rw [upd_ne (fun z => by have := N'.s; rw [z, hb'] at this; cases this)]; exact N'.s⟩

/-- an attribute of the sorter changed; the list of those ready may be another one -/
theorem SAt.setAttrs (h : SAt σ x st dx nd rv as ep) {st' : SS} {rv' : AV} (e1 : st'.keys = st.keys) (e2 : st'.np = st.np) (e3 : st'.su = st.su) (hr : RdyAt σ rv' st'.ready) :
    SAt (upd σ dx (some (1, .attrs (sAttrs nd rv' st')))) x st' dx nd rv' as ep := by
  have ne : ∀ {y c' cl}, σ y = some (c', cl) → (∀ l, l ≠ [] → cl ≠ .attrs l) → y ≠ dx := fun {y c' cl} e q z => by rw [z, h.dx] at e; cases e; exact q _ (by simp [sAttrs]) rfl
  refine ⟨by rw [upd_ne (ne h.x (by intro _ _ q; cases q))]; exact h.x, by simp, by rw [upd_ne (ne h.nd (by intro _ _ q; cases q)), e1]; exact h.nd, by rw [e1]; exact h.len, fun j' p' k' a b' => ?_, ?_, h.ni, h.nsu, by rw [e1]; exact h.key, by rw [e1]; exact h.knd, by rw [e1, e2, e3]; exact h.dflt⟩
  · rw [e1] at b'
    have N' := h.nds j' p' k' a b'
    rw [e2, e3]
    exact ⟨by rw [upd_ne (ne N'.i (by intro _ _ q; cases q))]; exact N'.i, by rw [upd_ne (ne N'.d (by intro l hl q; cases q; exact hl rfl))]; exact N'.d, by rw [upd_ne (ne N'.s (by intro _ _ q; cases q))]; exact N'.s⟩
  · cases q : st'.ready with
    | none => rw [q] at hr; exact hr
    | some l =>
      rw [q] at hr
      obtain ⟨b, h2, h3⟩ := hr
      exact ⟨b, h2, by rw [upd_ne (ne h3 (by intro _ _ q; cases q))]; exact h3⟩

/-- a new node -/
theorem SAt.new (h : SAt σ x st dx nd rv as ep) {k : AV} {p : NAd} {ep' : Nat} (hk : k ∉ st.keys) (hkey : k.isKey = true) (e : Ext [] σ σ') (hi : σ p.i = none) (hs : σ p.s = none) (hN : NdAt σ' p k 0 [])  :
    SAt (upd σ' nd (some (1, .dict ((st.keys ++ [k]).zip ((as ++ [p]).map fun p => AV.ref p.i)) ep'))) x { st with keys := st.keys ++ [k] } dx nd rv (as ++ [p]) ep' := by
  have h' := h.ext e (by simp) (by simp)
  have ne : ∀ {y c' cl}, σ' y = some (c', cl) → (∀ l n, cl ≠ .dict l n) → y ≠ nd := fun {y c' cl} e q z => by rw [z, h'.nd] at e; cases e; exact q _ _ rfl
  have old : ∀ {q : NAd}, q ∈ as → ∃ j k, as[j]? = some q ∧ st.keys[j]? = some k := fun {q} hq => by
    obtain ⟨j, hj, e⟩ := List.mem_iff_getElem.mp hq
    have hj' : j < st.keys.length := by rw [← h.len]; exact hj
    exact ⟨j, st.keys[j], by rw [List.getElem?_eq_getElem hj, e], by rw [List.getElem?_eq_getElem hj']⟩
  refine ⟨by rw [upd_ne (ne h'.x (by intro _ _ q; cases q))]; exact h'.x, by rw [upd_ne (ne h'.dx (by intro _ _ q; cases q))]; exact h'.dx, upd_self, by simp [h.len], fun j' p' k' a b' => ?_, ?_, ?_, ?_, ?_, ?_, ?_⟩
  · by_cases hj : j' < as.length
    · rw [List.getElem?_append_left hj] at a
      dsimp only at b'
      rw [List.getElem?_append_left (by rw [← h.len]; exact hj)] at b'
      have N := h'.nds j' p' k' a b'
      exact ⟨by rw [upd_ne (ne N.i (by intro _ _ q; cases q))]; exact N.i, by rw [upd_ne (ne N.d (by intro _ _ q; cases q))]; exact N.d, by rw [upd_ne (ne N.s (by intro _ _ q; cases q))]; exact N.s⟩
    · have hlt := (List.getElem?_eq_some_iff.mp a).1
      simp only [List.length_append, List.length_singleton] at hlt
      have : j' = as.length := by omega
      subst this
      simp only [List.getElem?_append_right (Nat.le_refl _), Nat.sub_self, List.getElem?_cons_zero, Option.some.injEq] at a
      dsimp only at b'
      rw [h.len, List.getElem?_append_right (Nat.le_refl _), Nat.sub_self, List.getElem?_cons_zero, Option.some.injEq] at b'
      subst a b'
      obtain ⟨d1, d2⟩ := h.dflt k hk
      dsimp only
      rw [d1, d2]
      exact ⟨by rw [upd_ne (ne hN.i (by intro _ _ q; cases q))]; exact hN.i, by rw [upd_ne (ne hN.d (by intro _ _ q; cases q))]; exact hN.d, by rw [upd_ne (ne hN.s (by intro _ _ q; cases q))]; exact hN.s⟩
  · have := h'.rdy
    dsimp only
    cases q : st.ready with
    | none => rw [q] at this; exact this
    | some l =>
      rw [q] at this
      obtain ⟨b, h2, h3⟩ := this
      exact ⟨b, h2, by rw [upd_ne (ne h3 (by intro _ _ q; cases q))]; exact h3⟩
  · rw [List.map_append]
    refine List.nodup_append.mpr ⟨h.ni, by simp, fun a ha b hb e => ?_⟩
    obtain ⟨q, hq, rfl⟩ := List.mem_map.mp ha
    simp only [List.map_cons, List.map_nil, List.mem_singleton] at hb
    obtain ⟨j, k0, h1, h2⟩ := old hq
    have := (h.nds j q k0 h1 h2).i
    rw [e, hb, hi] at this; cases this
  · rw [List.map_append]
    refine List.nodup_append.mpr ⟨h.nsu, by simp, fun a ha b hb e => ?_⟩
    obtain ⟨q, hq, rfl⟩ := List.mem_map.mp ha
    simp only [List.map_cons, List.map_nil, List.mem_singleton] at hb
    obtain ⟨j, k0, h1, h2⟩ := old hq
    have := (h.nds j q k0 h1 h2).s
    rw [e, hb, hs] at this; cases this
  · intro k' hk'
    rcases List.mem_append.mp hk' with hk' | hk'
    · exact h.key k' hk'
    · simp only [List.mem_singleton] at hk'; rw [hk']; exact hkey
  · refine List.nodup_append.mpr ⟨h.knd, by simp, fun a ha b hb e => hk ?_⟩
    simp only [List.mem_singleton] at hb
    rw [← hb, ← e]; exact ha
  · intro k' hk'
    exact h.dflt k' fun q => hk' (List.mem_append_left _ q)
end
end Mine

namespace Mine

section
variable {α : Type}

/-- from v a ring can be reached: some set holds v, and with each of its nodes one of that node's successors -/
noncomputable def Stay (su : α → List α) (v : α) : Prop := ∃ S : α → Prop, S v ∧ ∀ u, S u → ∃ w ∈ su u, S w
theorem Stay.step {su : α → List α} {v : α} (h : Stay su v) : ∃ w ∈ su v, Stay su w := by
  obtain ⟨S, h1, h2⟩ := h
  obtain ⟨w, hw, q⟩ := h2 v h1
  exact ⟨w, hw, S, q, h2⟩
/-- the first successor that stays -/
noncomputable def FirstStay (su : α → List α) (u w : α) : Prop := ∃ a b, su u = a ++ w :: b ∧ (∀ t ∈ a, ¬ Stay su t) ∧ Stay su w
theorem FirstStay.unique {su : α → List α} {u w w' : α} (h : FirstStay su u w) (h' : FirstStay su u w') : w = w' := by
  obtain ⟨a, b, e, n, s⟩ := h
  obtain ⟨a', b', e', n', s'⟩ := h'
  rw [e] at e'
  rcases List.append_eq_append_iff.mp e' with ⟨c, h1, h2⟩ | ⟨c, h1, h2⟩
  · cases c with
    | nil => simp at h2; exact h2.1
    | cons x c =>
      simp at h2
      exact absurd (h2.1 ▸ s) (n' x (by rw [h1]; simp))
  · cases c with
    | nil => simp at h2; exact h2.1.symm
    | cons x c =>
      simp at h2
      exact absurd (h2.1 ▸ s') (n x (by rw [h1]; simp))

/-- one step after the other by R -/
inductive Chain (R : α → α → Prop) : List α → Prop
  | one {v} : Chain R [v]
  | cons {u v l} : R u v → Chain R (v :: l) → Chain R (u :: v :: l)
theorem Chain.snoc {R : α → α → Prop} {a b : α} : ∀ {l : List α}, Chain R (l ++ [a]) → R a b → Chain R (l ++ [a] ++ [b])
  | [], _, h => .cons h .one
  | [u], .cons h1 _, h => .cons h1 (.cons h .one)
  | u :: v :: l, .cons h1 h2, h => .cons h1 (Chain.snoc (l := v :: l) h2 h)

/-- what _find_cycle answers -/
inductive RingRes (keys : List α) (su : α → List α) : Option (List α) → Prop
  | no : (∀ k ∈ keys, ¬ Stay su k) → RingRes keys su none
  | yes {pre post : List α} {v0 last w : α} {p q : List α} : keys = pre ++ v0 :: post → (∀ k ∈ pre, ¬ Stay su k) → (p ++ w :: q).Nodup → (p ++ w :: q).head? = some v0 → (p ++ w :: q).getLast? = some last →
      Chain (FirstStay su) (p ++ w :: q) → FirstStay su last w → RingRes keys su (some (w :: q ++ [w]))

/-- the way down, the deepest node first, each node with the number of its successors taken -/
inductive Lk (su : α → List α) (key : α) : List (α × Nat) → Prop
  | one {i} : Lk su key [(key, i)]
  | cons {u i p j rest} : (su p)[j]? = some u → (∀ t ∈ (su p).take j, ¬ Stay su t) → Lk su key ((p, j + 1) :: rest) → Lk su key ((u, i) :: (p, j + 1) :: rest)

structure Dfs (su : α → List α) (pre : List α) (key : α) (rp : List (α × Nat)) (seen : α → Bool) : Prop where
  fin : ∀ v, seen v = true → v ∉ rp.map (·.1) → ¬ Stay su v
  on : ∀ v ∈ rp.map (·.1), seen v = true
  pre : ∀ k ∈ pre, ¬ Stay su k
  nd : (rp.map (·.1)).Nodup
  lk : rp = [] ∨ Lk su key rp

/-- v is what the deepest node gave last -/
noncomputable def TopIs (su : α → List α) (key : α) (rp : List (α × Nat)) (v : α) : Prop := match rp with
  | [] => v = key
  | (u, n) :: _ => ∃ i, n = i + 1 ∧ (su u)[i]? = some v ∧ ∀ t ∈ (su u).take i, ¬ Stay su t
/-- all that the deepest node gave is done with -/
noncomputable def RestIs (su : α → List α) (rp : List (α × Nat)) : Prop := match rp with
  | [] => True
  | (u, n) :: _ => ∀ t ∈ (su u).take n, ¬ Stay su t

variable {su : α → List α} {pre : List α} {key : α} {rp : List (α × Nat)} {seen : α → Bool}

theorem Dfs.push [DecidableEq α] {v : α} (h : Dfs su pre key rp seen) (ht : TopIs su key rp v) (hv : seen v = false) : Dfs su pre key ((v, 0) :: rp) (fun x => seen x || decide (x = v)) ∧ RestIs su ((v, 0) :: rp) := by
  refine ⟨⟨fun y hy hn => ?_, fun y hy => ?_, h.pre, ?_, .inr ?_⟩, by simp [RestIs]⟩
  · simp only [List.map_cons, List.mem_cons, not_or] at hn
    simp only [hn.1, decide_false, Bool.or_false] at hy
    exact h.fin y hy hn.2
  · simp only [List.map_cons, List.mem_cons] at hy
    rcases hy with rfl | hy
    · simp
    · simp [h.on y hy]
  · rw [List.map_cons, List.nodup_cons]
    exact ⟨fun q => absurd (h.on v q) (by rw [hv]; exact Bool.false_ne_true), h.nd⟩
  · cases rp with
    | nil => have : v = key := ht; subst this; exact .one
    | cons p rest =>
      obtain ⟨u, n⟩ := p
      obtain ⟨i, rfl, h1, h2⟩ := ht
      exact .cons h1 h2 (h.lk.resolve_left (by simp))

theorem Dfs.skip {v : α} (h : Dfs su pre key rp seen) (ht : TopIs su key rp v) (hv : seen v = true) (hn : v ∉ rp.map (·.1)) : RestIs su rp := by
  cases rp with
  | nil => trivial
  | cons p rest =>
    obtain ⟨u, n⟩ := p
    obtain ⟨i, rfl, h1, h2⟩ := ht
    intro t hm
    rw [List.take_add_one, h1] at hm
    simp only [Option.toList_some, List.mem_append, List.mem_singleton] at hm
    rcases hm with hm | rfl
    · exact h2 t hm
    · exact h.fin t hv hn

theorem Dfs.item {u v : α} {i : Nat} {rest : List (α × Nat)} (h : Dfs su pre key ((u, i) :: rest) seen) (hr : RestIs su ((u, i) :: rest)) (hv : (su u)[i]? = some v) : Dfs su pre key ((u, i + 1) :: rest) seen ∧ TopIs su key ((u, i + 1) :: rest) v := by
  refine ⟨⟨h.fin, h.on, h.pre, h.nd, .inr ?_⟩, ⟨i, rfl, hv, hr⟩⟩
  cases h.lk.resolve_left (by simp) with
  | one => exact .one
  | cons h1 h2 h3 => exact .cons h1 h2 h3

theorem Dfs.pop {u : α} {i : Nat} {rest : List (α × Nat)} (h : Dfs su pre key ((u, i) :: rest) seen) (hr : RestIs su ((u, i) :: rest)) (hi : (su u).length ≤ i) : Dfs su pre key rest seen ∧ RestIs su rest ∧ (rest = [] → u = key ∧ ¬ Stay su key) := by
  have hu : ¬ Stay su u := fun q => by
    obtain ⟨w, hw, s⟩ := q.step
    have := hr w
    rw [List.take_of_length_le hi] at this
    exact this hw s
  have hnd := h.nd
  rw [List.map_cons, List.nodup_cons] at hnd
  have hlk := h.lk.resolve_left (by simp)
  refine ⟨⟨fun y hy hn => ?_, fun y hy => h.on y (by simp only [List.map_cons, List.mem_cons]; exact .inr hy), h.pre, hnd.2, ?_⟩, ?_, fun e => ?_⟩
  · by_cases q : y ∈ ((u, i) :: rest).map (·.1)
    · simp only [List.map_cons, List.mem_cons] at q
      rcases q with rfl | q
      · exact hu
      · exact absurd q hn
    · exact h.fin y hy q
  · cases hlk with
    | one => exact .inl rfl
    | cons _ _ h3 => exact .inr h3
  · cases hlk with
    | one => trivial
    | cons h1 h2 h3 =>
      intro t hm
      rw [List.take_add_one, h1] at hm
      simp only [Option.toList_some, List.mem_append, List.mem_singleton] at hm
      rcases hm with hm | rfl
      · exact h2 t hm
      · exact hu
  · subst e
    cases hlk with
    | one => exact ⟨rfl, hu⟩

theorem Lk.stay {S : α → Prop} (h : Lk su key rp) : ∀ p ∈ rp, p.1 ≠ (rp.head?.map (·.1)).getD p.1 → ∃ w ∈ su p.1, w ∈ rp.map (·.1) := by
  induction h with
  | one => intro p hp; simp at hp; subst hp; simp
  | @cons u i p j rest h1 h2 h3 ih =>
    intro q hq hne
    simp only [List.mem_cons] at hq
    rcases hq with rfl | rfl | hq
    · simp at hne
    · exact ⟨u, List.mem_of_getElem? h1, by simp⟩
    · by_cases e : q.1 = p
      · exact ⟨u, by rw [e]; exact List.mem_of_getElem? h1, by simp⟩
      · obtain ⟨w, hw, hm⟩ := ih q (List.mem_cons_of_mem _ hq) (by simpa using e)
        exact ⟨w, hw, by simp only [List.map_cons, List.mem_cons] at hm ⊢; exact .inr hm⟩

theorem Lk.chain (h : Lk su key rp) (hs : ∀ v ∈ rp.map (·.1), Stay su v) : Chain (FirstStay su) (rp.map (·.1)).reverse ∧ (rp.map (·.1)).reverse.head? = some key := by
  induction h with
  | one => exact ⟨.one, rfl⟩
  | @cons u i p j rest h1 h2 h3 ih =>
    obtain ⟨c, e⟩ := ih fun v hv => hs v (by simp only [List.map_cons, List.mem_cons] at hv ⊢; exact .inr hv)
    simp only [List.map_cons, List.reverse_cons] at c e ⊢
    refine ⟨c.snoc ⟨(su p).take j, (su p).drop (j + 1), ?_, h2, hs u (by simp)⟩, ?_⟩
    · obtain ⟨hj, e⟩ := List.getElem?_eq_some_iff.mp h1
      rw [← e, List.getElem_cons_drop, List.take_append_drop]
    · rw [List.head?_append, e]; rfl

/-- the node met is on the way: the ring -/
theorem Dfs.ring {v : α} {keys post : List α} {p q : List α} (h : Dfs su pre key rp seen) (ht : TopIs su key rp v) (hv : v ∈ rp.map (·.1)) (hk : keys = pre ++ key :: post) (e : (rp.map (·.1)).reverse = p ++ v :: q) : RingRes keys su (some (v :: q ++ [v])) := by
  cases rp with
  | nil => simp at hv
  | cons top rest =>
    obtain ⟨u, n⟩ := top
    obtain ⟨i, rfl, h1, h2⟩ := ht
    have hlk := h.lk.resolve_left (by simp)
    have hs : ∀ y ∈ ((u, i + 1) :: rest).map (·.1), Stay su y := fun y hy => by
      refine ⟨fun z => z ∈ ((u, i + 1) :: rest).map (·.1), hy, fun z hz => ?_⟩
      by_cases ez : z = u
      · subst ez; exact ⟨v, List.mem_of_getElem? h1, hv⟩
      · obtain ⟨r, hr, rfl⟩ := List.mem_map.mp hz
        exact hlk.stay (S := fun _ => True) r hr (by simpa using ez)
    obtain ⟨c, hh⟩ := hlk.chain hs
    have hnd : (((u, i + 1) :: rest).map (·.1)).reverse.Nodup := (List.reverse_perm _).nodup_iff.mpr h.nd
    rw [e] at c hh hnd
    refine .yes hk h.pre hnd hh (last := u) ?_ c ⟨(su u).take i, (su u).drop (i + 1), ?_, h2, hs v hv⟩
    · rw [← e]; simp
    · obtain ⟨hj, e⟩ := List.getElem?_eq_some_iff.mp h1
      rw [← e, List.getElem_cons_drop, List.take_append_drop]
end
end Mine

namespace Mine

section
variable {α : Type}

/-! which ring is met -/
theorem no_ring {su : α → List α} {keys : List α} {rank : α → Nat} {M : Nat} (h : ∀ p, ∀ w ∈ su p, rank p < rank w ∧ rank w ≤ M) : ∀ res, RingRes keys su res → res = none := by
  have ns : ∀ n v, M - rank v ≤ n → ¬ Stay su v := by
    intro n
    induction n with
    | zero =>
      intro v hv hs
      obtain ⟨w, hw, _⟩ := hs.step
      have := h v w hw; omega
    | succ n ih =>
      intro v hv hs
      obtain ⟨w, hw, hs'⟩ := hs.step
      have := h v w hw
      exact ih w (by omega) hs'
  intro res hr
  cases hr with
  | no _ => rfl
  | yes _ _ _ _ _ _ hf =>
    obtain ⟨_, _, _, _, s⟩ := hf
    exact absurd s (ns _ _ (Nat.le_refl _))

theorem chain_next {R : α → α → Prop} : ∀ {l : List α} {i : Nat} {a b : α}, Chain R l → l[i]? = some a → l[i + 1]? = some b → R a b
  | u :: v :: l, 0, a, b, .cons h1 _, ha, hb => by
    simp only [List.getElem?_cons_zero, List.getElem?_cons_succ, Option.some.injEq] at ha hb
    rw [← ha, ← hb]; exact h1
  | u :: v :: l, i + 1, a, b, .cons _ h2, ha, hb => chain_next (l := v :: l) (i := i) h2 (by simpa using ha) (by simpa using hb)
  | [v], i, a, b, .one, ha, hb => by simp at hb

theorem ring_unique {su : α → List α} {keys fl hd : List α} {tn : Nat} (htn : tn < hd.length) (hnd : hd.Nodup)
    (e1 : ∀ j, (h : j + 1 < hd.length) → ∃ t, su hd[j] = hd[j + 1] :: t) (e2 : ∃ t, su (hd[hd.length - 1]'(by omega)) = hd[tn] :: t) (rank : α → Nat)
    (e4 : ∀ p, p ∉ hd → ∀ w ∈ su p, (w ∉ hd → rank p < rank w) ∧ (w ∈ hd → w ∈ hd.take (tn + 1)))
    (ek : ∃ ka more, keys = ka ++ (hd[0]'(by omega)) :: more ∧ ∀ k ∈ ka, k ∉ hd) :
    ∀ res, RingRes keys su res → res = some (hd.drop tn ++ [hd[tn]]) := by
  have stay : ∀ x ∈ hd, Stay su x := fun x hx => ⟨(· ∈ hd), hx, fun u hu => by
    obtain ⟨j, hj, rfl⟩ := List.mem_iff_getElem.mp hu
    by_cases q : j + 1 < hd.length
    · obtain ⟨t, ht⟩ := e1 j q
      exact ⟨hd[j + 1], by rw [ht]; simp, List.getElem_mem _⟩
    · have : j = hd.length - 1 := by omega
      subst this
      obtain ⟨t, ht⟩ := e2
      exact ⟨hd[tn], by rw [ht]; simp, List.getElem_mem _⟩⟩
  -- the first step of a held node
  have fst1 : ∀ j (h : j + 1 < hd.length) w, FirstStay su hd[j] w → w = hd[j + 1] := fun j h w hf => by
    obtain ⟨t, ht⟩ := e1 j h
    exact hf.unique ⟨[], t, ht, by simp, stay _ (List.getElem_mem _)⟩
  have fst2 : ∀ w, FirstStay su (hd[hd.length - 1]'(by omega)) w → w = hd[tn] := fun w hf => by
    obtain ⟨t, ht⟩ := e2
    exact hf.unique ⟨[], t, ht, by simp, stay _ (List.getElem_mem _)⟩
  have fin : ∀ {x w}, x ∈ hd → FirstStay su x w → w ∈ hd := fun {x w} hx hf => by
    obtain ⟨j, hj, rfl⟩ := List.mem_iff_getElem.mp hx
    by_cases q : j + 1 < hd.length
    · rw [fst1 j q w hf]; exact List.getElem_mem _
    · have : j = hd.length - 1 := by omega
      subst this
      rw [fst2 w hf]; exact List.getElem_mem _
  have inj : ∀ {i j : Nat} (hi : i < hd.length) (hj : j < hd.length), hd[i] = hd[j] → i = j := fun hi hj e => (List.getElem_inj hnd).mp e
  intro res hr
  cases hr with
  | no h =>
    obtain ⟨ka, more, hk, _⟩ := ek
    exact absurd (stay _ (List.getElem_mem (by omega))) (h hd[0] (by rw [hk]; simp))
  | @yes pre post v0 last w p q hk hpre hnd2 hhead hlast hch hcl =>
    -- along the chain
    have next : ∀ (i : Nat) (a b : α), (p ++ w :: q)[i]? = some a → (p ++ w :: q)[i + 1]? = some b → FirstStay su a b := fun i a b => chain_next hch
    have up : ∀ (n i : Nat) (a b : α), (p ++ w :: q)[i]? = some a → (p ++ w :: q)[i + n]? = some b → a ∈ hd → b ∈ hd := by
      intro n
      induction n with
      | zero => intro i a b h1 h2 h3; rw [Nat.add_zero, h1] at h2; cases h2; exact h3
      | succ n ih =>
        intro i a b h1 h2 h3
        have hl : i + n + 1 < (p ++ w :: q).length := (List.getElem?_eq_some_iff.mp h2).1
        have hm : (p ++ w :: q)[i + n]? = some (p ++ w :: q)[i + n] := List.getElem?_eq_getElem (by omega)
        exact fin (ih i a _ h1 hm h3) (next _ _ _ hm h2)
    have hwp : (p ++ w :: q)[p.length]? = some w := by simp
    have hll : (p ++ w :: q)[p.length + q.length]? = some last := by
      rw [List.getLast?_eq_getElem?] at hlast
      rw [← hlast]; congr 1; simp
    have stw : Stay su w := by obtain ⟨_, _, _, _, s⟩ := hcl; exact s
    -- the last one is held
    have hlh : last ∈ hd := Classical.byContradiction fun hn => by
      have notin : ∀ i : Nat, i ≤ q.length → ∀ a : α, (p ++ w :: q)[p.length + i]? = some a → a ∉ hd := fun i hi a ha hm =>
        hn (up (q.length - i) (p.length + i) a last ha (by rw [show p.length + i + (q.length - i) = p.length + q.length by omega]; exact hll) hm)
      have rk : ∀ n : Nat, n ≤ q.length → ∀ a : α, (p ++ w :: q)[p.length + n]? = some a → rank w ≤ rank a := by
        intro n
        induction n with
        | zero => intro _ a ha; rw [Nat.add_zero, hwp] at ha; cases ha; exact Nat.le_refl _
        | succ n ih =>
          intro hn' a ha
          have hl := (List.getElem?_eq_some_iff.mp ha).1
          have hm : (p ++ w :: q)[p.length + n]? = some (p ++ w :: q)[p.length + n] := List.getElem?_eq_getElem (by omega)
          have h1 := ih (by omega) _ hm
          obtain ⟨x, y, hxy, _, _⟩ := next _ _ _ hm ha
          have := (e4 _ (notin n (by omega) _ hm) a (by rw [hxy]; simp)).1 (notin (n + 1) hn' a ha)
          omega
      have h1 := rk q.length (Nat.le_refl _) last hll
      obtain ⟨x, y, hxy, _, _⟩ := hcl
      have h2 := (e4 _ hn w (by rw [hxy]; simp)).1 (notin 0 (Nat.zero_le _) w hwp)
      omega
    have hwh : w ∈ hd := fin hlh hcl
    obtain ⟨j, hj, hjw⟩ := List.mem_iff_getElem.mp hwh
    obtain ⟨i, hi, hil⟩ := List.mem_iff_getElem.mp hlh
    -- what leads to w among the held ones
    have lead : ∀ i (hi : i < hd.length), FirstStay su hd[i] w → i + 1 = j ∨ (i = hd.length - 1 ∧ j = tn) := fun i hi hf => by
      by_cases z : i + 1 < hd.length
      · exact .inl (inj _ _ ((fst1 i z w hf).symm.trans hjw.symm))
      · have : i = hd.length - 1 := by omega
        subst this
        exact .inr ⟨rfl, inj _ _ (hjw.trans (fst2 w hf))⟩
    have hjt : j ≤ tn := Classical.byContradiction fun hn => by
      have hli : i + 1 = j := by
        rcases lead i hi (by rw [hil]; exact hcl) with z | ⟨_, z⟩
        · exact z
        · omega
      cases hp : p.length with
      | zero =>
        have : p = [] := List.length_eq_zero_iff.mp hp
        subst this
        simp only [List.nil_append, List.head?_cons, Option.some.injEq] at hhead
        subst hhead
        obtain ⟨ka, more, hk2, hka⟩ := ek
        have h0 : hd[0] ∉ pre := fun z => hpre _ z (stay _ (List.getElem_mem _))
        rw [hk] at hk2
        have : w ∈ ka ∨ w = hd[0] := by
          rcases List.append_eq_append_iff.mp hk2 with ⟨c, h1, h2⟩ | ⟨c, h1, h2⟩
          · cases c with
            | nil => simp at h2; exact .inr h2.1
            | cons a c => simp at h2; rw [h1, h2.1]; exact .inl (by simp)
          · cases c with
            | nil => simp at h2; exact .inr h2.1.symm
            | cons a c => exfalso; simp at h2; exact h0 (by rw [h1, h2.1]; simp)
        rcases this with z | z
        · exact hka w z hwh
        · have := inj hj (by omega) (hjw.trans z); omega
      | succ n =>
        have hpn : (p ++ w :: q)[n]? = some (p[n]'(by omega)) := by
          rw [List.getElem?_append_left (by omega)]; exact List.getElem?_eq_getElem _
        have hf := next n _ w hpn (by rw [← hp]; exact hwp)
        by_cases z : p[n] ∈ hd
        · obtain ⟨i', hi', hpi⟩ := List.mem_iff_getElem.mp z
          have hii : i' = i := by
            rcases lead i' hi' (by rw [hpi]; exact hf) with y | ⟨_, y⟩ <;> omega
          subst hii
          have he : p[n] = last := hpi.symm.trans hil
          have := (List.getElem?_inj (by simp; omega) hnd2).mp (hpn.trans (by rw [he]; exact hll.symm))
          omega
        · obtain ⟨x, y, hxy, _, _⟩ := hf
          have := (e4 _ z w (by rw [hxy]; simp)).2 hwh
          obtain ⟨b, hb, hbw⟩ := List.mem_take_iff_getElem.mp this
          have := inj hj (by omega) (hjw.trans hbw.symm)
          omega
    -- from w on the places do not fall below j
    have ge : ∀ n : Nat, n ≤ q.length → ∀ a : α, (p ++ w :: q)[p.length + n]? = some a → ∃ b, ∃ hb : b < hd.length, hd[b] = a ∧ j ≤ b := by
      intro n
      induction n with
      | zero => intro _ a ha; rw [Nat.add_zero, hwp] at ha; cases ha; exact ⟨j, hj, hjw, Nat.le_refl _⟩
      | succ n ih =>
        intro hn' a ha
        have hl := (List.getElem?_eq_some_iff.mp ha).1
        have hm : (p ++ w :: q)[p.length + n]? = some (p ++ w :: q)[p.length + n] := List.getElem?_eq_getElem (by omega)
        obtain ⟨b, hb, hba, hjb⟩ := ih (by omega) _ hm
        have hf := next _ _ _ hm ha
        rw [← hba] at hf
        by_cases z : b + 1 < hd.length
        · exact ⟨b + 1, z, (fst1 b z a hf).symm, by omega⟩
        · have : b = hd.length - 1 := by omega
          subst this
          exact ⟨tn, htn, (fst2 a hf).symm, hjt⟩
    obtain ⟨b, hb, hbl, hjb⟩ := ge q.length (Nat.le_refl _) last hll
    have hbi := inj hb hi (hbl.trans hil.symm)
    rcases lead i hi (by rw [hil]; exact hcl) with z | ⟨hi2, hjt2⟩
    · omega
    · subst hjt2
      -- the ring is the held row from the turn on
      have walk : ∀ (n a : Nat) (ha : a < hd.length) (k : Nat), n + k = q.length → (p ++ w :: q)[p.length + k]? = some hd[a] → (p ++ w :: q).drop (p.length + k) = hd.drop a := by
        intro n
        induction n with
        | zero =>
          intro a ha k hk2 hka
          have hka' := hka
          rw [show p.length + k = p.length + q.length by omega, hll] at hka
          have : a = i := inj ha hi ((Option.some.inj hka).symm.trans hil.symm)
          subst this
          have h1 : (p ++ w :: q).drop (p.length + k) = [hd[a]] := by
            have hlt : p.length + k < (p ++ w :: q).length := (List.getElem?_eq_some_iff.mp hka').1
            rw [List.drop_eq_getElem_cons hlt, List.drop_eq_nil_of_le (by simp; omega)]
            rw [List.getElem?_eq_getElem hlt] at hka'
            rw [Option.some.inj hka']
          rw [h1, List.drop_eq_getElem_cons ha, List.drop_eq_nil_of_le (by omega)]
        | succ n ih =>
          intro a ha k hk2 hka
          have hlt : p.length + k + 1 < (p ++ w :: q).length := by simp; omega
          have hm : (p ++ w :: q)[p.length + k + 1]? = some (p ++ w :: q)[p.length + k + 1] := List.getElem?_eq_getElem hlt
          have hf := next _ _ _ hka hm
          have hne : a + 1 < hd.length := Classical.byContradiction fun z => by
            have : a = i := by omega
            subst this
            have := (List.getElem?_inj (by omega) hnd2).mp (hka.trans (by rw [hil]; exact hll.symm))
            omega
          have he := fst1 a hne _ hf
          have := ih (a + 1) hne (k + 1) (by omega) (by rw [← Nat.add_assoc, hm, he])
          rw [List.drop_eq_getElem_cons (show p.length + k < (p ++ w :: q).length by omega), List.drop_eq_getElem_cons ha, show p.length + k + 1 = p.length + (k + 1) by omega, this]
          have : (p ++ w :: q)[p.length + k]'(by omega) = hd[a] := by
            rw [List.getElem?_eq_getElem (by omega)] at hka; exact Option.some.inj hka
          rw [this]
      have := walk q.length j hj 0 (by omega) (by rw [Nat.add_zero, hwp, hjw])
      rw [Nat.add_zero, List.drop_left] at this
      rw [this, hjw]
end
end Mine

namespace Mine
open PySem

noncomputable def idxsFrom : Nat → List AV → List (AV × AV)
  | _, [] => []
  | n, v :: l => (v, .int n) :: idxsFrom (n + 1) l
noncomputable def idxs (l : List AV) : List (AV × AV) := idxsFrom 0 l
theorem idxsFrom_keys : ∀ {n : Nat} {l : List AV}, (idxsFrom n l).map (·.1) = l
  | _, [] => rfl
  | n, v :: l => by simp [idxsFrom, idxsFrom_keys (l := l)]
theorem idxsFrom_append : ∀ {n : Nat} {l m : List AV}, idxsFrom n (l ++ m) = idxsFrom n l ++ idxsFrom (n + l.length) m
  | n, [], m => by simp [idxsFrom]
  | n, v :: l, m => by
    simp only [List.cons_append, idxsFrom, idxsFrom_append (l := l), List.length_cons]
    rw [show n + 1 + l.length = n + (l.length + 1) by omega]
theorem idxsFrom_len : ∀ {n : Nat} {l : List AV}, (idxsFrom n l).length = l.length
  | _, [] => rfl
  | n, v :: l => by simp [idxsFrom, idxsFrom_len (l := l)]
theorem dget_none {kvs : List (AV × AV)} {v : AV} (h : v ∉ kvs.map (·.1)) : dget kvs v = none := by
  unfold dget
  rw [Option.map_eq_none_iff, List.find?_eq_none]
  intro p hp
  simp only [decide_eq_true_eq]
  exact fun e => h (e ▸ List.mem_map_of_mem hp)
theorem dget_idxs {l p q : List AV} {v : AV} (e : l = p ++ v :: q) (h : v ∉ p) : dget (idxs l) v = some (.int p.length) := by
  subst e
  unfold idxs
  rw [idxsFrom_append]
  have h1 : (idxsFrom 0 p).find? (fun x => decide (x.1 = v)) = none := by
    rw [List.find?_eq_none]
    intro x hx
    simp only [decide_eq_true_eq]
    have : x.1 ∈ p := by rw [← idxsFrom_keys (n := 0) (l := p)]; exact List.mem_map_of_mem hx
    exact fun z => h (z ▸ this)
  unfold dget
  rw [List.find?_append, h1]
  simp [idxsFrom]
theorem dget_idxs_none {l : List AV} {v : AV} (h : v ∉ l) : dget (idxs l) v = none := dget_none (by unfold idxs; rw [idxsFrom_keys]; exact h)
theorem dset_idxs {l : List AV} {v : AV} (h : v ∉ l) : dset (idxs l) v (.int l.length) = idxs (l ++ [v]) := by
  have : (idxs l).any (fun p => p.1 = v) = false := by
    rw [List.any_eq_false]
    intro p hp
    simp only [decide_eq_true_eq]
    have : p.1 ∈ l := by rw [← idxsFrom_keys (n := 0) (l := l)]; exact List.mem_map_of_mem hp
    exact fun e => h (e ▸ this)
  unfold dset
  rw [this]
  unfold idxs
  rw [idxsFrom_append]
  simp [idxsFrom]
theorem ddel_idxs {l : List AV} {v : AV} (h : v ∉ l) : ddel (idxs (l ++ [v])) v = idxs l := by
  unfold ddel idxs
  rw [idxsFrom_append, List.filter_append]
  have : (idxsFrom 0 l).filter (fun p => decide (p.1 ≠ v)) = idxsFrom 0 l := by
    rw [List.filter_eq_self]
    intro p hp
    have : p.1 ∈ l := by rw [← idxsFrom_keys (n := 0) (l := l)]; exact List.mem_map_of_mem hp
    simp only [decide_eq_true_eq]
    exact fun e => h (e ▸ this)
  rw [this]
  simp [idxsFrom]

structure Ent where
  v : AV
  n : Nat
  m : Addr
  it : Addr
  s : Addr

structure DAt (σ : Addr → Option (Nat × Cell)) (su : AV → List AV) (K I D N : Addr) (es : List Ent) (seen : AV → Bool) (cnt ep : Nat) : Prop where
  hK : σ K = some (3, .list (es.map (·.v)).reverse)
  hI : σ I = some (3, .list (es.map fun e => AV.ref e.m).reverse)
  hD : σ D = some (3, .dict (idxs (es.map (·.v)).reverse) ep)
  hN : σ N = some (3, .set seen cnt)
  hm : ∀ e ∈ es, σ e.m = some (3, wrapCell e.it)
  hit : ∀ e ∈ es, σ e.it = some (4, iterCell "list_iterator" e.s e.n)
  hs : ∀ e ∈ es, σ e.s = some (2, .list (su e.v))
  nd : (es.map (·.it)).Nodup
  KI : K ≠ I

section
variable {σ σ' : Addr → Option (Nat × Cell)} {su : AV → List AV} {K I D N : Addr} {es : List Ent} {seen : AV → Bool} {cnt ep : Nat}
theorem DAt.ext {C : List Nat} (h : DAt σ su K I D N es seen cnt ep) (e : Ext C σ σ') (h2 : 2 ∉ C) (h3 : 3 ∉ C) (h4 : 4 ∉ C) : DAt σ' su K I D N es seen cnt ep :=
  ⟨e _ _ _ h.hK h3, e _ _ _ h.hI h3, e _ _ _ h.hD h3, e _ _ _ h.hN h3, fun x hx => e _ _ _ (h.hm x hx) h3, fun x hx => e _ _ _ (h.hit x hx) h4, fun x hx => e _ _ _ (h.hs x hx) h2, h.nd, h.KI⟩

/-- the deepest node's iterator gave one more -/
theorem DAt.item {e : Ent} (h : DAt σ su K I D N (e :: es) seen cnt ep) : DAt (upd σ e.it (some (4, iterCell "list_iterator" e.s (e.n + 1)))) su K I D N ({ e with n := e.n + 1 } :: es) seen cnt ep := by
  have h0 := h.hit e (List.mem_cons_self ..)
  have ne : ∀ {y c' cl}, σ y = some (c', cl) → c' ≠ 4 → y ≠ e.it := fun q1 q2 z => by rw [z, h0] at q1; cases q1; exact q2 rfl
  have nd := h.nd
  rw [List.map_cons, List.nodup_cons] at nd
  refine ⟨by rw [upd_ne (ne h.hK (by decide))]; exact h.hK, by rw [upd_ne (ne h.hI (by decide))]; exact h.hI, by rw [upd_ne (ne h.hD (by decide))]; exact h.hD, by rw [upd_ne (ne h.hN (by decide))]; exact h.hN, fun x hx => ?_, fun x hx => ?_, fun x hx => ?_, h.nd, h.KI⟩
  · rcases List.mem_cons.mp hx with rfl | hx
    · have := h.hm e (List.mem_cons_self ..); dsimp only; rw [upd_ne (ne this (by decide))]; exact this
    · have := h.hm x (List.mem_cons_of_mem _ hx); rw [upd_ne (ne this (by decide))]; exact this
  · rcases List.mem_cons.mp hx with rfl | hx
    · exact upd_self
    · rw [upd_ne (fun z => nd.1 (by rw [← z]; exact List.mem_map_of_mem hx))]; exact h.hit x (List.mem_cons_of_mem _ hx)
  · rcases List.mem_cons.mp hx with rfl | hx
    · have := h.hs e (List.mem_cons_self ..); dsimp only; rw [upd_ne (ne this (by decide))]; exact this
    · have := h.hs x (List.mem_cons_of_mem _ hx); rw [upd_ne (ne this (by decide))]; exact this

/-- a node laid on the stack -/
theorem DAt.push {e : Ent} {ep' : Nat} {seen' : AV → Bool} {cnt' : Nat} (h : DAt σ su K I D N es seen cnt ep) (X : ∀ y p, y ≠ K → y ≠ I → y ≠ D → y ≠ N → σ y = some p → σ' y = some p)
    (hK : σ' K = some (3, .list ((es.map (·.v)).reverse ++ [e.v]))) (hI : σ' I = some (3, .list ((es.map fun e => AV.ref e.m).reverse ++ [.ref e.m]))) (hD : σ' D = some (3, .dict (idxs ((es.map (·.v)).reverse ++ [e.v])) ep')) (hN : σ' N = some (3, .set seen' cnt'))
    (hm : σ' e.m = some (3, wrapCell e.it)) (hit : σ' e.it = some (4, iterCell "list_iterator" e.s e.n)) (hs : σ' e.s = some (2, .list (su e.v))) (hn : σ e.it = none) : DAt σ' su K I D N (e :: es) seen' cnt' ep' := by
  have ne : ∀ {y c' P}, σ y = some (c', Cell.raw P) → y ≠ K ∧ y ≠ I ∧ y ≠ D ∧ y ≠ N := fun q => ⟨fun z => (by rw [z, h.hK] at q; cases q), fun z => (by rw [z, h.hI] at q; cases q), fun z => (by rw [z, h.hD] at q; cases q), fun z => (by rw [z, h.hN] at q; cases q)⟩
  have ne2 : ∀ {y cl}, σ y = some (2, cl) → y ≠ K ∧ y ≠ I ∧ y ≠ D ∧ y ≠ N := fun q => ⟨fun z => (by rw [z, h.hK] at q; cases q), fun z => (by rw [z, h.hI] at q; cases q), fun z => (by rw [z, h.hD] at q; cases q), fun z => (by rw [z, h.hN] at q; cases q)⟩
  refine ⟨by rw [hK]; simp, by rw [hI]; simp, by rw [hD]; simp, hN, fun x hx => ?_, fun x hx => ?_, fun x hx => ?_, ?_, h.KI⟩
  · rcases List.mem_cons.mp hx with rfl | hx
    · exact hm
    · have := h.hm x hx; obtain ⟨a, b, c, d⟩ := ne this; exact X _ _ a b c d this
  · rcases List.mem_cons.mp hx with rfl | hx
    · exact hit
    · have := h.hit x hx; obtain ⟨a, b, c, d⟩ := ne this; exact X _ _ a b c d this
  · rcases List.mem_cons.mp hx with rfl | hx
    · exact hs
    · have := h.hs x hx; obtain ⟨a, b, c, d⟩ := ne2 this; exact X _ _ a b c d this
  · rw [List.map_cons, List.nodup_cons]
    refine ⟨fun q => ?_, h.nd⟩
    obtain ⟨x, hx, e'⟩ := List.mem_map.mp q
    have := h.hit x hx
    rw [e', hn] at this; cases this

/-- the deepest node taken off -/
theorem DAt.pop {e : Ent} {ep' : Nat} (h : DAt σ su K I D N (e :: es) seen cnt ep) (X : ∀ y p, p.1 ≠ 8 → y ≠ K → y ≠ I → y ≠ D → y ≠ e.it → σ y = some p → σ' y = some p)
    (hK : σ' K = some (3, .list (es.map (·.v)).reverse)) (hI : σ' I = some (3, .list (es.map fun e => AV.ref e.m).reverse)) (hD : σ' D = some (3, .dict (idxs (es.map (·.v)).reverse) ep')) : DAt σ' su K I D N es seen cnt ep' := by
  have h0 := h.hit e (List.mem_cons_self ..)
  have nd := h.nd
  rw [List.map_cons, List.nodup_cons] at nd
  have ne : ∀ {y c' P}, σ y = some (c', Cell.raw P) → y ≠ K ∧ y ≠ I ∧ y ≠ D := fun q => ⟨fun z => (by rw [z, h.hK] at q; cases q), fun z => (by rw [z, h.hI] at q; cases q), fun z => (by rw [z, h.hD] at q; cases q)⟩
  have ne2 : ∀ {y cl}, σ y = some (2, cl) → y ≠ K ∧ y ≠ I ∧ y ≠ D := fun q => ⟨fun z => (by rw [z, h.hK] at q; cases q), fun z => (by rw [z, h.hI] at q; cases q), fun z => (by rw [z, h.hD] at q; cases q)⟩
  have n4 : ∀ {y c' cl}, σ y = some (c', cl) → c' ≠ 4 → y ≠ e.it := fun q1 q2 z => by rw [z, h0] at q1; cases q1; exact q2 rfl
  refine ⟨hK, hI, hD, ?_, fun x hx => ?_, fun x hx => ?_, fun x hx => ?_, nd.2, h.KI⟩
  · have := h.hN
    exact X _ _ (by simp) (fun z => by rw [z, h.hK] at this; cases this) (fun z => by rw [z, h.hI] at this; cases this) (fun z => by rw [z, h.hD] at this; cases this) (n4 this (by decide)) this
  · have := h.hm x (List.mem_cons_of_mem _ hx); obtain ⟨a, b, c⟩ := ne this; exact X _ _ (by simp) a b c (n4 this (by decide)) this
  · have := h.hit x (List.mem_cons_of_mem _ hx); obtain ⟨a, b, c⟩ := ne this; exact X _ _ (by simp) a b c (fun z => nd.1 (by rw [← z]; exact List.mem_map_of_mem hx)) this
  · have := h.hs x (List.mem_cons_of_mem _ hx); obtain ⟨a, b, c⟩ := ne2 this; exact X _ _ (by simp) a b c (n4 this (by decide)) this
end
end Mine

namespace Mine
open PySem

theorem filter_mark {keys : List AV} {v : AV} {seen : AV → Bool} (f : AV → Nat) (hd : keys.Nodup) (hv : v ∈ keys) (hs : seen v = false) :
    ((keys.filter fun k => !seen k).map f).sum = f v + ((keys.filter fun k => !(seen k || decide (k = v))).map f).sum ∧ (keys.filter fun k => seen k || decide (k = v)).length = (keys.filter seen).length + 1 := by
  induction keys with
  | nil => cases hv
  | cons k keys ih =>
    rw [List.nodup_cons] at hd
    by_cases e : k = v
    · subst e
      have h1 : ∀ y ∈ keys, (!(seen y || decide (y = k))) = !seen y := fun y hy => by
        have : y ≠ k := fun z => hd.1 (z ▸ hy)
        simp [this]
      have h2 : ∀ y ∈ keys, (seen y || decide (y = k)) = seen y := fun y hy => by
        have : y ≠ k := fun z => hd.1 (z ▸ hy)
        simp [this]
      rw [List.filter_cons, List.filter_cons, List.filter_cons, List.filter_cons, List.filter_congr h1, List.filter_congr h2]
      simp [hs]
    · have hv' : v ∈ keys := (List.mem_cons.mp hv).resolve_left (Ne.symm e)
      obtain ⟨i1, i2⟩ := ih hd.2 hv'
      rw [List.filter_cons, List.filter_cons, List.filter_cons, List.filter_cons]
      simp only [e, decide_false, Bool.or_false]
      cases q : seen k
      · simp only [Bool.not_false, if_true, Bool.false_eq_true, if_false, List.map_cons, List.sum_cons, i1, i2]
        exact ⟨by omega, trivial⟩
      · simp only [Bool.not_true, if_true, Bool.false_eq_true, if_false, List.length_cons, i1, i2]
        exact ⟨trivial, trivial⟩

theorem nodup_len {α : Type} [DecidableEq α] : ∀ {l m : List α}, l.Nodup → (∀ x ∈ l, x ∈ m) → l.length ≤ m.length
  | [], _, _, _ => Nat.zero_le _
  | a :: l, m, hd, h => by
    rw [List.nodup_cons] at hd
    have ha := h a (List.mem_cons_self ..)
    have := nodup_len (l := l) (m := m.erase a) hd.2 fun x hx => (List.mem_erase_of_ne (fun (z : x = a) => hd.1 (z ▸ hx))).mpr (h x (List.mem_cons_of_mem _ hx))
    have hl := List.length_erase_of_mem ha
    have hp := List.length_pos_of_mem ha
    rw [List.length_cons]; omega

structure FC (σ : Addr → Option (Nat × Cell)) (x : Addr) (st : SS) (dx nd : Addr) (rv : AV) (as : List NAd) (ep : Nat) (K I D N : Addr) (pre : List AV) (key : AV) (es : List Ent) (seen : AV → Bool) (cnt ep' : Nat) : Prop where
  S : SAt σ x st dx nd rv as ep
  D : DAt σ st.su K I D N es seen cnt ep'
  dfs : Dfs st.su pre key (es.map fun e => (e.v, e.n)) seen
  cnt : cnt = (st.keys.filter seen).length
  sk : ∀ v, seen v = true → v ∈ st.keys

noncomputable def meas (st : SS) (es : List Ent) (seen : AV → Bool) : Nat := (es.map fun e => (st.su e.v).length - e.n).sum + ((st.keys.filter fun k => !seen k).map fun k => (st.su k).length + 1).sum

section
variable {σ σ' : Addr → Option (Nat × Cell)} {x dx nd : Addr} {rv : AV} {as : List NAd} {ep : Nat} {st : SS} {K I D N : Addr} {pre : List AV} {key : AV} {es : List Ent} {seen : AV → Bool} {cnt ep' : Nat}
theorem FC.ext {C : List Nat} (h : FC σ x st dx nd rv as ep K I D N pre key es seen cnt ep') (e : Ext C σ σ') (h1 : 1 ∉ C) (h2 : 2 ∉ C) (h3 : 3 ∉ C) (h4 : 4 ∉ C) : FC σ' x st dx nd rv as ep K I D N pre key es seen cnt ep' :=
  ⟨h.S.ext e h1 h2, h.D.ext e h2 h3 h4, h.dfs, h.cnt, h.sk⟩
theorem FC.lt (h : FC σ x st dx nd rv as ep K I D N pre key es seen cnt ep') (hz : st.keys.length < 4000) : cnt < 4000 := by
  rw [h.cnt]; exact Nat.lt_of_le_of_lt (List.length_filter_le ..) hz
theorem FC.len (h : FC σ x st dx nd rv as ep K I D N pre key es seen cnt ep') : es.length ≤ st.keys.length := by
  have h1 : (es.map (·.v)).Nodup := by have := h.dfs.nd; rw [List.map_map] at this; exact this
  have h2 : ∀ v ∈ es.map (·.v), v ∈ st.keys := fun v hv => h.sk v (h.dfs.on v (by rw [List.map_map]; exact hv))
  have : (es.map (·.v)).length ≤ st.keys.length := nodup_len h1 h2
  simpa using this
end
end Mine

namespace Mine
open PySem PySem.W PyProof.Rows PySem.Calls

theorem Exc.looks {c : Cx} {a : AS} {e t : Addr} {cls : Value} {args : List AV} {tb : Option Addr} (h : Exc a.σ e t cls args tb) {s : Shared} (hs : St c a s) : Looks (model c.prog c.w) s.heap (typeOf (.ref e)) cls := by
  obtain ⟨o, vs, ho, hc, _⟩ := exc_get hs h
  subst hc
  exact (Looks.ld ho).andThen .now
theorem Exc.m {c : Cx} {a : AS} {e t : Addr} {cls cv : Value} {args : List AV} {tb : Option Addr} {b : Bool} (h : Exc a.σ e t cls args tb) (hx : exmOne c.K cls cv = some b) : ExcM c a (.ref e) cv b := fun s hs =>
  exm_one (c.inK.keeps hs.keep) (h.looks hs) hx

section
variable {st : SS} {es : List Ent} {seen : AV → Bool} {e : Ent}
theorem meas_item (h : e.n < (st.su e.v).length) : meas st ({ e with n := e.n + 1 } :: es) seen < meas st (e :: es) seen := by
  unfold meas; simp only [List.map_cons, List.sum_cons]; omega
theorem meas_pop : meas st es seen ≤ meas st (e :: es) seen := by
  unfold meas; simp only [List.map_cons, List.sum_cons]; omega
theorem meas_push (hd : st.keys.Nodup) (hv : e.v ∈ st.keys) (hs : seen e.v = false) (hn : e.n = 0) : meas st (e :: es) (fun x => seen x || decide (x = e.v)) < meas st es seen := by
  unfold meas
  rw [(filter_mark (fun k => (st.su k).length + 1) hd hv hs).1]
  simp only [List.map_cons, List.sum_cons, hn]; omega
end
end Mine

open PySem PySem.W PyProof.Rows
set_option maxRecDepth 100000
namespace Mine
abbrev ROW := PySem.Challenge.rw_du0008_03
noncomputable def stN : Stmt := .Pass ⟨0, 0, 0, 0⟩
noncomputable def topS (i : Nat) : Stmt := PySem.Challenge.pw_du0008_03.main.body.getD i stN
noncomputable def inS (i j : Nat) : Stmt := match topS i with
  | .ClassDef _ _ _ b _ _ _ _ _ _ _ => b.getD j stN
  | s => s
noncomputable def sv (x : String) (t : Nat) : Value := .str (Str.ofString x) t
noncomputable def tuO (l : List Value) : Obj := { cls := .type "tuple", data := .seq l.toArray }
noncomputable def fiO (c : String) (l : List Value) : Obj := { cls := .type c, data := .fields l.toArray }
noncomputable def diO (P : Params) (l : List (String × Nat × Value)) (n : Nat) : Obj :=
  { cls := .type "dict", data := .dict (l.map fun e => { hash := PyData.keyHash P (Str.ofString e.1), key := sv e.1 e.2.1, val := e.2.2 }).toArray n }
noncomputable def coO (x q : String) (t line args fl r1 k r2 : Nat) (v1 v2 : Value) (r3 t2 t3 : Nat) : Obj := fiO "code"
  [sv x t, sv q (t + 1), sv "/claim/cut.py" (t + 2), .int line 0, .int args 0, .int 0 0, .int 0 0, .int fl 0, .ref r1, .bool true, .int k 0, .ref r2, .none, v1, v2, .ref r3, .int t2 0, .int line 0, sv "/claim/cut.py" t3]
noncomputable def fnO (s : Stmt) (q : String) (df pm : Value) (c : Nat) : Obj := match s with
  | .FunctionDef n ps b _ _ _ sc _ _ _ => { cls := .type "function", data := .func { name := n, qualname := Str.ofString q, params := ps, body := .stmts b, scope := sc, globals := 3, closure := [], defaults := df, kwdefaults := .none, pyModule := pm, code := .ref c } }
  | _ => { cls := .none, data := .plain }

noncomputable def ko3 (P : Params) : Obj := diO P [("__name__", 165, (sv "law_du0008_03" 376)), ("__doc__", 166, Value.none), ("__package__", 167, Value.none), ("__loader__", 168, Value.builtin "__main__.__loader__#opaque"), ("__spec__", 169, Value.none), ("__annotations__", 170, Value.ref 6), ("__builtins__", 171, Value.ref 4), ("__file__", 173, (sv "/claim/cut.py" 172)), ("__cached__", 174, Value.none), ("_wall", 193, Value.ref 21), ("_NODE_OUT", 198, Value.int (-1) 197), ("_NODE_DONE", 201, Value.int (-2) 200), ("_NodeInfo", 238, Value.ref 40), ("CycleError", 256, Value.ref 55), ("TopologicalSorter", 375, Value.ref 137), ("_law_drawn", 388, Value.ref 148), ("_law_plan", 406, Value.ref 155), ("_law_back", 412, Value.ref 160), ("_law_hold", 425, Value.ref 167), ("_law_told", 432, Value.ref 174), ("_law_rounds", 441, Value.ref 181), ("law", 461, Value.ref 188)] 22
noncomputable def ko20 : Obj := coO "_wall" "_wall" 187 1 1 3 15 181 16 (Value.ref 17) (Value.ref 18) 19 191 192
noncomputable def ko21 : Obj := fnO (topS 0) "_wall" (Value.none) (sv "__main__" 164) 20
noncomputable def ko35 : Obj := coO "__init__" "_NodeInfo.__init__" 218 10 2 3 30 181 31 (Value.ref 32) (Value.ref 33) 34 223 224
noncomputable def ko36 : Obj := fnO (inS 4 1) "_NodeInfo.__init__" (Value.none) (sv "cpy313.graphlib" 194) 35
noncomputable def ko39 (P : Params) : Obj := diO P [("__module__", 209, (sv "cpy313.graphlib" 194)), ("__firstlineno__", 213, Value.int 7 212), ("__slots__", 217, Value.ref 29), ("__init__", 225, Value.ref 36), ("__static_attributes__", 229, Value.ref 37), ("node", 231, Value.ref 41), ("npredecessors", 233, Value.ref 42), ("successors", 235, Value.ref 43), ("__doc__", 236, Value.none)] 5
noncomputable def ko40 : Obj := { cls := Value.type "type", data := Data.cls { name := Str.ofString "_NodeInfo", bases := [Value.type "object"], mro := [Value.ref 40, Value.type "object"], ns := 39, qualname := Str.ofString "_NodeInfo", hasDict := false, slotNames := [Str.ofString "node", Str.ofString "npredecessors", Str.ofString "successors"] }, slots := #[none, none, some ((sv "_NodeInfo" 202)), some ((sv "_NodeInfo" 210)), some (Value.builtin "object.__new__"), some (Value.bool false)] }
noncomputable def ko41 : Obj := fiO "member_descriptor" [(sv "node" 230), Value.ref 40, Value.builtin "proto.slot", Value.builtin "proto.slot#set", Value.int 2 0]
noncomputable def ko42 : Obj := fiO "member_descriptor" [(sv "npredecessors" 232), Value.ref 40, Value.builtin "proto.slot", Value.builtin "proto.slot#set", Value.int 1 0]
noncomputable def ko43 : Obj := fiO "member_descriptor" [(sv "successors" 234), Value.ref 40, Value.builtin "proto.slot", Value.builtin "proto.slot#set", Value.int 0 0]
noncomputable def ko54 (P : Params) : Obj := diO P [("__module__", 246, (sv "cpy313.graphlib" 194)), ("__firstlineno__", 250, Value.int 14 249), ("__static_attributes__", 251, Value.ref 53), ("__weakref__", 253, Value.ref 56), ("__doc__", 254, Value.none)] 3
noncomputable def ko55 : Obj := { cls := Value.type "type", data := Data.cls { name := Str.ofString "CycleError", bases := [Value.type "ValueError"], mro := [Value.ref 55, Value.type "ValueError", Value.type "Exception", Value.type "BaseException", Value.type "object"], ns := 54, qualname := Str.ofString "CycleError" }, slots := #[some (Value.ref 46), none, some ((sv "CycleError" 239)), some ((sv "CycleError" 247)), some (Value.builtin "ValueError.__new__"), some (Value.bool true)] }
noncomputable def ko66 : Obj := tuO [Value.none]
noncomputable def ko72 : Obj := coO "__init__" "TopologicalSorter.__init__" 269 18 2 3 67 181 68 (Value.ref 69) (Value.ref 70) 71 276 277
noncomputable def ko73 : Obj := fnO (inS 6 0) "TopologicalSorter.__init__" (Value.ref 66) (sv "cpy313.graphlib" 194) 72
noncomputable def ko79 : Obj := coO "_get_nodeinfo" "TopologicalSorter._get_nodeinfo" 279 27 2 3 74 181 75 (Value.ref 76) (Value.ref 77) 78 285 286
noncomputable def ko80 : Obj := fnO (inS 6 1) "TopologicalSorter._get_nodeinfo" (Value.none) (sv "cpy313.graphlib" 194) 79
noncomputable def ko86 : Obj := coO "add" "TopologicalSorter.add" 288 32 2 7 81 181 82 (Value.ref 83) (Value.ref 84) 85 297 298
noncomputable def ko87 : Obj := fnO (inS 6 2) "TopologicalSorter.add" (Value.none) (sv "cpy313.graphlib" 194) 86
noncomputable def ko91 : Obj := coO "prepare" "TopologicalSorter.prepare" 300 41 1 3 88 181 89 (Value.none) (Value.none) 90 303 304
noncomputable def ko92 : Obj := fnO (inS 6 3) "TopologicalSorter.prepare" (Value.none) (sv "cpy313.graphlib" 194) 91
noncomputable def ko98 : Obj := coO "get_ready" "TopologicalSorter.get_ready" 306 49 1 3 93 181 94 (Value.ref 95) (Value.ref 96) 97 313 314
noncomputable def ko99 : Obj := fnO (inS 6 4) "TopologicalSorter.get_ready" (Value.none) (sv "cpy313.graphlib" 194) 98
noncomputable def ko105 : Obj := coO "is_active" "TopologicalSorter.is_active" 316 60 1 3 100 181 101 (Value.ref 102) (Value.ref 103) 104 320 321
noncomputable def ko106 : Obj := fnO (inS 6 5) "TopologicalSorter.is_active" (Value.none) (sv "cpy313.graphlib" 194) 105
noncomputable def ko112 : Obj := coO "__bool__" "TopologicalSorter.__bool__" 323 65 1 3 107 181 108 (Value.ref 109) (Value.ref 110) 111 327 328
noncomputable def ko113 : Obj := fnO (inS 6 6) "TopologicalSorter.__bool__" (Value.none) (sv "cpy313.graphlib" 194) 112
noncomputable def ko119 : Obj := coO "done" "TopologicalSorter.done" 330 68 1 7 114 181 115 (Value.ref 116) (Value.ref 117) 118 341 342
noncomputable def ko120 : Obj := fnO (inS 6 7) "TopologicalSorter.done" (Value.none) (sv "cpy313.graphlib" 194) 119
noncomputable def ko126 : Obj := coO "_find_cycle" "TopologicalSorter._find_cycle" 344 91 1 3 121 181 122 (Value.ref 123) (Value.ref 124) 125 354 355
noncomputable def ko127 : Obj := fnO (inS 6 8) "TopologicalSorter._find_cycle" (Value.none) (sv "cpy313.graphlib" 194) 126
noncomputable def ko133 : Obj := coO "static_order" "TopologicalSorter.static_order" 357 120 1 3 128 181 129 (Value.ref 130) (Value.ref 131) 132 361 362
noncomputable def ko134 : Obj := fnO (inS 6 9) "TopologicalSorter.static_order" (Value.none) (sv "cpy313.graphlib" 194) 133
noncomputable def ko136 (P : Params) : Obj := diO P [("__module__", 264, (sv "cpy313.graphlib" 194)), ("__firstlineno__", 268, Value.int 16 267), ("__init__", 278, Value.ref 73), ("_get_nodeinfo", 287, Value.ref 80), ("add", 299, Value.ref 87), ("prepare", 305, Value.ref 92), ("get_ready", 315, Value.ref 99), ("is_active", 322, Value.ref 106), ("__bool__", 329, Value.ref 113), ("done", 343, Value.ref 120), ("_find_cycle", 356, Value.ref 127), ("static_order", 363, Value.ref 134), ("__static_attributes__", 368, Value.ref 135), ("__dict__", 370, Value.ref 138), ("__weakref__", 372, Value.ref 139), ("__doc__", 373, Value.none)] 4
noncomputable def ko137 : Obj := { cls := Value.type "type", data := Data.cls { name := Str.ofString "TopologicalSorter", bases := [Value.type "object"], mro := [Value.ref 137, Value.type "object"], ns := 136, qualname := Str.ofString "TopologicalSorter" }, slots := #[none, none, some ((sv "TopologicalSorter" 257)), some ((sv "TopologicalSorter" 265)), some (Value.builtin "object.__new__"), some (Value.bool true)] }
noncomputable def ko147 : Obj := coO "_law_drawn" "_law_drawn" 378 123 1 3 142 181 143 (Value.ref 144) (Value.ref 145) 146 386 387
noncomputable def ko148 : Obj := fnO (topS 8) "_law_drawn" (Value.none) (sv "law_du0008_03" 376) 147
noncomputable def ko154 : Obj := coO "_law_plan" "_law_plan" 389 136 1 3 149 181 150 (Value.ref 151) (Value.ref 152) 153 404 405
noncomputable def ko155 : Obj := fnO (topS 9) "_law_plan" (Value.none) (sv "law_du0008_03" 376) 154
noncomputable def ko159 : Obj := coO "_law_back" "_law_back" 407 155 1 3 156 181 157 (Value.none) (Value.none) 158 410 411
noncomputable def ko160 : Obj := fnO (topS 10) "_law_back" (Value.none) (sv "law_du0008_03" 376) 159
noncomputable def ko166 : Obj := coO "_law_hold" "_law_hold" 413 157 4 3 161 181 162 (Value.ref 163) (Value.ref 164) 165 423 424
noncomputable def ko167 : Obj := fnO (topS 11) "_law_hold" (Value.none) (sv "law_du0008_03" 376) 166
noncomputable def ko173 : Obj := coO "_law_told" "_law_told" 426 168 1 3 168 181 169 (Value.ref 170) (Value.ref 171) 172 430 431
noncomputable def ko174 : Obj := fnO (topS 12) "_law_told" (Value.none) (sv "law_du0008_03" 376) 173
noncomputable def ko180 : Obj := coO "_law_rounds" "_law_rounds" 433 173 2 3 175 181 176 (Value.ref 177) (Value.ref 178) 179 439 440
noncomputable def ko181 : Obj := fnO (topS 13) "_law_rounds" (Value.none) (sv "law_du0008_03" 376) 180
noncomputable def ko187 : Obj := coO "law" "law" 442 180 1 3 182 181 183 (Value.ref 184) (Value.ref 185) 186 459 460
noncomputable def ko188 : Obj := fnO (topS 14) "law" (Value.none) (sv "law_du0008_03" 376) 187
noncomputable def KF (P : Params) : Frag := [(3, ko3 P), (20, ko20), (21, ko21), (35, ko35), (36, ko36), (39, ko39 P), (40, ko40), (41, ko41), (42, ko42), (43, ko43), (54, ko54 P), (55, ko55), (66, ko66), (72, ko72), (73, ko73), (79, ko79), (80, ko80), (86, ko86), (87, ko87), (91, ko91), (92, ko92), (98, ko98), (99, ko99), (105, ko105), (106, ko106), (112, ko112), (113, ko113), (119, ko119), (120, ko120), (126, ko126), (127, ko127), (133, ko133), (134, ko134), (136, ko136 P), (137, ko137), (147, ko147), (148, ko148), (154, ko154), (155, ko155), (159, ko159), (160, ko160), (166, ko166), (167, ko167), (173, ko173), (174, ko174), (180, ko180), (181, ko181), (187, ko187), (188, ko188)]
noncomputable def KA : List Addr := [3, 20, 21, 35, 36, 39, 40, 41, 42, 43, 54, 55, 66, 72, 73, 79, 80, 86, 87, 91, 92, 98, 99, 105, 106, 112, 113, 119, 120, 126, 127, 133, 134, 136, 137, 147, 148, 154, 155, 159, 160, 166, 167, 173, 174, 180, 181, 187, 188]
theorem KA_eq (P : Params) : KA = (KF P).map (·.1) := by kernel_rfl
noncomputable def LO : List Str := ["_wall", "_NODE_OUT", "_NODE_DONE", "_NodeInfo", "CycleError", "TopologicalSorter", "_law_drawn", "_law_plan", "_law_back", "_law_hold", "_law_told", "_law_rounds"].map Str.ofString
noncomputable def VW : Program := view ROW.prog [14]
noncomputable def lawD : DefRec := ((defOf VW ROW.name).get (by kernel_rfl)).1
theorem left : LeftO ROW.prog VW LO (fun s => xlAt VW [] s && recOk [] s) (Hook.obs (kHook KF KA KA_eq)) (Hook.val (kHook KF KA KA_eq)) 2700 := fun w => by
  unfold openEnds fencedOpening topFrom
  rw [Fast.te10274390034422433532, Fast.te14364793385576792824, Fast.te4187177175401517315, Fast.te14289696077712309145, Fast.te14082659384304107361]
  kernel_rfl
theorem said : ROW.wellSaid = true := by
  rw [Fast.te9446332074065402090]
  kernel_rfl
end Mine

open PySem PySem.W PyProof.Rows
set_option maxRecDepth 100000
namespace Mine
set_option maxHeartbeats 4000000 in
theorem head (hc : WalkO VW LO (XL VW []) (kHook KF KA KA_eq).says ROW.row.toRowW lawD [] fun f vs => PySem.call f vs) : ROW.Holds := by
  refine holds_law said fun rs => ?_
  refine holds_open (q := VW) (loose := LO) (Xt := fun s => xlAt VW [] s && recOk [] s) (XP := XL VW []) (Yf := Hook.obs (kHook KF KA KA_eq)) (Ya := Hook.val (kHook KF KA KA_eq)) (YP := Hook.says (kHook KF KA KA_eq)) (d := lawD) (kwd := []) (N := 2700)
    left (Hook.of _) (Hook.keeps _) (fun s e => xl_of s (Bool.and_eq_true_iff.mp e).1) XL.keeps (by kernel_rfl) (by kernel_rfl) (by kernel_rfl) (fun s e => recFacts_of (Bool.and_eq_true_iff.mp e).2) (by rfl) rs (by decide +kernel) ⟨rfl, rfl, rfl, rfl, rfl, by decide +kernel⟩ ?_ hc
  w_witness2
end Mine

namespace Mine
open PySem PySem.W PyProof.Rows PySem.Calls

noncomputable abbrev KK (w : World) : Frag := KF w.params

structure Lw (c : Cx) : Prop where
  K : c.K = KK c.w
  len : Glob c "len" (.builtin "len")
  bool : Glob c "bool" (.type "bool")
  tuple : Glob c "tuple" (.type "tuple")
  ValueError : Glob c "ValueError" (.type "ValueError")
  NodeInfo : Glob c "_NodeInfo" (.ref CNI)
  set : Glob c "set" (.type "set")
  iter : Glob c "iter" (.builtin "iter")
  StopIteration : Glob c "StopIteration" (.type "StopIteration")
  NODE_OUT : ∃ t, Glob c "_NODE_OUT" (.int (-1) t)
  NODE_DONE : ∃ t, Glob c "_NODE_DONE" (.int (-2) t)

theorem a_node2info {w : World} : AttrOk (KK w) CTS "_node2info" := ⟨by rfl, by rfl, ⟨none, by rfl, by rfl⟩, by rfl, by rfl, by rfl⟩
theorem a_ready {w : World} : AttrOk (KK w) CTS "_ready_nodes" := ⟨by rfl, by rfl, ⟨none, by rfl, by rfl⟩, by rfl, by rfl, by rfl⟩
theorem a_npass {w : World} : AttrOk (KK w) CTS "_npassedout" := ⟨by rfl, by rfl, ⟨none, by rfl, by rfl⟩, by rfl, by rfl, by rfl⟩
theorem a_nfin {w : World} : AttrOk (KK w) CTS "_nfinished" := ⟨by rfl, by rfl, ⟨none, by rfl, by rfl⟩, by rfl, by rfl, by rfl⟩

theorem sl_node {w : World} : SlotOk (KK w) CNI "node" 0 := ⟨by rfl, by rfl, by rfl, by rfl, ⟨_, by rfl, by rfl, by rfl, by rfl, by rfl, by rfl⟩⟩
theorem sl_np {w : World} : SlotOk (KK w) CNI "npredecessors" 1 := ⟨by rfl, by rfl, by rfl, by rfl, ⟨_, by rfl, by rfl, by rfl, by rfl, by rfl, by rfl⟩⟩
theorem sl_su {w : World} : SlotOk (KK w) CNI "successors" 2 := ⟨by rfl, by rfl, by rfl, by rfl, ⟨_, by rfl, by rfl, by rfl, by rfl, by rfl, by rfl⟩⟩

theorem fn_ninit {w : World} : FnOk (KK w) 36 ["self", "node"] [] [] := ⟨rfl, rfl, rfl, rfl, rfl, rfl, rfl, rfl, rfl, by decide +kernel⟩
theorem fn_getinfo {w : World} : FnOk (KK w) 80 ["self", "node"] ["result"] ["_NodeInfo"] := ⟨rfl, rfl, rfl, rfl, rfl, rfl, rfl, rfl, rfl, by decide +kernel⟩
theorem fn_is_active {w : World} : FnOk (KK w) 106 ["self"] [] ["ValueError", "bool"] := ⟨rfl, rfl, rfl, rfl, rfl, rfl, rfl, rfl, rfl, by decide +kernel⟩
theorem makes_NI {w : World} : makesIn (KK w) CNI = true := by rfl
theorem keep_NI {w : World} : keepIn (KK w) (.ref CNI) = true := by rfl
theorem keep_getinfo {w : World} : keepIn (KK w) (.ref 80) = true := by rfl
theorem init_NI {w : World} : findIn (KK w) (.ref CNI) "__init__" = some (some (.ref 36)) := by rfl
theorem fnt_NI {w : World} : typeIn (KK w) (.ref 36) = some (.type "function") := by rfl

theorem fn_add {w : World} : FnOk (KK w) 87 ["self", "node", "predecessors"] ["nodeinfo", "pred", "pred_info"] ["ValueError", "len"] := ⟨rfl, rfl, rfl, rfl, rfl, rfl, rfl, rfl, rfl, by decide +kernel⟩
theorem bind_add {w : World} {u1 u2 : Value} {rest : List Value} : bindArgs (fdOf (KK w) 87) ⟨[u1, u2] ++ rest, []⟩ = (do let t ← newTuple rest; pure ((["self", "node", "predecessors"] : List Str).zip ([u1, u2] ++ [t]))) := by
  cases rest <;> kernel_rfl
theorem bo_getinfo {w : World} : BindOk (KK w) CTS "_get_nodeinfo" 80 := ⟨rfl, rfl, rfl, rfl, rfl, rfl, by decide +kernel⟩
theorem bo_add {w : World} : BindOk (KK w) CTS "add" 87 := ⟨rfl, rfl, rfl, rfl, rfl, rfl, by decide +kernel⟩
theorem bo_done {w : World} : BindOk (KK w) CTS "done" 120 := ⟨rfl, rfl, rfl, rfl, rfl, rfl, by decide +kernel⟩
theorem no_attr {nd : Addr} {rv : AV} {st : SS} {name : Str} (h : codeOf name ∉ (["_node2info", "_ready_nodes", "_npassedout", "_nfinished"] : List Str).map codeOf) : name ∉ (sAttrs nd rv st).map (·.1) := fun q => h (List.mem_map_of_mem q)
theorem fn_tinit {w : World} : FnOk (KK w) 73 ["self", "graph"] ["node", "predecessors"] [] := ⟨rfl, rfl, rfl, rfl, rfl, rfl, rfl, rfl, rfl, by decide +kernel⟩
theorem bind_tinit {w : World} {u : Value} {s : Shared} (X : (KK w).In s.heap) : BindsTo s (fdOf (KK w) 73) ⟨[u], []⟩ ((["self", "graph"] : List Str).zip [u, .none]) :=
  BindsTo.of_defaults rfl (X _ _ rfl) rfl rfl (by kernel_rfl)
theorem makes_TS {w : World} : makesIn (KK w) CTS = true := by rfl
theorem init_TS {w : World} : findIn (KK w) (.ref CTS) "__init__" = some (some (.ref 73)) := by rfl
theorem fnt_TS {w : World} : typeIn (KK w) (.ref 73) = some (.type "function") := by rfl
theorem keep_TS {w : World} : keepIn (KK w) (.ref CTS) = true := by rfl
theorem fn_get_ready {w : World} : FnOk (KK w) 99 ["self"] ["result", "n2i", "node"] ["ValueError", "tuple", "_NODE_OUT", "len"] := ⟨rfl, rfl, rfl, rfl, rfl, rfl, rfl, rfl, rfl, by decide +kernel⟩
theorem fn_done {w : World} : FnOk (KK w) 120 ["self", "nodes"] ["n2i", "node", "nodeinfo", "stat", "successor", "successor_info"] ["ValueError", "_NODE_OUT", "_NODE_DONE"] := ⟨rfl, rfl, rfl, rfl, rfl, rfl, rfl, rfl, rfl, by decide +kernel⟩
theorem bind_done {w : World} {u1 : Value} {rest : List Value} : bindArgs (fdOf (KK w) 120) ⟨[u1] ++ rest, []⟩ = (do let t ← newTuple rest; pure ((["self", "nodes"] : List Str).zip ([u1] ++ [t]))) := by
  cases rest <;> kernel_rfl
theorem fn_find {w : World} : FnOk (KK w) 127 ["self"] ["n2i", "stack", "itstack", "seen", "node2stacki", "node"] ["set", "iter", "len", "StopIteration"] := ⟨rfl, rfl, rfl, rfl, rfl, rfl, rfl, rfl, rfl, by decide +kernel⟩
theorem sAttrs_nd {nd : Addr} {rv : AV} {st : SS} : ((sAttrs nd rv st).map (·.1)).Nodup := nodup_of_codes (by show ((["_node2info", "_ready_nodes", "_npassedout", "_nfinished"] : List Str).map codeOf).Nodup; decide +kernel)

end Mine

open Mine PySem PySem.W PyProof.Rows PySem.Calls
local macro_rules | `(tactic| walk_at "var") => `(tactic| first | with_reducible apply VarAt.here | (with_reducible apply VarAt.there; walk_at "var"))
local macro_rules | `(tactic| walk_at "set") => `(tactic| first | with_reducible apply SetVar.here | (with_reducible apply SetVar.there; walk_at "set"))
local macro_rules | `(tactic| walk_at "mem") => `(tactic| first | with_reducible apply List.mem_cons_self | (with_reducible apply List.mem_cons_of_mem; walk_at "mem"))
local macro_rules | `(tactic| walk_at "st") => `(tactic| with_reducible first
  | (refine W_consG ?_; intro _ _)
  | refine All.ref ?_
  | refine All.none ?_
  | (refine All.int ?_; intro _)
  | refine W_nil ?_
  | (refine W_Name (by assumption) (by walk_at "var") ?_)
  | (refine W_Glob (by assumption) (by walk_at "mem") ?_)
  | refine W_If ?_
  | refine W_isTrue_Compare1 ?_
  | refine W_isTrue_BoolOp ?_
  | refine W_allTrue_or ?_
  | refine W_allTrue_nil ?_
  | refine W_Compare1 ?_
  | refine W_BinOp ?_
  | refine W_And2 ?_
  | refine W_Or2 ?_
  | refine W_UnaryOp ?_
  | refine W_Return_some ?_
  | refine W_Attribute ?_
  | (refine W_Assign_Name ?_)
  | (refine W_Assign_Attr ?_)
  | (refine W_ExprE (by assumption) ?_)
  | (refine W_NamedExpr ?_)
  | (refine W_storeName (by assumption) (by walk_at "set") ?_)
  | refine W_AugAttr ?_
  | refine W_Assign_two ?_
  | refine W_Assign_Sub ?_
  | refine W_assign_Sub ?_
  | refine W_assign_Name ?_
  | refine W_Break ?_
  | refine W_Continue ?_
  | refine W_Const_none ?_
  | refine W_Const_bool ?_
  | (refine W_Const_int ?_; intro _)
  | (refine W_Const_str ?_; intro _)
  | refine W_Call_Name ?_
  | (refine W_Call_method ?_)
  | refine W_List ?_
  | refine W_Tuple ?_
  | refine W_truthy_bool ?_
  | (refine W_callWith ?_)
  | (refine W_args_nil ?_)
  | (refine W_args ?_)
  | (refine W_spl_nil ?_)
  | (refine W_spl ?_)
  | refine W_Subscript ?_
  | refine W_is_none ?_
  | refine W_isnot_none ?_
  | (refine W_lt_int ?_)
  | (refine W_eq_int ?_)
  | (refine W_ne_int ?_)
  | (refine W_add ?_; intro _)
  | (refine W_sub ?_; intro _)
  | (refine W_iadd ?_; intro _)
  | (refine W_isub ?_; intro _)
  | (refine W_neg ?_; intro _)
  | refine W_isTrue_any ?_
  | refine Nx.nx (by assumption) _ ?_
  | refine Nx.br (by assumption) _ ?_
  | refine Nx.co (by assumption) _ ?_
  | refine Nx.re (by assumption) _ _ ?_
  | refine Fx.nx (by assumption) _ _ _ ?_
  | refine Fx.re (by assumption) _ _ _ _ ?_
  | (apply ite_t; · with_unfolding_all rfl)
  | (apply ite_f; · with_unfolding_all exact Bool.false_ne_true))
namespace Mine
open PySem PySem.W PyProof.Rows PySem.Calls

section
variable {c : Cx} {A : Around} {E : Value → AS → Prop} {fs : List Frm} {σ : Addr → Option (Nat × Cell)} {g : Array GenState} {d : Nat} {x dx nd : Addr} {rv : AV} {as : List NAd} {ep : Nat} {st : SS}
theorem ninit_spec {u : Value} {k : AV} {y dy : Addr} {R : Result → AS → Prop} (lw : Lw c) (hA : AOk A fs (d + 1)) (hu : er u = k) (hk : k.isKey = true) (hy : σ y = some (1, .inst CNI dy [])) (hdy : σ dy = some (1, .attrs []))
    (h : ∀ s σ', σ s = none → s ≠ y → σ' = upd (upd σ s (some (2, .list []))) y (some (1, .inst CNI dy [some k, some (.int 0), some (.ref s)])) → R (.ok (.ret .none)) ⟨fs, σ', g⟩) : Wk c A (.call (.ref 36) ⟨[.ref y, u], []⟩) R ⟨fs, σ, g⟩ := by
  refine Wk_call_G lw.K (ns := ["self", "node"]) (us := [.ref y, k]) (gs := []) fn_ninit rfl (by kernel_rfl) (by simp [hu]) (.cons (.cons .nil)) (by simp) hA (fun L env B P X hfr hh hL hA' hout hE hF hU => ?_)
  have ne : dy ≠ y := fun q => by rw [q, hy] at hdy; cases hdy
  refine W_consG (fun _ _ => ?_)
  repeat walk_at "st"
  refine All.key hk fun u' e' => ?_
  repeat walk_at "st"
  refine W_setSlot hy hdy (lw.K ▸ sl_node) (by decide) ?_
  repeat walk_at "st"
  refine W_setSlot upd_self (by rw [upd_ne ne]; exact hdy) (lw.K ▸ sl_np) (by decide) ?_
  repeat walk_at "st"
  refine W_newList 2 (by simp) (fun s h0 σ' e => ?_)
  subst e
  repeat walk_at "st"
  have hs : σ s = none ∧ s ≠ y := by
    rw [upd_upd] at h0
    by_cases q : s = y
    · subst q; simp at h0
    · rw [upd_ne q] at h0; exact ⟨h0, q⟩
  refine W_setSlot (by rw [upd_ne (Ne.symm hs.2)]; exact upd_self) (by rw [upd_ne (fun q => by rw [← q, hdy] at hs; cases hs.1), upd_ne ne, upd_ne ne]; exact hdy) (lw.K ▸ sl_su) (by decide) ?_
  repeat walk_at "st"
  refine h s _ hs.1 hs.2 ?_
  subst e'
  funext z
  by_cases q1 : z = y
  · subst q1; simp [upd, padSet]
  · by_cases q2 : z = s
    · subst q2; simp [upd, q1]
    · simp [upd, q1, q2]

theorem getinfo_spec {u : Value} {k : AV} {Q : Value → AS → Prop} (lw : Lw c) (hA : AOk A fs (d + 3)) (S : SAt σ x st dx nd rv as ep) (hu : er u = k) (hk : k.isKey = true) (hz : st.keys.length ≤ 100000)
    (h : ∀ σ' (as' : List NAd) ep' (j : Nat) (p : NAd) st', Ext [1, 2] σ σ' → st' = { st with keys := if k ∈ st.keys then st.keys else st.keys ++ [k] } → SAt σ' x st' dx nd rv as' ep' → st'.keys[j]? = some k → as'[j]? = some p → Q (.ref p.i) ⟨fs, σ', g⟩) :
    W c A (call (.ref 80) [.ref x, u]) Q E ⟨fs, σ, g⟩ := by
  refine W_call_G lw.K (ns := ["self", "node", "result"]) (us := [.ref x, k]) (gs := [("_NodeInfo", .ref CNI)]) fn_getinfo rfl (by kernel_rfl) (by simp [hu]) (.cons (.cons (.rest .nil))) (by simp [lw.NodeInfo]) hA (fun L env B P X hfr hh hL hA' hout hE hF hU => ?_)
  refine W_consG (fun _ _ => ?_)
  repeat walk_at "st"
  refine W_getAttr S.x S.dx (lw.K ▸ a_node2info) sAttrs_nd (by walk_at "mem") ?_
  intro pl
  refine W_meth_dict F.slot_dict_get F.type_dict_get S.nd ?_
  repeat walk_at "st"
  refine All.key hk fun u' e' => ?_
  repeat walk_at "st"
  refine ⟨Kp.builtin, W_dict_get S.nd (by rw [e']; exact hk) ?_⟩
  rw [e']
  by_cases hin : k ∈ st.keys
  · obtain ⟨j, p, hj, hp, hg⟩ := S.find hin
    rw [hg]
    show All (.ref p.i) _
    repeat walk_at "st"
    refine h σ as ep j p _ Ext.refl rfl ?_ ?_ hp
    · rw [if_pos hin]; exact S
    · rw [if_pos hin]; exact hj
  · rw [S.find_none hin]
    show All .none _
    repeat walk_at "st"
    refine All.key hk fun u2 e2 => ?_
    repeat walk_at "st"
    refine ⟨Kp.inK (lw.K ▸ keep_NI), W_make 1 (lw.K ▸ makes_NI) (lw.K ▸ init_NI) (lw.K ▸ fnt_NI) (fun y dy hy hdy hne σ1 e1 => ?_)⟩
    refine ninit_spec lw (d := d) ?_ e2 hk (by rw [e1]; exact upd_self) (by rw [e1, upd_ne (Ne.symm hne)]; exact upd_self) (fun s σ2 hs hsy e3 => ⟨rfl, ?_⟩)
    · exact hA'.vs.underMake
    repeat walk_at "st"
    have s1 : σ s = none ∧ s ≠ dy := by
      rw [e1, upd_ne hsy] at hs
      by_cases q : s = dy
      · rw [q] at hs; simp at hs
      · rw [upd_ne q] at hs; exact ⟨hs, q⟩
    have X1 : Ext [] σ σ2 := by
      rw [e3, e1]
      intro z k' cl' q _
      have n1 : z ≠ y := fun e => by rw [e, hy] at q; cases q
      have n2 : z ≠ dy := fun e => by rw [e, hdy] at q; cases q
      have n3 : z ≠ s := fun e => by rw [e, s1.1] at q; cases q
      simp only [upd_ne n1, upd_ne n2, upd_ne n3]; exact q
    have N : NdAt σ2 ⟨y, dy, s⟩ k 0 [] := by
      rw [e3, e1]
      refine ⟨upd_self, ?_, ?_⟩
      · dsimp only; rw [upd_ne (Ne.symm hne), upd_ne (Ne.symm s1.2), upd_ne (Ne.symm hne)]; exact upd_self
      · dsimp only; rw [upd_ne hsy]; exact upd_self
    have S2 := S.ext X1 (by simp) (by simp)
    refine W_getAttr S2.x S2.dx (lw.K ▸ a_node2info) sAttrs_nd (by walk_at "mem") ?_
    repeat walk_at "st"
    refine All.key hk fun u3 e4 => ?_
    refine W_dict_set S2.nd (by rw [e4]; exact hk) (by simp [S.len]; omega) (fun ep' σ3 e5 => ?_)
    rw [e4, dset_zip (by simp [S.len]) hin] at e5
    repeat walk_at "st"
    have S3 := S.new (p := ⟨y, dy, s⟩) (ep' := ep') hin hk X1 hy s1.1 N
    refine h σ3 (as ++ [⟨y, dy, s⟩]) ep' st.keys.length ⟨y, dy, s⟩ _ ?_ rfl ?_ ?_ ?_
    · rw [e5]; exact X1.nil.trans (Ext.upd_own S2.nd (by simp))
    · rw [if_neg hin, e5]
      have : (as ++ [(⟨y, dy, s⟩ : NAd)]).map (fun p => AV.ref p.i) = as.map (fun p => AV.ref p.i) ++ [er (Value.ref y)] := by simp
      rw [← this]; exact S3
    · rw [if_neg hin]; simp
    · rw [← S.len]; simp

theorem is_active_spec {l : List AV} {Q : Value → AS → Prop} (lw : Lw c) (hA : AOk A fs (d + 1)) (S : SAt σ x st dx nd rv as ep) (hr : st.ready = some l) (hz : l.length ≤ 1000000)
    (h : Q (.bool (decide (st.nfin < st.npass) || !l.isEmpty)) ⟨fs, σ, g⟩) : W c A (call (.ref 106) [.ref x]) Q E ⟨fs, σ, g⟩ := by
  have rd := S.rdy
  rw [hr] at rd
  obtain ⟨b, rfl, hb⟩ := rd
  refine W_call_G lw.K (ns := ["self"]) (us := [.ref x]) (gs := [("ValueError", .type "ValueError"), ("bool", .type "bool")]) fn_is_active rfl (by kernel_rfl) rfl (.cons .nil) (by simp [lw.ValueError, lw.bool]) hA (fun L env B P X hfr hh hL hA' hout hE hF hU => ?_)
  refine W_consG (fun _ _ => ?_)
  repeat walk_at "st"
  refine W_getAttr S.x S.dx (lw.K ▸ a_ready) sAttrs_nd (by walk_at "mem") ?_
  repeat walk_at "st"
  refine W_getAttr S.x S.dx (lw.K ▸ a_nfin) sAttrs_nd (by walk_at "mem") ?_
  repeat walk_at "st"
  refine W_getAttr S.x S.dx (lw.K ▸ a_npass) sAttrs_nd (by walk_at "mem") ?_
  repeat walk_at "st"
  by_cases q : st.nfin < st.npass
  · simp only [q, decide_true, if_true]
    repeat walk_at "st"
    simpa [q] using h
  · simp only [q, decide_false, Bool.false_eq_true, if_false]
    repeat walk_at "st"
    refine W_getAttr S.x S.dx (lw.K ▸ a_ready) sAttrs_nd (by walk_at "mem") ?_
    repeat walk_at "st"
    refine ⟨Kp.type, W_bool_list hb hz ?_⟩
    repeat walk_at "st"
    simpa [q] using h
end
end Mine

namespace Mine
open PySem PySem.W PyProof.Rows PySem.Calls

section
variable {c : Cx} {A : Around} {E : Value → AS → Prop} {fs : List Frm} {σ : Addr → Option (Nat × Cell)} {g : Array GenState} {d : Nat} {x dx nd : Addr} {rv : AV} {as : List NAd} {ep : Nat} {st : SS}
theorem add_spec {u : Value} {k : AV} {us : List Value} {ps : List AV} {N : Nat} {R : Result → AS → Prop} (lw : Lw c) (hA : AOk A fs (d + 4)) (S : SAt σ x st dx nd rv as ep) (hr : st.ready = none) (hF : st.Fit N) (hN : N + ps.length + 1 ≤ 100000)
    (hu : er u = k) (hk : k.isKey = true) (hus : us.map er = ps) (hps : ∀ p ∈ ps, p.isKey = true)
    (h : ∀ σ' as' ep', Ext [1, 2] σ σ' → SAt σ' x (st.add k ps) dx nd rv as' ep' → R (.ok (.ret .none)) ⟨fs, σ', g⟩) :
    Wk c A (.call (.ref 87) ⟨.ref x :: u :: us, []⟩) R ⟨fs, σ, g⟩ := by
  have hrv : rv = .none := by have := S.rdy; rw [hr] at this; exact this
  subst hrv
  have hlen : us.length = ps.length := by rw [← hus]; simp
  refine Wk_call_GS (pre := [.ref x, u]) (rest := us) lw.K (ns := ["self", "node", "predecessors", "nodeinfo", "pred", "pred_info"]) (us := [.ref x, k]) (vs := fun t => [some (.ref x), some k, some (.ref t), none, none, none])
    (gs := [("ValueError", .type "ValueError"), ("len", .builtin "len")]) fn_add rfl bind_add (by simp [hu]) (fun t => .cons (.cons (.cons (.rest (.rest (.rest .nil)))))) (by simp [lw.ValueError, lw.len]) hA (by omega) (fun L env t σ1 B P X hfr hh ht e1 hL hA' hout hE hFx hUx => ?_)
  rw [hus] at e1
  have X1 : Ext [] σ σ1 := by rw [e1]; exact Ext.upd_new ht
  have S1 := S.ext X1 (by simp) (by simp)
  have ht1 : σ1 t = some (0, .tuple ps) := by rw [e1]; exact upd_self
  refine W_consG (fun _ _ => ?_)
  repeat walk_at "st"
  refine W_getAttr S1.x S1.dx (lw.K ▸ a_ready) sAttrs_nd (by walk_at "mem") ?_
  repeat walk_at "st"
  intro pl
  refine W_getMethod S1.x S1.dx (lw.K ▸ bo_getinfo.get) (lw.K ▸ bo_getinfo.find) (lw.K ▸ bo_getinfo.fn) (no_attr (by decide +kernel)) ?_
  repeat walk_at "st"
  refine All.key hk fun u2 e2 => ?_
  repeat walk_at "st"
  refine ⟨Kp.inK (lw.K ▸ keep_getinfo), getinfo_spec lw (d := d) hA' S1 e2 hk (by have := hF.keys; omega) (fun σ2 as2 ep2 j p st2 X2 e3 S2 hj hp => ?_)⟩
  repeat walk_at "st"
  have N2 := S2.nds j p k hp hj
  refine W_getSlot N2.i N2.d (lw.K ▸ sl_np) (by rfl) ?_
  repeat walk_at "st"
  have ht2 : σ2 t = some (0, .tuple ps) := X2 _ _ _ ht1 (by simp)
  refine ⟨Kp.builtin, W_len_tuple ht2 (by omega) (fun t2 => ?_)⟩
  repeat walk_at "st"
  refine W_setSlot N2.i N2.d (lw.K ▸ sl_np) (by decide) ?_
  have S3 := S2.setNp (n := st2.np k + ps.length) hj hp
  generalize e4 : upd σ2 p.i _ = σ3
  have e4' : upd σ2 p.i (some (1, .inst CNI p.d [some k, some (.int (st2.np k + ps.length)), some (.ref p.s)])) = σ3 := e4
  rw [e4'] at S3
  have X3 : Ext [1, 2] σ2 σ3 := by rw [← e4']; exact Ext.upd_own N2.i (by simp)
  have ht3 : σ3 t = some (0, .tuple ps) := X3 _ _ _ ht2 (by simp)
  have est : ({ st2 with np := fset st2.np k (st2.np k + ps.length) } : SS) = st.addN k ps.length := by rw [e3]; rfl
  rw [est] at S3
  repeat walk_at "st"
  refine W_For ?_
  repeat walk_at "st"
  refine W_iter_tuple ht3 (fun it h0 σ4 e5 => ?_)
  refine Wk_loopG (IterOf.tuple (k := 0) hh) [1, 2] (by simp) (by simp)
    (fun i vv σ => ∃ b1 b2 as' ep', vv = [some (.ref x), some k, some (.ref t), some (.ref p.i), b1, b2] ∧ SAt σ x ((ps.take i).foldl (fun s p => s.succ k p) (st.addN k ps.length)) dx nd .none as' ep')
    (fun i vv σ σ' ⟨b1, b2, as', ep', hv, S⟩ X => ⟨b1, b2, as', ep', hv, S.ext X (by simp) (by simp)⟩) h0 e5
    (by rw [e5, upd_ne (fun q => by rw [← q, ht3] at h0; cases h0)]; exact ht3) ⟨_, _, as2, ep2, rfl, S3⟩ ?_ ?_
  · rintro i v vv σ5 u5 P5 X5 hP5 hX5 ⟨b1, b2, as5, ep5, rfl, S5⟩ hv eu hsrc Y5
    have hi : i < ps.length := (List.getElem?_eq_some_iff.mp hv).1
    have hvk : v.isKey = true := hps v (List.mem_of_getElem? hv)
    have F5 : ((ps.take i).foldl (fun s p => s.succ k p) (st.addN k ps.length)).Fit (N + 1 + i) := by
      have := (hF.addN (k := k) (n := ps.length)).succs (k := k) (ps := ps.take i)
      rwa [List.length_take, Nat.min_eq_left (by omega)] at this
    repeat walk_at "st"
    intro pl
    refine W_getMethod S5.x S5.dx (lw.K ▸ bo_getinfo.get) (lw.K ▸ bo_getinfo.find) (lw.K ▸ bo_getinfo.fn) (no_attr (by decide +kernel)) ?_
    repeat walk_at "st"
    rw [eu]
    refine All.key hvk fun u6 e6 => ?_
    repeat walk_at "st"
    refine ⟨Kp.inK (lw.K ▸ keep_getinfo), getinfo_spec lw (d := d) hA'.vs S5 e6 hvk (by have := F5.keys; omega) (fun σ6 as6 ep6 j6 p6 st6 X6 e7 S6 hj6 hp6 => ?_)⟩
    repeat walk_at "st"
    have N6 := S6.nds j6 p6 v hp6 hj6
    refine W_getSlot N6.i N6.d (lw.K ▸ sl_su) (by rfl) ?_
    repeat walk_at "st"
    intro pl
    refine W_meth_list F.slot_list_append F.type_list_append N6.s ?_
    repeat walk_at "st"
    refine All.key hk fun u8 e8 => ?_
    repeat walk_at "st"
    refine ⟨Kp.builtin, W_append N6.s ?_ (fun σ7 e9 => ?_)⟩
    · rw [e7]; have := F5.su v; dsimp only; omega
    repeat walk_at "st"
    have S7 := S6.setSu (su := st6.su v ++ [k]) hj6 hp6
    rw [e8] at e9
    rw [← e9] at S7
    refine hP5.nx _ σ7 (X6.trans (by rw [e9]; exact Ext.upd_own N6.s (by simp))) ⟨_, _, as6, ep6, rfl, ?_⟩
    have : (ps.take (i + 1)).foldl (fun s p => s.succ k p) (st.addN k ps.length) = { st6 with su := fset st6.su v (st6.su v ++ [k]) } := by
      rw [List.take_add_one, hv, List.foldl_append, e7]; rfl
    rw [this]; exact S7
  · rintro vv σ5 ⟨b1, b2, as5, ep5, rfl, S5⟩ X5
    repeat walk_at "st"
    rw [List.take_length] at S5
    exact h σ5 as5 ep5 (X1.nil.trans (X2.trans (X3.trans X5))) S5
end
end Mine

namespace Mine
open PySem PySem.W PyProof.Rows PySem.Calls

section
variable {c : Cx} {A : Around} {E : Value → AS → Prop} {fs : List Frm} {σ : Addr → Option (Nat × Cell)} {g : Array GenState} {d : Nat} {x dx nd : Addr} {rv : AV} {as : List NAd} {ep : Nat} {st : SS}

theorem tinit_spec {y dy : Addr} {R : Result → AS → Prop} (lw : Lw c) (hA : AOk A fs (d + 1)) (hy : σ y = some (1, .inst CTS dy [])) (hdy : σ dy = some (1, .attrs []))
    (h : ∀ σ' nd, Ext [1] σ σ' → SAt σ' y ⟨[], fun _ => 0, fun _ => [], none, 0, 0⟩ dy nd .none [] 0 → R (.ok (.ret .none)) ⟨fs, σ', g⟩) : Wk c A (.call (.ref 73) ⟨[.ref y], []⟩) R ⟨fs, σ, g⟩ := by
  refine Wk_call_GD lw.K (vals := [.ref y, .none]) (ns := ["self", "graph", "node", "predecessors"]) (us := [.ref y, .none]) (gs := []) fn_tinit rfl (fun s X => bind_tinit X) rfl (.cons (.cons (.rest (.rest .nil)))) (by simp) hA (fun L env B P X hfr hh hL hA' hout hE hFx hUx => ?_)
  have ne : dy ≠ y := fun q => by rw [q, hy] at hdy; cases hdy
  refine W_consG (fun _ _ => ?_)
  repeat walk_at "st"
  refine W_Dict_nil (W_newDict 1 (fun nd h0 σ1 e1 => ?_))
  repeat walk_at "st"
  have n1 : y ≠ nd := fun q => by rw [← q, hy] at h0; cases h0
  have n2 : dy ≠ nd := fun q => by rw [← q, hdy] at h0; cases h0
  have y1 : σ1 y = some (1, .inst CTS dy []) := by rw [e1, upd_ne n1]; exact hy
  refine W_setAttr y1 (by rw [e1, upd_ne n2]; exact hdy) (lw.K ▸ a_node2info) .new (by simp) (by simp) ?_
  repeat walk_at "st"
  refine W_setAttr (by rw [upd_ne (Ne.symm ne)]; exact y1) upd_self (lw.K ▸ a_ready) (.there .new) (nodup_of_codes (by show ((["_node2info", "_ready_nodes"] : List Str).map codeOf).Nodup; decide +kernel)) (by simp) ?_
  rw [upd_upd]
  repeat walk_at "st"
  refine W_setAttr (by rw [upd_ne (Ne.symm ne)]; exact y1) upd_self (lw.K ▸ a_npass) (.there (.there .new)) (nodup_of_codes (by show ((["_node2info", "_ready_nodes", "_npassedout"] : List Str).map codeOf).Nodup; decide +kernel)) (by simp) ?_
  rw [upd_upd]
  repeat walk_at "st"
  refine W_setAttr (by rw [upd_ne (Ne.symm ne)]; exact y1) upd_self (lw.K ▸ a_nfin) (.there (.there (.there .new))) (nodup_of_codes (by show ((["_node2info", "_ready_nodes", "_npassedout", "_nfinished"] : List Str).map codeOf).Nodup; decide +kernel)) (by simp) ?_
  rw [upd_upd]
  repeat walk_at "st"
  refine h _ nd ?_ ⟨by rw [upd_ne (Ne.symm ne)]; exact y1, upd_self, ?_, rfl, by simp, rfl, .nil, .nil, by simp, .nil, fun _ _ => ⟨rfl, rfl⟩⟩
  · rw [e1]; exact (Ext.upd_new h0).trans (Ext.upd_own (by rw [upd_ne n2]; exact hdy) (by simp))
  · rw [upd_ne (Ne.symm n2), e1]; exact upd_self

theorem get_ready_spec {l : List AV} {Q : Value → AS → Prop} (lw : Lw c) (hA : AOk A fs (d + 1)) (S : SAt σ x st dx nd rv as ep) (hr : st.ready = some l) (hl : ∀ k ∈ l, k ∈ st.keys) (hz : l.length ≤ 100000)
    (h : ∀ t σ', σ t = none → Ext [1] σ σ' → σ' t = some (0, .tuple l) → SAt σ' x (st.getReady l) dx nd rv as ep → Q (.ref t) ⟨fs, σ', g⟩) : W c A (call (.ref 99) [.ref x]) Q E ⟨fs, σ, g⟩ := by
  have rd := S.rdy
  rw [hr] at rd
  obtain ⟨b, rfl, hb⟩ := rd
  obtain ⟨tO, gO⟩ := lw.NODE_OUT
  refine W_call_G lw.K (ns := ["self", "result", "n2i", "node"]) (us := [.ref x]) (gs := [("ValueError", .type "ValueError"), ("tuple", .type "tuple"), ("_NODE_OUT", .int (-1) tO), ("len", .builtin "len")]) fn_get_ready rfl (by kernel_rfl) rfl (.cons (.rest (.rest (.rest .nil)))) (by simp [lw.ValueError, lw.tuple, lw.len, gO]) hA (fun L env B P X hfr hh hL hA' hout hE hFx hUx => ?_)
  refine W_consG (fun _ _ => ?_)
  repeat walk_at "st"
  refine W_getAttr S.x S.dx (lw.K ▸ a_ready) sAttrs_nd (by walk_at "mem") ?_
  repeat walk_at "st"
  refine W_getAttr S.x S.dx (lw.K ▸ a_ready) sAttrs_nd (by walk_at "mem") ?_
  repeat walk_at "st"
  refine ⟨Kp.type, W_tuple_list 0 hb (by omega) (fun t h0 σ1 e1 => ?_)⟩
  have X1 : Ext [] σ σ1 := by rw [e1]; exact Ext.upd_new h0
  have S1 := S.ext X1 (by simp) (by simp)
  have ht1 : σ1 t = some (0, .tuple l) := by rw [e1]; exact upd_self
  repeat walk_at "st"
  refine W_getAttr S1.x S1.dx (lw.K ▸ a_node2info) sAttrs_nd (by walk_at "mem") ?_
  repeat walk_at "st"
  refine W_For ?_
  repeat walk_at "st"
  refine W_iter_tuple ht1 (fun it h1 σ2 e2 => ?_)
  refine Wk_loopG (IterOf.tuple (k := 0) hh) [1] (by simp) (by simp)
    (fun i vv σ => ∃ b1, vv = [some (.ref x), some (.ref t), some (.ref nd), b1] ∧ SAt σ x { st with np := SS.out st.np (l.take i) } dx nd (.ref b) as ep)
    (fun i vv σ σ' ⟨b1, hv, S⟩ X => ⟨b1, hv, S.ext X (by simp) (by simp)⟩) h1 e2
    (by rw [e2, upd_ne (fun q => by rw [← q, ht1] at h1; cases h1)]; exact ht1) ⟨_, rfl, S1⟩ ?_ ?_
  · rintro i v vv σ5 u5 P5 X5 hP5 hX5 ⟨b1, rfl, S5⟩ hv eu hsrc Y5
    have hvk := hl v (List.mem_of_getElem? hv)
    have hkey := S.key v hvk
    obtain ⟨j, p, hj, hp, hg⟩ := S5.find hvk
    have N5 := S5.nds j p v hp hj
    repeat walk_at "st"
    rw [eu]
    refine All.key hkey fun u6 e6 => ?_
    repeat walk_at "st"
    refine ⟨noGet_dict S5.nd, W_dict_item S5.nd (by rw [e6]; exact hkey) (by rw [e6]; exact hg) ?_⟩
    repeat walk_at "st"
    refine W_setSlot N5.i N5.d (lw.K ▸ sl_np) (by decide) ?_
    repeat walk_at "st"
    have S6 := S5.setNp (n := -1) hj hp
    refine hP5.nx _ _ (Ext.upd_own N5.i (by simp)) ⟨_, rfl, ?_⟩
    have : SS.out st.np (l.take (i + 1)) = fset (SS.out st.np (l.take i)) v (-1) := by
      unfold SS.out; rw [List.take_add_one, hv, List.foldl_append]; rfl
    rw [this]; exact S6
  · rintro vv σ5 ⟨b1, rfl, S5⟩ X5
    rw [List.take_length] at S5
    have ht5 : σ5 t = some (0, .tuple l) := X5 _ _ _ ht1 (by simp)
    repeat walk_at "st"
    refine W_getAttr S5.x S5.dx (lw.K ▸ a_ready) sAttrs_nd (by walk_at "mem") ?_
    repeat walk_at "st"
    intro pl
    have hb5 : σ5 b = some (1, .list l) := by
      have := S5.rdy
      dsimp only at this
      rw [hr] at this
      obtain ⟨b', q1, q2⟩ := this
      cases q1; exact q2
    refine W_meth_list F.slot_list_clear F.type_list_clear hb5 ?_
    repeat walk_at "st"
    refine ⟨Kp.builtin, W_clear hb5 (by omega) (fun σ6 e6 => ?_)⟩
    have S6 := S5.setReady (l' := []) hr rfl
    rw [← e6] at S6
    have X6 : Ext [1] σ5 σ6 := by rw [e6]; exact Ext.upd_own hb5 (by simp)
    repeat walk_at "st"
    refine W_getAttr S6.x S6.dx (lw.K ▸ a_npass) sAttrs_nd (by walk_at "mem") ?_
    repeat walk_at "st"
    refine ⟨Kp.builtin, W_len_tuple (X6 _ _ _ ht5 (by simp)) (by omega) (fun t2 => ?_)⟩
    repeat walk_at "st"
    refine W_setAttr S6.x S6.dx (lw.K ▸ a_npass) (.there (.there .here)) sAttrs_nd (by simp) ?_
    have S7 := S6.setAttrs (st' := st.getReady l) (rv' := .ref b) rfl rfl rfl S6.rdy
    repeat walk_at "st"
    refine h t _ h0 ?_ ?_ S7
    · exact X1.nil.trans (X5.trans (X6.trans (Ext.upd_own S6.dx (by simp))))
    · rw [upd_ne (fun q => by have := S6.dx; rw [← q, X6 _ _ _ ht5 (by simp)] at this; cases this)]
      exact X6 _ _ _ ht5 (by simp)
end
end Mine

namespace Mine
open PySem PySem.W PyProof.Rows PySem.Calls

section
variable {c : Cx} {A : Around} {E : Value → AS → Prop} {fs : List Frm} {σ : Addr → Option (Nat × Cell)} {g : Array GenState} {d : Nat} {x dx nd : Addr} {rv : AV} {as : List NAd} {ep : Nat} {st : SS}

set_option maxHeartbeats 4000000 in
theorem done_spec {us : List Value} {l : List AV} {N : Nat} {R : Result → AS → Prop} (lw : Lw c) (hA : AOk A fs (d + 1)) (S : SAt σ x st dx nd rv as ep) (hr : st.ready.isSome = true) (hN : ∀ k, (st.su k).length ≤ N) (hz : st.rl + N * (l.length + 1) ≤ 1000000) (hlz : l.length ≤ 1000000)
    (hus : us.map er = l) (hk : ∀ k ∈ l, k ∈ st.keys) (hsu : ∀ k s, s ∈ st.su k → s ∈ st.keys) (hgood : ∀ i k, l[i]? = some k → (st.done (l.take i)).np k = -1)
    (h : ∀ σ', Ext [1] σ σ' → SAt σ' x (st.done l) dx nd rv as ep → R (.ok (.ret .none)) ⟨fs, σ', g⟩) :
    Wk c A (.call (.ref 120) ⟨.ref x :: us, []⟩) R ⟨fs, σ, g⟩ := by
  obtain ⟨l0, hl0⟩ := Option.isSome_iff_exists.mp hr
  have rd := S.rdy
  rw [hl0] at rd
  obtain ⟨b, rfl, hb⟩ := rd
  obtain ⟨tO, gO⟩ := lw.NODE_OUT
  obtain ⟨tD, gD⟩ := lw.NODE_DONE
  have hlen : us.length = l.length := by rw [← hus]; simp
  refine Wk_call_GS (pre := [.ref x]) (rest := us) lw.K (ns := ["self", "nodes", "n2i", "node", "nodeinfo", "stat", "successor", "successor_info"]) (us := [.ref x]) (vs := fun t => [some (.ref x), some (.ref t), none, none, none, none, none, none])
    (gs := [("ValueError", .type "ValueError"), ("_NODE_OUT", .int (-1) tO), ("_NODE_DONE", .int (-2) tD)]) fn_done rfl bind_done rfl (fun t => .cons (.cons (.rest (.rest (.rest (.rest (.rest (.rest .nil)))))))) (by simp [lw.ValueError, gO, gD]) hA (by rw [hlen]; exact hlz) (fun L env t σ1 B P X hfr hh ht e1 hL hA' hout hE hFx hUx => ?_)
  rw [hus] at e1
  have X1 : Ext [] σ σ1 := by rw [e1]; exact Ext.upd_new ht
  have S1 := S.ext X1 (by simp) (by simp)
  have ht1 : σ1 t = some (0, .tuple l) := by rw [e1]; exact upd_self
  refine W_consG (fun _ _ => ?_)
  repeat walk_at "st"
  refine W_getAttr S1.x S1.dx (lw.K ▸ a_ready) sAttrs_nd (by walk_at "mem") ?_
  repeat walk_at "st"
  refine W_getAttr S1.x S1.dx (lw.K ▸ a_node2info) sAttrs_nd (by walk_at "mem") ?_
  repeat walk_at "st"
  refine W_cutN (fun a' => ∃ vv σ', a' = ⟨⟨L, [], ["self", "nodes", "n2i", "node", "nodeinfo", "stat", "successor", "successor_info"], vv⟩ :: fs, σ', g⟩ ∧ Ext [1] σ1 σ' ∧ SAt σ' x (st.done l) dx nd (.ref b) as ep) ?_ ?_
  rotate_left
  · rintro a' ⟨vv, σ', rfl, X, S⟩
    repeat walk_at "st"
    exact h σ' (X1.nil.trans X) S
  intro Pc hPc
  refine W_For ?_
  repeat walk_at "st"
  refine W_iter_tuple ht1 (fun it h1 σ2 e2 => ?_)
  refine Wk_loopG (IterOf.tuple (k := 0) hh) [1] (by simp) (by simp)
    (fun i vv σ => ∃ b1 b2 b3 b4 b5, vv = [some (.ref x), some (.ref t), some (.ref nd), b1, b2, b3, b4, b5] ∧ SAt σ x (st.done (l.take i)) dx nd (.ref b) as ep)
    (fun i vv σ σ' ⟨b1, b2, b3, b4, b5, hv, S⟩ X => ⟨b1, b2, b3, b4, b5, hv, S.ext X (by simp) (by simp)⟩) h1 e2
    (by rw [e2, upd_ne (fun q => by rw [← q, ht1] at h1; cases h1)]; exact ht1) ⟨_, _, _, _, _, rfl, S1⟩ ?_ ?_
  · rintro i k vv σ5 u5 P5 E5 hP5 hE5 ⟨b1, b2, b3, b4, b5, rfl, S5⟩ hv eu hsrc X5
    obtain ⟨q1, q2, q3, q4, q5, q6⟩ := SS.done_same (l := l.take i) hN
    generalize hst5 : st.done (l.take i) = st5 at *
    have hkm : k ∈ st5.keys := by rw [q1]; exact hk k (List.mem_of_getElem? hv)
    have hkey := S5.key k hkm
    have hnp := hgood i k hv
    rw [hst5] at hnp
    obtain ⟨j, p, hj, hp, hg⟩ := S5.find hkm
    have N5 := S5.nds j p k hp hj
    repeat walk_at "st"
    intro pl
    refine W_meth_dict F.slot_dict_get F.type_dict_get S5.nd ?_
    repeat walk_at "st"
    rw [eu]
    refine All.key hkey fun u6 e6 => ?_
    repeat walk_at "st"
    refine ⟨Kp.builtin, W_dict_get S5.nd (by rw [e6]; exact hkey) ?_⟩
    rw [e6, hg]
    show All (.ref p.i) _
    repeat walk_at "st"
    refine W_getSlot N5.i N5.d (lw.K ▸ sl_np) (by rfl) ?_
    rw [hnp]
    repeat walk_at "st"
    refine W_setSlot N5.i N5.d (lw.K ▸ sl_np) (by decide) ?_
    have S6 := S5.setNp (n := -2) hj hp
    have X6 : Ext [1] σ5 (upd σ5 p.i (some (1, .inst CNI p.d [some k, some (.int (-2)), some (.ref p.s)]))) := Ext.upd_own N5.i (by simp)
    generalize e7 : upd σ5 p.i _ = σ6
    have e7' : upd σ5 p.i (some (1, .inst CNI p.d [some k, some (.int (-2)), some (.ref p.s)])) = σ6 := e7
    rw [e7'] at S6 X6
    have N6 := S6.nds j p k hp hj
    dsimp only at N6
    repeat walk_at "st"
    refine W_cutN (fun a' => ∃ b4 b5 σ', a' = ⟨⟨L, [], ["self", "nodes", "n2i", "node", "nodeinfo", "stat", "successor", "successor_info"], [some (.ref x), some (.ref t), some (.ref nd), some k, some (.ref p.i), some (.int (-1)), b4, b5]⟩ :: fs, σ', g⟩ ∧ Ext [1] σ6 σ' ∧ SAt σ' x ((st5.su k).foldl (fun s p => s.dec p) { st5 with np := fset st5.np k (-2) }) dx nd (.ref b) as ep) ?_ ?_
    rotate_left
    · rintro a' ⟨b4', b5', σ7, rfl, X7, S7⟩
      repeat walk_at "st"
      refine W_getAttr S7.x S7.dx (lw.K ▸ a_nfin) sAttrs_nd (by walk_at "mem") ?_
      repeat walk_at "st"
      refine W_setAttr S7.x S7.dx (lw.K ▸ a_nfin) (.there (.there (.there .here))) sAttrs_nd (by simp) ?_
      repeat walk_at "st"
      have S8 := S7.setAttrs (st' := st5.done1 k) (rv' := .ref b) rfl rfl rfl S7.rdy
      refine hP5.nx _ _ (X6.trans (X7.trans (Ext.upd_own S7.dx (by simp)))) ⟨_, _, _, _, _, rfl, ?_⟩
      have : st.done (l.take (i + 1)) = st5.done1 k := by rw [List.take_add_one, hv, ← hst5]; exact SS.done_snoc
      rw [this]; exact S8
    intro Pd hPd
    refine W_For ?_
    repeat walk_at "st"
    refine W_getSlot N6.i N6.d (lw.K ▸ sl_su) (by rfl) ?_
    repeat walk_at "st"
    refine W_iter_list N6.s (fun it6 h6 σ7 e8 => ?_)
    refine Wk_loopG (IterOf.list (k := 2) hh) [1] (by simp) (by simp)
      (fun i vv σ => ∃ b4 b5, vv = [some (.ref x), some (.ref t), some (.ref nd), some k, some (.ref p.i), some (.int (-1)), b4, b5] ∧ SAt σ x (((st5.su k).take i).foldl (fun s p => s.dec p) { st5 with np := fset st5.np k (-2) }) dx nd (.ref b) as ep)
      (fun i vv σ σ' ⟨b4, b5, hv, S⟩ X => ⟨b4, b5, hv, S.ext X (by simp) (by simp)⟩) h6 e8
      (by rw [e8, upd_ne (fun q => by rw [← q, N6.s] at h6; cases h6)]; exact N6.s) ⟨_, _, rfl, S6⟩ ?_ ?_
    · rintro i7 v vv σ8 u8 P8 E8 hP8 hE8 ⟨b4', b5', rfl, S8⟩ hv8 eu8 hsrc8 X8
      have hvm := List.mem_of_getElem? hv8
      obtain ⟨r1, r2, r3, r4, r5⟩ := SS.decs_same (l := (st5.su k).take i7) (st := { st5 with np := fset st5.np k (-2) })
      have rrl := SS.decs_rl (l := (st5.su k).take i7) (st := { st5 with np := fset st5.np k (-2) })
      generalize hst8 : ((st5.su k).take i7).foldl (fun s p => s.dec p) { st5 with np := fset st5.np k (-2) } = st8 at *
      have hvk : v ∈ st8.keys := by rw [r1]; dsimp only; rw [q1]; exact hsu k v (by rw [← q2]; exact hvm)
      have hvkey := S8.key v hvk
      obtain ⟨j8, p8, hj8, hp8, hg8⟩ := S8.find hvk
      have N8 := S8.nds j8 p8 v hp8 hj8
      repeat walk_at "st"
      rw [eu8]
      refine All.key hvkey fun u9 e9 => ?_
      repeat walk_at "st"
      refine ⟨noGet_dict S8.nd, W_dict_item S8.nd (by rw [e9]; exact hvkey) (by rw [e9]; exact hg8) ?_⟩
      repeat walk_at "st"
      refine W_getSlot N8.i N8.d (lw.K ▸ sl_np) (by rfl) ?_
      repeat walk_at "st"
      refine W_setSlot N8.i N8.d (lw.K ▸ sl_np) (by decide) ?_
      have S9 := S8.setNp (n := st8.np v - 1) hj8 hp8
      have X9 : Ext [1] σ8 (upd σ8 p8.i (some (1, .inst CNI p8.d [some v, some (.int (st8.np v - 1)), some (.ref p8.s)]))) := Ext.upd_own N8.i (by simp)
      generalize e10 : upd σ8 p8.i _ = σ9
      have e10' : upd σ8 p8.i (some (1, .inst CNI p8.d [some v, some (.int (st8.np v - 1)), some (.ref p8.s)])) = σ9 := e10
      rw [e10'] at S9 X9
      have N9 := S9.nds j8 p8 v hp8 hj8
      dsimp only at N9
      rw [fset_self] at N9
      repeat walk_at "st"
      refine W_getSlot N9.i N9.d (lw.K ▸ sl_np) (by rfl) ?_
      repeat walk_at "st"
      have fin : ∀ σ', Ext [1] σ9 σ' → SAt σ' x (st8.dec v) dx nd (.ref b) as ep → P8 .next ⟨⟨L, [], ["self", "nodes", "n2i", "node", "nodeinfo", "stat", "successor", "successor_info"], [some (.ref x), some (.ref t), some (.ref nd), some k, some (.ref p.i), some (.int (-1)), some v, some (.ref p8.i)]⟩ :: fs, σ', g⟩ := fun σ' X S => by
        refine hP8.nx _ _ (X9.trans X) ⟨_, _, rfl, ?_⟩
        rw [List.take_add_one, hv8, List.foldl_append, hst8]; exact S
      by_cases hz0 : st8.np v - 1 = 0
      · have : (st8.np v - 1 == 0) = true := by simp [hz0]
        simp only [this, if_true]
        have hrs : st8.ready.isSome = true := by
          rcases r3 with r3 | r3
          · rw [r3]; exact q3 hr
          · exact r3
        obtain ⟨l8, hl8⟩ := Option.isSome_iff_exists.mp hrs
        have hb9 : σ9 b = some (1, .list l8) := by
          have := S9.rdy
          dsimp only at this
          rw [hl8] at this
          obtain ⟨b', w1, w2⟩ := this
          cases w1; exact w2
        have hlen8 : l8.length ≤ 1000000 := by
          have e1 : st8.rl = l8.length := by unfold SS.rl; rw [hl8]; rfl
          have e2 : ({ st5 with np := fset st5.np k (-2) } : SS).rl = st5.rl := rfl
          have e3 := hN k
          have e4 : ((st5.su k).take i7).length ≤ N := by rw [q2]; exact Nat.le_trans (by rw [List.length_take]; exact Nat.min_le_right ..) e3
          have e5 : (l.take i).length ≤ l.length := by rw [List.length_take]; exact Nat.min_le_right ..
          have e6 := Nat.mul_le_mul_left N e5
          rw [Nat.mul_succ] at hz
          omega
        repeat walk_at "st"
        refine W_getAttr S9.x S9.dx (lw.K ▸ a_ready) sAttrs_nd (by walk_at "mem") ?_
        repeat walk_at "st"
        intro pl
        refine W_meth_list F.slot_list_append F.type_list_append hb9 ?_
        repeat walk_at "st"
        refine All.key hvkey fun ua ea => ?_
        repeat walk_at "st"
        refine ⟨Kp.builtin, W_append hb9 hlen8 (fun σa ea2 => ?_)⟩
        rw [ea] at ea2
        repeat walk_at "st"
        have Sa := S9.setReady (l' := l8 ++ [v]) hl8 rfl
        rw [← ea2] at Sa
        refine fin σa (by rw [ea2]; exact Ext.upd_own hb9 (by simp)) ?_
        have : st8.dec v = { st8 with np := fset st8.np v (st8.np v - 1), ready := some (l8 ++ [v]) } := by unfold SS.dec; rw [if_pos hz0, hl8]; rfl
        rw [this]; exact Sa
      · have : (st8.np v - 1 == 0) = false := by simp [hz0]
        simp only [this, Bool.false_eq_true, if_false]
        repeat walk_at "st"
        refine fin σ9 Ext.refl ?_
        have : st8.dec v = { st8 with np := fset st8.np v (st8.np v - 1) } := by unfold SS.dec; rw [if_neg hz0]
        rw [this]; exact S9
    · rintro vv σ8 ⟨b4', b5', rfl, S8⟩ X8
      rw [List.take_length] at S8
      exact hPd _ ⟨_, _, σ8, rfl, X8, S8⟩
  · rintro vv σ5 ⟨b1, b2, b3, b4, b5, rfl, S5⟩ X5
    rw [List.take_length] at S5
    exact hPc _ ⟨_, σ5, rfl, X5, S5⟩
end
end Mine

namespace Mine
open PySem PySem.W PyProof.Rows PySem.Calls

@[reducible] noncomputable def fcF (L x nd K I N D : Addr) (b : Option AV) : Frm := ⟨L, [], ["self", "n2i", "stack", "itstack", "seen", "node2stacki", "node"], [some (.ref x), some (.ref nd), some (.ref K), some (.ref I), some (.ref N), some (.ref D), b]⟩

/-- the ring given back -/
noncomputable def FcRet (L x nd K I N D : Addr) (fs : List Frm) (g : Array GenState) (st : SS) (σ : Addr → Option (Nat × Cell)) (v : Value) (a' : AS) : Prop :=
  ∃ b r l σ', a' = ⟨fcF L x nd K I N D b :: fs, σ', g⟩ ∧ v = .ref l ∧ RingRes st.keys st.su (some r) ∧ r.length ≤ st.keys.length + 1 ∧ Ext [3, 4, 8] σ σ' ∧ σ' l = some (0, .list r)

section
variable {c : Cx} {A : Around} {E : Value → AS → Prop} {fs : List Frm} {σ : Addr → Option (Nat × Cell)} {g : Array GenState} {d : Nat} {x dx nd : Addr} {rv : AV} {as : List NAd} {ep : Nat} {st : SS}

set_option maxHeartbeats 4000000 in
theorem find_cycle_spec {Q : Value → AS → Prop} (lw : Lw c) (hA : AOk A fs (d + 1)) (S : SAt σ x st dx nd rv as ep) (hsu : ∀ k s, s ∈ st.su k → s ∈ st.keys) (hz : st.keys.length < 4000) (hzs : ∀ k, (st.su k).length ≤ 100000)
    (hN : ∀ σ', RingRes st.keys st.su none → Ext [3, 4, 8] σ σ' → Q .none ⟨fs, σ', g⟩)
    (hS : ∀ r l σ', RingRes st.keys st.su (some r) → r.length ≤ st.keys.length + 1 → Ext [3, 4, 8] σ σ' → σ' l = some (0, .list r) → Q (.ref l) ⟨fs, σ', g⟩) :
    W c A (call (.ref 127) [.ref x]) Q E ⟨fs, σ, g⟩ := by
  refine W_call_G lw.K (ns := ["self", "n2i", "stack", "itstack", "seen", "node2stacki", "node"]) (us := [.ref x]) (gs := [("set", .type "set"), ("iter", .builtin "iter"), ("len", .builtin "len"), ("StopIteration", .type "StopIteration")]) fn_find rfl (by kernel_rfl) rfl (.cons (.rest (.rest (.rest (.rest (.rest (.rest .nil))))))) (by simp [lw.set, lw.iter, lw.len, lw.StopIteration]) hA (fun L env B P X0 hfr hh hL hA' hout hE hFx hUx => ?_)
  refine W_consG (fun _ _ => ?_)
  repeat walk_at "st"
  refine W_getAttr S.x S.dx (lw.K ▸ a_node2info) sAttrs_nd (by walk_at "mem") ?_
  repeat walk_at "st"
  refine W_newList 3 (by simp) (fun K hK σ1 e1 => ?_)
  repeat walk_at "st"
  refine W_newList 3 (by simp) (fun I hI σ2 e2 => ?_)
  repeat walk_at "st"
  refine ⟨Kp.type, W_set0 3 (fun N hNn σ3 e3 => ?_)⟩
  repeat walk_at "st"
  refine W_Dict_nil (W_newDict 3 (fun D hD σ4 e4 => ?_))
  repeat walk_at "st"
  have X1 : Ext [] σ σ1 := by rw [e1]; exact Ext.upd_new hK
  have X2 : Ext [] σ1 σ2 := by rw [e2]; exact Ext.upd_new hI
  have X3 : Ext [] σ2 σ3 := by rw [e3]; exact Ext.upd_new hNn
  have X4 : Ext [] σ3 σ4 := by rw [e4]; exact Ext.upd_new hD
  have X : Ext [] σ σ4 := X1.trans (X2.trans (X3.trans X4))
  have DA : DAt σ4 st.su K I D N [] (fun _ => false) 0 0 := by
    refine ⟨X4 _ _ _ (X3 _ _ _ (X2 _ _ _ (by rw [e1]; exact upd_self) (by simp)) (by simp)) (by simp), X4 _ _ _ (X3 _ _ _ (by rw [e2]; exact upd_self) (by simp)) (by simp), by rw [e4]; exact upd_self, X4 _ _ _ (by rw [e3]; exact upd_self) (by simp), by simp, by simp, by simp, .nil, fun q => ?_⟩
    rw [← q, e1, upd_self] at hI; cases hI
  have S4 := S.ext X (by simp) (by simp)
  have F0 : ∀ key, FC σ4 x st dx nd rv as ep K I D N (st.keys.take 0) key [] (fun _ => false) 0 0 := fun key =>
    ⟨S4, DA, ⟨fun v q => (by cases q), fun v q => (by cases q), fun v q => (by cases q), .nil, .inl rfl⟩, (by rw [List.filter_eq_nil_iff.mpr (fun _ _ q => by cases q)]; rfl), fun v q => (by cases q)⟩
  clear e1 e2 e3 e4 hK hI hNn hD X1 X2 X3 X4
  refine W_cutG (fun f a' => match f with
    | .next => ∃ b σ', a' = ⟨fcF L x nd K I N D b :: fs, σ', g⟩ ∧ Ext [3, 4, 8] σ4 σ' ∧ RingRes st.keys st.su none
    | .ret v => FcRet L x nd K I N D fs g st σ4 v a'
    | _ => False) ?_ ?_
  rotate_left
  · intro f a' hf
    cases f with
    | next =>
      obtain ⟨b, σ', rfl, X', r⟩ := hf
      repeat walk_at "st"
      exact hN σ' r (X.nil.trans X')
    | ret v =>
      obtain ⟨b, r, l, σ', rfl, rfl, hr, hrl, X', hl'⟩ := hf
      repeat walk_at "st"
      exact hS r l σ' hr hrl (X.nil.trans X') hl'
    | brk => exact hf.elim
    | cont => exact hf.elim
  intro P1 hP1
  refine W_For ?_
  repeat walk_at "st"
  refine W_iter_dict S4.nd (fun it h0 σ5 e5 => ?_)
  refine Wk_loopG (IterOf.dictKeys (k := 1) hh (fun p hp => S.key p.1 (List.of_mem_zip hp).1)) [3, 4, 8] (by simp) (by simp)
    (fun i vv σ' => ∃ b seen cnt ep', vv = [some (.ref x), some (.ref nd), some (.ref K), some (.ref I), some (.ref N), some (.ref D), b] ∧ ∀ key, FC σ' x st dx nd rv as ep K I D N (st.keys.take i) key [] seen cnt ep')
    (fun i vv σ σ' ⟨b, seen, cnt, ep', hv, F⟩ X => ⟨b, seen, cnt, ep', hv, fun key => (F key).ext X (by simp) (by simp) (by simp) (by simp)⟩) h0 e5
    (by rw [e5, upd_ne (fun q => by rw [← q, S4.nd] at h0; cases h0)]; exact S4.nd) ⟨_, fun _ => false, 0, 0, rfl, F0⟩ ?_ ?_
  · rintro i key vv σ6 u6 P6 E6 hP6 hE6 ⟨b, seen, cnt, ep', rfl, F⟩ hv eu hsrc X6
    have hlz : (st.keys.zip (as.map fun p => AV.ref p.i)).map (·.1) = st.keys := by
      rw [List.map_fst_zip]; simp [S.len]
    rw [hlz] at hv
    have hkm : key ∈ st.keys := List.mem_of_getElem? hv
    have hkey := S.key key hkm
    obtain ⟨hil, hie⟩ := List.getElem?_eq_some_iff.mp hv
    have htk : st.keys.take (i + 1) = st.keys.take i ++ [key] := by rw [List.take_add_one, hv]; rfl
    have hsplit : st.keys = st.keys.take i ++ key :: st.keys.drop (i + 1) := by
      rw [← hie, List.getElem_cons_drop, List.take_append_drop]
    have F6 := F key
    repeat walk_at "st"
    rw [eu]
    refine All.key hkey fun u7 e7 => ?_
    repeat walk_at "st"
    refine W_in_set F6.D.hN (by have := F6.lt hz; omega) (by rw [e7]; exact hkey) ?_
    rw [e7]
    have next : ∀ seen cnt ep' (σ7 : Addr → Option (Nat × Cell)), FC σ7 x st dx nd rv as ep K I D N (st.keys.take i) key [] seen cnt ep' → ¬ Stay st.su key →
        ∀ key', FC σ7 x st dx nd rv as ep K I D N (st.keys.take (i + 1)) key' [] seen cnt ep' := fun seen cnt ep' σ7 F7 hn key' =>
      ⟨F7.S, F7.D, ⟨F7.dfs.fin, F7.dfs.on, fun k hk => by
        rw [htk] at hk
        rcases List.mem_append.mp hk with hk | hk
        · exact F7.dfs.pre k hk
        · rw [List.mem_singleton.mp hk]; exact hn, .nil, .inl rfl⟩, F7.cnt, F7.sk⟩
    cases hsk : seen key
    · repeat walk_at "st"
      refine W_cutG (fun f a' => match f with
        | .next => ∃ b seen cnt ep' σ', a' = ⟨fcF L x nd K I N D b :: fs, σ', g⟩ ∧ Ext [3, 4, 8] σ6 σ' ∧ FC σ' x st dx nd rv as ep K I D N (st.keys.take i) key [] seen cnt ep' ∧ ¬ Stay st.su key
        | .ret v => FcRet L x nd K I N D fs g st σ6 v a'
        | _ => False) ?_ ?_
      rotate_left
      · intro f a' hf
        cases f with
        | next =>
          obtain ⟨b, seen, cnt, ep', σ', rfl, X', F', hn⟩ := hf
          repeat walk_at "st"
          exact hP6.nx _ σ' X' ⟨b, seen, cnt, ep', rfl, next _ _ _ _ F' hn⟩
        | ret v =>
          obtain ⟨b, r, l, σ', rfl, rfl, hr, hrl, X', hl'⟩ := hf
          repeat walk_at "st"
          exact hP6.re _ _ (hP1 (.ret _) _ ⟨b, r, l, σ', rfl, rfl, hr, hrl, X6.trans X', hl'⟩)
        | brk => exact hf.elim
        | cont => exact hf.elim
      intro P2 hP2
      refine W_WhileG (fun n a => ∃ v es seen cnt ep' σ', a = ⟨fcF L x nd K I N D (some v) :: fs, σ', g⟩ ∧ n = meas st es seen ∧ Ext [3, 4, 8] σ6 σ' ∧ FC σ' x st dx nd rv as ep K I D N (st.keys.take i) key es seen cnt ep' ∧
        TopIs st.su key (es.map fun e => (e.v, e.n)) v ∧ v ∈ st.keys ∧ (es = [] → seen v = false)) ?_ (meas st [] seen) ⟨key, [], seen, cnt, ep', σ6, rfl, rfl, Ext.refl, F6, rfl, hkm, fun _ => hsk⟩
      clear next hsk F6 F hsrc
      rintro n a P7 E7 hP7 hE7 ⟨v, es, seen, cnt, ep', σ7, rfl, rfl, X7, F7, T7, hvm, hnil⟩
      have hvk := S.key v hvm
      refine W_isTrue_any (W_Const_bool (W_truthy_bool (ite_t rfl ?_)))
      refine W_consG (fun P8 hP8 => W_cutG (fun f a' => match f with
        | .next => ∃ es' seen' cnt' ep'' σ', a' = ⟨fcF L x nd K I N D (some v) :: fs, σ', g⟩ ∧ meas st es' seen' ≤ meas st es seen ∧ Ext [3, 4, 8] σ6 σ' ∧ FC σ' x st dx nd rv as ep K I D N (st.keys.take i) key es' seen' cnt' ep'' ∧ RestIs st.su (es'.map fun e => (e.v, e.n)) ∧ es' ≠ []
        | .ret v => FcRet L x nd K I N D fs g st σ6 v a'
        | _ => False) ?_ ?_)
      · intro P9 hP9
        have hlt := F7.lt hz
        have hel := F7.len
        have N7 := F7.D
        repeat walk_at "st"
        refine All.key hvk fun u8 e8 => ?_
        repeat walk_at "st"
        refine W_in_set N7.hN (by omega) (by rw [e8]; exact hvk) ?_
        rw [e8]
        cases hsv : seen v
        · repeat walk_at "st"
          intro pl
          refine W_meth_set_add N7.hN (by omega) ?_
          repeat walk_at "st"
          refine All.key hvk fun u9 e9 => ?_
          repeat walk_at "st"
          refine ⟨Kp.builtin, W_set_add N7.hN (by omega) (by rw [e9]; exact hvk) (fun σ8 e10 => ?_)⟩
          rw [e9, hsv] at e10
          have hKN : K ≠ N := fun z => by have := N7.hK; rw [z, N7.hN] at this; cases this
          have hIN : I ≠ N := fun z => by have := N7.hI; rw [z, N7.hN] at this; cases this
          have hDN : D ≠ N := fun z => by have := N7.hD; rw [z, N7.hN] at this; cases this
          have hDK : D ≠ K := fun z => by have := N7.hD; rw [z, N7.hK] at this; cases this
          have hDI : D ≠ I := fun z => by have := N7.hD; rw [z, N7.hI] at this; cases this
          have hI8 : σ8 I = some (3, .list (es.map fun e => AV.ref e.m).reverse) := by rw [e10, upd_ne hIN]; exact N7.hI
          have X8 : Ext [3] σ7 σ8 := by rw [e10]; exact Ext.upd_own N7.hN (by simp)
          have S8 := F7.S.ext X8 (by simp) (by simp)
          obtain ⟨j, p, hj, hp, hg⟩ := S8.find hvm
          have N8 := S8.nds j p v hp hj
          repeat walk_at "st"
          intro pl2
          refine W_meth_list F.slot_list_append F.type_list_append hI8 ?_
          repeat walk_at "st"
          refine All.key hvk fun u10 e11 => ?_
          refine ⟨noGet_dict S8.nd, W_dict_item S8.nd (by rw [e11]; exact hvk) (by rw [e11]; exact hg) ?_⟩
          repeat walk_at "st"
          refine W_getSlot N8.i N8.d (lw.K ▸ sl_su) (by rfl) ?_
          repeat walk_at "st"
          refine ⟨Kp.builtin, W_iter_call 4 N8.s (fun it8 h9 σ9 e12 => ?_)⟩
          refine W_next_attr 3 (by rw [e12]; exact upd_self) (fun m hm9 hmit σ10 e13 => ?_)
          repeat walk_at "st"
          have X10 : ∀ y q, σ8 y = some q → σ10 y = some q := fun y q hq => by
            have n1 : y ≠ it8 := fun z => by rw [z, h9] at hq; cases hq
            have n2 : y ≠ m := fun z => by rw [z] at hq n1; rw [e12, upd_ne n1, hq] at hm9; cases hm9
            rw [e13, upd_ne n2, upd_ne n1, e12, upd_ne n1]; exact hq
          have hI10 := X10 _ _ hI8
          have hpl : (es.map fun e => AV.ref e.m).reverse.length ≤ 4000 := by simp; omega
          have hpl2 : (es.map (·.v)).reverse.length ≤ 4000 := by simp; omega
          refine ⟨Kp.builtin, W_append hI10 (by omega) (fun σ11 e14 => ?_)⟩
          have hK11 : σ11 K = some (3, .list (es.map (·.v)).reverse) := by rw [e14, upd_ne N7.KI]; exact X10 _ _ (by rw [e10, upd_ne hKN]; exact N7.hK)
          have hD11 : σ11 D = some (3, .dict (idxs (es.map (·.v)).reverse) ep') := by rw [e14, upd_ne hDI]; exact X10 _ _ (by rw [e10, upd_ne hDN]; exact N7.hD)
          repeat walk_at "st"
          refine ⟨Kp.builtin, W_len_list hK11 (by omega) ?_⟩
          intro t11
          repeat walk_at "st"
          refine All.key hvk fun u12 e15 => ?_
          refine W_dict_set hD11 (by rw [e15]; exact hvk) (by unfold idxs; rw [idxsFrom_len]; omega) (fun ep2 σ12 e16 => ?_)
          have hnon : v ∉ (es.map (·.v)).reverse := fun z => by
            have := F7.dfs.on v (by rw [List.map_map]; simpa using z)
            rw [hsv] at this; cases this
          rw [e15, show er (Value.int ((es.map (·.v)).reverse.length : Nat) t11) = AV.int ((es.map (·.v)).reverse.length : Nat) from rfl, dset_idxs hnon] at e16
          have hK12 : σ12 K = some (3, .list (es.map (·.v)).reverse) := by rw [e16, upd_ne (Ne.symm hDK)]; exact hK11
          repeat walk_at "st"
          intro pl3
          refine W_meth_list F.slot_list_append F.type_list_append hK12 ?_
          repeat walk_at "st"
          refine All.key hvk fun u13 e17 => ?_
          repeat walk_at "st"
          refine ⟨Kp.builtin, W_append hK12 (by omega) (fun σ13 e18 => ?_)⟩
          rw [e17] at e18
          repeat walk_at "st"
          have X13 : Ext [3] σ7 σ13 := by
            refine X8.trans (Ext.trans (σ' := σ10) (fun y k cl h _ => X10 y _ h) ?_)
            rw [e18]
            refine Ext.trans ?_ (Ext.upd_own hK12 (by simp))
            rw [e16]
            refine Ext.trans ?_ (Ext.upd_own hD11 (by simp))
            rw [e14]; exact Ext.upd_own hI10 (by simp)
          have hit8 : σ13 it8 = some (4, iterCell "list_iterator" p.s 0) := by
            have n : ∀ {y c' cl}, σ8 y = some (c', cl) → it8 ≠ y := fun hy z => by rw [← z, h9] at hy; cases hy
            rw [e18, upd_ne (n (y := K) (by rw [e10, upd_ne hKN]; exact N7.hK)), e16, upd_ne (n (y := D) (by rw [e10, upd_ne hDN]; exact N7.hD)), e14, upd_ne (n hI8), e13, upd_ne (Ne.symm hmit)]; exact upd_self
          have hm13 : σ13 m = some (3, wrapCell it8) := by
            have n : ∀ {y q}, σ8 y = some q → m ≠ y := fun {y q} hy z => by
              have n1 : y ≠ it8 := fun z => by rw [z, h9] at hy; cases hy
              rw [z, e12, upd_ne n1, hy] at hm9; cases hm9
            rw [e18, upd_ne (n (y := K) (by rw [e10, upd_ne hKN]; exact N7.hK)), e16, upd_ne (n (y := D) (by rw [e10, upd_ne hDN]; exact N7.hD)), e14, upd_ne (n hI8), e13]; exact upd_self
          have P := F7.dfs.push T7 hsv
          have hcnt := (filter_mark (fun _ => 0) F7.S.knd hvm hsv).2
          refine hP9 .next _ ⟨⟨v, 0, m, it8, p.s⟩ :: es, _, _, ep2, σ13, rfl, Nat.le_of_lt (meas_push (e := ⟨v, 0, m, it8, p.s⟩) F7.S.knd hvm hsv rfl), X7.trans (X13.mono (by simp)), ⟨F7.S.ext X13 (by simp) (by simp), ?_, P.1, hcnt.symm ▸ congrArg (· + 1) F7.cnt, ?_⟩, P.2, by simp⟩
          · refine N7.push (e := ⟨v, 0, m, it8, p.s⟩) (fun y q n1 n2 n3 n4 hy => ?_) (by rw [e18]; exact upd_self) ?_ ?_ ?_ hm13 hit8 ?_ ?_
            · rw [e18, upd_ne n1, e16, upd_ne n3, e14, upd_ne n2]
              exact X10 _ _ (by rw [e10, upd_ne n4]; exact hy)
            · rw [e18, upd_ne (Ne.symm N7.KI), e16, upd_ne (Ne.symm hDI), e14]; exact upd_self
            · rw [e18, upd_ne hDK, e16]; exact upd_self
            · rw [e18, upd_ne (Ne.symm hKN), e16, upd_ne (Ne.symm hDN), e14, upd_ne (Ne.symm hIN)]
              exact X10 _ _ (by rw [e10]; exact upd_self)
            · exact X13 _ _ _ (F7.S.nds j p v hp hj).s (by simp)
            · cases q : σ7 it8 with
              | none => rfl
              | some r =>
                exfalso
                by_cases z : it8 = N
                · rw [z, e10, upd_self] at h9; cases h9
                · rw [e10, upd_ne z, q] at h9; cases h9
          · intro y hy
            simp only [Bool.or_eq_true, decide_eq_true_eq] at hy
            rcases hy with hy | rfl
            · exact F7.sk y hy
            · exact hvm
        · repeat walk_at "st"
          refine All.key hvk fun u9 e9 => ?_
          repeat walk_at "st"
          refine W_in_dict N7.hD (by rw [e9]; exact hvk) ?_
          rw [e9]
          by_cases hon : v ∈ (es.map (·.v)).reverse
          · obtain ⟨p, q, hpq⟩ := List.append_of_mem hon
            have hnp : v ∉ p := fun w => by
              have h1 := F7.dfs.nd
              rw [List.map_map] at h1
              have h2 : (es.map (·.v)).reverse.Nodup := (List.reverse_perm _).nodup_iff.mpr h1
              rw [hpq] at h2
              exact (List.nodup_append.mp h2).2.2 v w v (List.mem_cons_self ..) rfl
            have hdg := dget_idxs hpq hnp
            rw [hdg]
            refine W_truthy_bool (ite_t rfl (W_consG fun _ _ => W_Return_some (W_BinOp (W_slice_from 9 ?_))))
            repeat walk_at "st"
            refine All.key hvk fun u10 e10 => ?_
            refine ⟨noGet_dict N7.hD, W_dict_item N7.hD (by rw [e10]; exact hvk) (by rw [e10]; exact hdg) ?_⟩
            intro t10
            have hpl : (es.map (·.v)).reverse.length ≤ 4000 := by simp; omega
            refine ⟨K, 3, _, _, _, rfl, rfl, N7.hK, by omega, by omega, by rw [hpq]; simp, fun l hl σ8 e11 => ?_⟩
            repeat walk_at "st"
            refine All.key hvk fun u11 e12 => ?_
            repeat walk_at "st"
            refine W_newList 9 (by simp) (fun l2 hl2 σ9 e13 => ?_)
            have hll : l ≠ l2 := fun z => by rw [← z, e11, upd_self] at hl2; cases hl2
            refine W_list_add 0 (by rw [e13, upd_ne hll, e11]; exact upd_self) (by rw [e13]; exact upd_self) (by simp; omega) (fun l3 hl3 σ10 e14 => ?_)
            repeat walk_at "st"
            refine hP9 (.ret _) _ ⟨some v, _, l3, σ10, rfl, rfl, F7.dfs.ring T7 (by rw [List.map_map]; simpa using hon) hsplit (by rw [List.map_map]; exact hpq), ?_, X7.trans ?_, ?_⟩
            · have := congrArg List.length hpq
              simp at this ⊢; omega
            · rw [e14]
              refine Ext.trans ?_ (Ext.upd_new hl3)
              rw [e13]
              refine Ext.trans ?_ (Ext.upd_new hl2)
              rw [e11]; exact Ext.upd_new hl
            · rw [e14, upd_self, hpq]
              simp [e12]
          · rw [dget_idxs_none hon]
            repeat walk_at "st"
            exact hP9 .next _ ⟨es, seen, cnt, ep', σ7, rfl, Nat.le_refl _, X7, F7, F7.dfs.skip T7 hsv (by rw [List.map_map]; simpa using hon), fun q => by rw [hnil q] at hsv; cases hsv⟩
      · intro f a' hf
        cases f with
        | next =>
          obtain ⟨es', seen', cnt', ep'', σ', rfl, hme, X', F', R', hne⟩ := hf
          refine hP8.nx _ (W_consG fun P10 hP10 => W_cutG (fun f a' => match f with
            | .next => ∃ v' es' seen' cnt' ep'' σ', a' = ⟨fcF L x nd K I N D (some v') :: fs, σ', g⟩ ∧ meas st es' seen' < meas st es seen ∧ Ext [3, 4, 8] σ6 σ' ∧ FC σ' x st dx nd rv as ep K I D N (st.keys.take i) key es' seen' cnt' ep'' ∧ TopIs st.su key (es'.map fun e => (e.v, e.n)) v' ∧ v' ∈ st.keys ∧ es' ≠ []
            | .brk => ∃ b seen cnt ep' σ', a' = ⟨fcF L x nd K I N D b :: fs, σ', g⟩ ∧ Ext [3, 4, 8] σ6 σ' ∧ FC σ' x st dx nd rv as ep K I D N (st.keys.take i) key [] seen cnt ep' ∧ ¬ Stay st.su key
            | _ => False) ?_ ?_)
          rotate_left
          · intro f a' hf
            cases f with
            | next =>
              obtain ⟨v', es'', seen'', cnt'', ep3, σ'', rfl, hme', X'', F'', T'', hvm', hne'⟩ := hf
              repeat walk_at "st"
              exact hP7.nx _ ⟨_, hme', v', es'', seen'', cnt'', ep3, σ'', rfl, rfl, X'', F'', T'', hvm', fun q => absurd q hne'⟩
            | ret v => exact hf.elim
            | brk => exact hP10.br _ (hP7.br _ (hP2 .next _ hf))
            | cont => exact hf.elim
          intro P11 hP11
          refine W_WhileG (fun n a => ∃ es' seen' cnt' ep'' σ', a = ⟨fcF L x nd K I N D (some v) :: fs, σ', g⟩ ∧ n = es'.length ∧ meas st es' seen' ≤ meas st es seen ∧ Ext [3, 4, 8] σ6 σ' ∧ FC σ' x st dx nd rv as ep K I D N (st.keys.take i) key es' seen' cnt' ep'' ∧ RestIs st.su (es'.map fun e => (e.v, e.n)) ∧ (es' = [] → ¬ Stay st.su key)) ?_ es'.length
            ⟨es', seen', cnt', ep'', σ', rfl, rfl, hme, X', F', R', fun q => absurd q hne⟩
          clear hme X' F' R' hne T7 F7 hnil X7
          clear es' seen' cnt' ep'' σ'
          rintro n a P12 E12 hP12 hE12 ⟨es', seen', cnt', ep'', σ8, rfl, rfl, hme, X8, F8, R8, hnil⟩
          have hel := F8.len
          have N8 := F8.D
          repeat walk_at "st"
          refine W_truthy_list N8.hK (by simp; omega) ?_
          cases es' with
          | nil =>
            repeat walk_at "st"
            exact hP11 .brk _ ⟨some v, seen', cnt', ep'', σ8, rfl, X8, F8, hnil rfl⟩
          | cons e es' =>
            have hemp : (!(List.map (fun x => x.v) (e :: es')).reverse.isEmpty) = true := by simp
            rw [hemp]
            refine ite_t rfl (W_consG fun P13 hP13 => W_Try ?_)
            have hI8 : σ8 I = some (3, .list ((es'.map fun e => AV.ref e.m).reverse ++ [.ref e.m])) := by rw [N8.hI]; simp
            have hm8 := N8.hm e (List.mem_cons_self ..)
            have hit8 := N8.hit e (List.mem_cons_self ..)
            have hs8 := N8.hs e (List.mem_cons_self ..)
            repeat walk_at "st"
            refine W_Call_Sub ?_
            repeat walk_at "st"
            refine ⟨noGet_list N8.hI, W_last_list hI8 (by simp at hel ⊢; omega) ?_⟩
            repeat walk_at "st"
            refine ⟨Kp.wrap hm8, ?_⟩
            by_cases hi : e.n < (st.su e.v).length
            · have hx : (st.su e.v)[e.n]? = some (st.su e.v)[e.n] := by simp [hi]
              have hxm : (st.su e.v)[e.n] ∈ st.keys := hsu e.v _ (List.getElem_mem hi)
              refine W_wrap_item hm8 hit8 hs8 hx (fun σ9 u9 e9 eu9 => ?_)
              repeat walk_at "st"
              rw [eu9]
              obtain ⟨D1, T1⟩ := F8.dfs.item R8 hx
              refine hP12.br _ (hP11 .next _ ⟨_, { e with n := e.n + 1 } :: es', seen', cnt', ep'', σ9, rfl, Nat.lt_of_lt_of_le (meas_item hi) hme, X8.trans (by rw [e9]; exact Ext.upd_own hit8 (by simp)), ⟨F8.S.ext (C := [4]) (by rw [e9]; exact Ext.upd_own hit8 (by simp)) (by simp) (by simp), by rw [e9]; exact N8.item, D1, F8.cnt, F8.sk⟩, T1, hxm, by simp⟩)
            · obtain ⟨D1, R1, Z1⟩ := F8.dfs.pop R8 (Nat.le_of_not_lt hi)
              obtain ⟨outer, hout⟩ := hout
              refine W_wrap_end hh hm8 hit8 hs8 (Nat.le_of_not_lt hi) (fun σ9 ex tx h9 hex9 hX9 => ?_)
              refine W_noteFrame hA'.vs.link hout hfr hX9 (fun σ10 T X10 hX10 => W_setFlight hX10 (W_handle_hit ?_))
              have g10 : ∀ {y c' cl}, σ8 y = some (c', cl) → y ≠ e.it → c' ≠ 8 → σ10 y = some (c', cl) := fun h1 h2 h3 => X10 _ _ _ (h9 _ _ h2 h1) (by simpa using h3)
              have n4 : ∀ {y c' cl}, σ8 y = some (c', cl) → c' ≠ 4 → y ≠ e.it := fun q1 q2 z => by rw [z, hit8] at q1; cases q1; exact q2 rfl
              have hK10 : σ10 K = some (3, .list ((es'.map (·.v)).reverse ++ [e.v])) := g10 (by rw [N8.hK]; simp) (n4 N8.hK (by decide)) (by decide)
              have hI10 : σ10 I = some (3, .list ((es'.map fun e => AV.ref e.m).reverse ++ [.ref e.m])) := g10 hI8 (n4 N8.hI (by decide)) (by decide)
              have hD10 : σ10 D = some (3, .dict (idxs ((es'.map (·.v)).reverse ++ [e.v])) ep'') := g10 (by rw [N8.hD]; simp) (n4 N8.hD (by decide)) (by decide)
              have hem : e.v ∈ st.keys := F8.sk _ (F8.dfs.on _ (by simp))
              have hek := S.key e.v hem
              have hnon : e.v ∉ (es'.map (·.v)).reverse := fun z => by
                have := F8.dfs.nd
                rw [List.map_cons, List.map_cons, List.nodup_cons] at this
                exact this.1 (by rw [List.map_map]; simpa using z)
              refine W_Glob hE (by walk_at "mem") ⟨hX10.m (by rw [lw.K]; rfl), W_setFlight hX10 ?_⟩
              repeat walk_at "st"
              refine W_Delete_Sub ?_
              repeat walk_at "st"
              intro pl
              refine W_meth_list F.slot_list_pop F.type_list_pop hK10 ?_
              repeat walk_at "st"
              refine ⟨Kp.builtin, W_pop hK10 (by simp at hel ⊢; omega) (fun σ11 e11 => All.key hek fun u11 eu11 => ?_)⟩
              have hKD : K ≠ D := fun z => by rw [z, hD10] at hK10; cases hK10
              have hID : I ≠ D := fun z => by rw [z, hD10] at hI10; cases hI10
              have hD11 : σ11 D = some (3, .dict (idxs ((es'.map (·.v)).reverse ++ [e.v])) ep'') := by rw [e11, upd_ne (Ne.symm hKD)]; exact hD10
              refine W_dict_del hD11 (by rw [eu11]; exact hek) ?_ (by unfold idxs; rw [idxsFrom_len]; simp at hel ⊢; omega) (fun ep3 σ12 e12 => ?_)
              · rw [eu11, dget_idxs (p := (es'.map (·.v)).reverse) (q := []) rfl hnon]; rfl
              rw [eu11, ddel_idxs hnon] at e12
              have hI12 : σ12 I = some (3, .list ((es'.map fun e => AV.ref e.m).reverse ++ [.ref e.m])) := by rw [e12, upd_ne hID, e11, upd_ne (Ne.symm N8.KI)]; exact hI10
              repeat walk_at "st"
              intro pl2
              refine W_meth_list F.slot_list_pop F.type_list_pop hI12 ?_
              repeat walk_at "st"
              refine ⟨Kp.builtin, W_pop hI12 (by simp at hel ⊢; omega) (fun σ13 e13 => ?_)⟩
              repeat walk_at "st"
              have X13 : Ext [3, 4, 8] σ8 σ13 := fun y k' cl' h1 h2 => by
                simp only [List.mem_cons, List.not_mem_nil, or_false, not_or] at h2
                have q1 := g10 h1 (n4 h1 h2.2.1) h2.2.2
                rw [e13, upd_ne (fun z => by rw [z, hI10] at q1; cases q1; exact h2.1 rfl), e12, upd_ne (fun z => by rw [z, hD10] at q1; cases q1; exact h2.1 rfl), e11, upd_ne (fun z => by rw [z, hK10] at q1; cases q1; exact h2.1 rfl)]
                exact q1
              refine hP12.nx _ ⟨es'.length, by simp, es', seen', cnt', ep3, σ13, rfl, rfl, Nat.le_trans meas_pop hme, X8.trans X13, ⟨F8.S.ext X13 (by simp) (by simp), ?_, D1, F8.cnt, F8.sk⟩, R1, fun q => (Z1 (by rw [q]; rfl)).2⟩
              refine N8.pop (fun y p n0 n1 n2 n3 n5 hy => ?_) ?_ ?_ ?_
              · rw [e13, upd_ne n2, e12, upd_ne n3, e11, upd_ne n1]
                exact g10 hy n5 n0
              · rw [e13, upd_ne N8.KI, e12, upd_ne hKD, e11]; exact upd_self
              · rw [e13]; exact upd_self
              · rw [e13, upd_ne (Ne.symm hID), e12]; exact upd_self
        | ret v => exact hP8.re _ _ (hP7.re _ _ (hP2 (.ret _) _ hf))
        | brk => exact hf.elim
        | cont => exact hf.elim
    · repeat walk_at "st"
      exact hP6.co _ σ6 Ext.refl ⟨some key, seen, cnt, ep', rfl, next _ _ _ _ F6 (F6.dfs.fin key hsk (by simp))⟩
  · rintro vv σ6 ⟨b, seen, cnt, ep', rfl, F⟩ X6
    refine hP1 .next _ ⟨b, σ6, rfl, X6, .no fun k hk => (F k).dfs.pre k ?_⟩
    have : ((st.keys.zip (as.map fun p => AV.ref p.i)).map (·.1)).length = st.keys.length := by simp [S.len]
    rw [this, List.take_length]; exact hk
end
end Mine

namespace Mine
open PySem PySem.W PyProof.Rows PySem.Calls

theorem fn_prepare {w : World} : FnOk (KK w) 92 ["self"] ["cycle"] ["ValueError", "CycleError"] := ⟨rfl, rfl, rfl, rfl, rfl, rfl, rfl, rfl, rfl, by decide +kernel⟩
theorem bo_find {w : World} : BindOk (KK w) CTS "_find_cycle" 127 := ⟨rfl, rfl, rfl, rfl, rfl, rfl, by decide +kernel⟩
theorem keep_find {w : World} : keepIn (KK w) (.ref 127) = true := by rfl
theorem cyc_cls {w : World} : ∃ nm q bs hdct sn sub ab col dd k0 k1 k2 k3 k5, (KK w).lookup 55 = some (excClassObj nm q 55 54 bs [.type "ValueError", .type "Exception", .type "BaseException", .type "object"] hdct sn sub ab col dd k0 k1 k2 k3 k5 "ValueError.__new__") :=
  ⟨_, _, _, _, _, _, _, _, _, _, _, _, _, _, rfl⟩
theorem cyc_ns {w : World} : nsOkIn (KK w) 54 = true ∧ nsIn (KK w) 54 "__init__" = some none := ⟨by kernel_rfl, by kernel_rfl⟩

section
variable {c : Cx} {A : Around} {E : Value → AS → Prop} {fs : List Frm} {σ : Addr → Option (Nat × Cell)} {g : Array GenState} {d : Nat} {x dx nd : Addr} {rv : AV} {as : List NAd} {ep : Nat} {st : SS}

noncomputable def SS.prep (st : SS) : SS := { st with ready := some (st.keys.filter fun k => decide (st.np k = 0)) }

theorem prepare_spec {R : Result → AS → Prop} (lw : Lw c) (hcy : Glob c "CycleError" (.ref 55)) (hA : AOk A fs (d + 2)) (S : SAt σ x st dx nd rv as ep) (hr : st.ready = none) (hsu : ∀ k s, s ∈ st.su k → s ∈ st.keys) (hz : st.keys.length < 4000) (hzs : ∀ k, (st.su k).length ≤ 100000)
    (hN : ∀ σ' b, RingRes st.keys st.su none → Ext [1, 3, 4, 8] σ σ' → SAt σ' x st.prep dx nd (.ref b) as ep → R (.ok (.ret .none)) ⟨fs, σ', g⟩)
    (hS : ∀ r e t args T σ' b, RingRes st.keys st.su (some r) → Ext [1, 3, 4, 8] σ σ' → SAt σ' x st.prep dx nd (.ref b) as ep → Exc σ' e t (.ref 55) args (some T) → R (.error (.ref e)) ⟨fs, σ', g⟩) :
    Wk c A (.call (.ref 92) ⟨[.ref x], []⟩) R ⟨fs, σ, g⟩ := by
  have hrv : rv = .none := by have := S.rdy; rw [hr] at this; exact this
  subst hrv
  refine Wk_call_G lw.K (ns := ["self", "cycle"]) (us := [.ref x]) (gs := [("ValueError", .type "ValueError"), ("CycleError", .ref 55)]) fn_prepare rfl (by kernel_rfl) rfl (.cons (.rest .nil)) (by simp [lw.ValueError, hcy]) hA (fun L env B P X hfr hh hL hA' hout hE hFx hUx => ?_)
  refine W_consG (fun _ _ => ?_)
  repeat walk_at "st"
  refine W_getAttr S.x S.dx (lw.K ▸ a_ready) sAttrs_nd (by walk_at "mem") ?_
  repeat walk_at "st"
  refine W_ListComp (x := "i") (gls := []) (caps := []) ⟨rfl, rfl, by decide +kernel⟩ (CapOk.nil (cl := []) hE.kind) ?_
  repeat walk_at "st"
  refine W_getAttr S.x S.dx (lw.K ▸ a_node2info) sAttrs_nd (by walk_at "mem") ?_
  intro pl
  refine W_meth_dict F.slot_dict_values F.type_dict_values S.nd ?_
  repeat walk_at "st"
  refine ⟨Kp.builtin, W_dict_values S.nd (fun vw h1 σ1 e1 => ?_)⟩
  have X1 : Ext [] σ σ1 := by rw [e1]; exact Ext.upd_new h1
  have S1 := S.ext X1 (by simp) (by simp)
  refine W_iter_values (by rw [e1]; exact upd_self) S1.nd (fun it h2 σ2 e2 => ?_)
  have hvs : (st.keys.zip (as.map fun p => AV.ref p.i)).map (·.2) = as.map fun p => AV.ref p.i := by
    rw [List.map_snd_zip]; simp [S.len]
  refine CompK_loop (k := 1) (gs := []) ⟨rfl, rfl, by decide +kernel⟩ (CapOk.nil (cl := []) hE.kind) rfl (by simp) hE.gl hE.bl (IterOf.dictValues hh) IterSelf.dictValues [] (by simp) (by simp) (by decide) 1
    (fun i ys σ => ys = (st.keys.take i).filter (fun k => decide (st.np k = 0)) ∧ SAt σ x st dx nd .none as ep)
    (fun i ys σ σ' h e => ⟨h.1, h.2.ext e (by simp) (by simp)⟩) h2 e2 (by rw [e2, upd_ne (fun q => by rw [← q, S1.nd] at h2; cases h2)]; exact S1.nd) ⟨rfl, S1⟩ (fun i ys σ h => ?_) ?_ ?_
  · rw [h.1]
    have h1 := List.length_filter_le (fun k => decide (st.np k = 0)) (st.keys.take i)
    have h2 : (st.keys.take i).length ≤ st.keys.length := by rw [List.length_take]; exact Nat.min_le_right ..
    omega
  · rintro C cenv i v σ3 ys hCE hCC hg hb ⟨rfl, S3⟩ hv hsrc Y3
    rw [hvs] at hv
    obtain ⟨p, hp, rfl⟩ := map_some_of ((List.getElem?_map ..).symm.trans hv)
    have hi : i < st.keys.length := by rw [← S.len]; exact (List.getElem?_eq_some_iff.mp hp).1
    have hk : st.keys[i]? = some st.keys[i] := by simp [hi]
    have N3 := S3.nds i p _ hp hk
    have hkey := S.key _ (List.getElem_mem hi)
    refine W_tests_one ?_
    repeat walk_at "st"
    refine W_getSlot N3.i N3.d (lw.K ▸ sl_np) (by rfl) ?_
    repeat walk_at "st"
    have htk : st.keys.take (i + 1) = st.keys.take i ++ [st.keys[i]] := by rw [List.take_add_one, hk]; rfl
    by_cases hz0 : st.np st.keys[i] = 0
    · have : (st.np st.keys[i] == 0) = true := by simp [hz0]
      rw [this]
      repeat walk_at "st"
      refine W_getSlot N3.i N3.d (lw.K ▸ sl_node) (by rfl) (All.key hkey fun u4 e4 => ?_) (by cases q : st.keys[i] <;> simp_all [AV.plain, AV.isKey])
      refine ⟨σ3, rfl, Ext.refl, ?_, S3⟩
      rw [htk, List.filter_append, e4]; simp [hz0]
    · have : (st.np st.keys[i] == 0) = false := by simp [hz0]
      rw [this]
      repeat walk_at "st"
      refine ⟨σ3, rfl, Ext.refl, ?_, S3⟩
      rw [htk, List.filter_append]; simp [hz0]
  · rintro D C vx ys σ3 ⟨rfl, S3⟩ Y3 hD hD3
    rw [hvs, List.length_map, S.len, List.take_length] at hD3
    repeat walk_at "st"
    refine W_setAttr S3.x S3.dx (lw.K ▸ a_ready) (.there .here) sAttrs_nd (by simp) ?_
    have S4 := S3.setAttrs (st' := st.prep) (rv' := .ref D) rfl rfl rfl ⟨D, rfl, hD3⟩
    generalize e4 : upd σ3 dx _ = σ4
    have e4' : upd σ3 dx (some (1, .attrs (sAttrs nd (.ref D) st.prep))) = σ4 := e4
    rw [e4'] at S4
    have X4 : Ext [1, 3, 4, 8] σ σ4 := X1.nil.trans (Y3.nil.trans (by rw [← e4']; exact Ext.upd_own S3.dx (by simp)))
    repeat walk_at "st"
    intro pl2
    refine W_getMethod S4.x S4.dx (lw.K ▸ bo_find.get) (lw.K ▸ bo_find.find) (lw.K ▸ bo_find.fn) (no_attr (by decide +kernel)) ?_
    repeat walk_at "st"
    refine ⟨Kp.inK (lw.K ▸ keep_find), find_cycle_spec lw (d := d) hA' S4 hsu hz hzs (fun σ5 hr5 X5 => ?_) (fun r l σ5 hr5 hrl X5 hl5 => ?_)⟩
    · repeat walk_at "st"
      refine W_truthy_none ?_
      repeat walk_at "st"
      exact hN σ5 D hr5 (X4.trans (X5.mono (by simp))) (S4.ext X5 (by simp) (by simp))
    · repeat walk_at "st"
      refine W_truthy_list hl5 (by have : st.prep.keys.length = st.keys.length := rfl; omega) ?_
      have : (!r.isEmpty) = true := by
        cases hr5; simp
      rw [this]
      refine ite_t rfl (W_consG fun _ _ => ?_)
      obtain ⟨nm, q, bs, hdct, sn, sub, ab, col, dd, k0, k1, k2, k3, k5, hcls⟩ := cyc_cls (w := c.w)
      refine W_RaiseOwn (C := 55) (N := 54) F.excBase_ValueError hh (c.inK _ _ (lw.K ▸ hcls)) (.of_isNs (isNs_of_in c.inK (lw.K ▸ cyc_ns.1))) (nsMap_none_of_in c.inK (lw.K ▸ cyc_ns.1) (lw.K ▸ cyc_ns.2)) ?_
      repeat walk_at "st"
      refine ⟨rfl, ?_⟩
      repeat walk_at "st"
      refine W_Joined1 ?_
      repeat walk_at "st"
      refine ⟨rfl, by simp, fun e t σ6 X6 he6 hx6 => ?_⟩
      exact hUx.ex _ _ _ _ _ _ _ _ _ _ hx6 fun σ7 T X7 hx7 => hS r e t _ T σ7 D hr5 (X4.trans ((X5.mono (by simp)).trans (X6.nil.trans (X7.mono (by simp))))) (S4.ext (X5.mono (D := [3, 4, 8]) (by simp) |>.trans (X6.nil.trans (X7.mono (by simp)))) (by simp) (by simp)) hx7
end
end Mine

namespace Mine
open PySem PySem.W PyProof.Rows PySem.Calls

structure Lv (c : Cx) : Prop extends Lw c where
  CycleError : Glob c "CycleError" (.ref 55)
  TS : Glob c "TopologicalSorter" (.ref 137)
  range : Glob c "range" (.type "range")
  list : Glob c "list" (.type "list")
  min : Glob c "min" (.builtin "min")
  sum : Glob c "sum" (.builtin "sum")
  drawn : Glob c "_law_drawn" (.ref 148)
  plan : Glob c "_law_plan" (.ref 155)
  back : Glob c "_law_back" (.ref 160)
  hold : Glob c "_law_hold" (.ref 167)
  told : Glob c "_law_told" (.ref 174)
  rounds : Glob c "_law_rounds" (.ref 181)

theorem fn_drawn {w : World} : FnOk (KK w) 148 ["script"] ["row", "held", "rounds", "x"] ["sum"] := ⟨rfl, rfl, rfl, rfl, rfl, rfl, rfl, rfl, rfl, by decide +kernel⟩

@[reducible] noncomputable def I2 (l : List Int) : List AV := l.map AV.int
theorem I2_mem {l : List Int} {n : Int} : AV.int n ∈ I2 l ↔ n ∈ l := by simp [I2]
theorem I2_key {l : List Int} : ∀ v ∈ I2 l, v.isKey = true := fun v hv => by
  obtain ⟨i, _, rfl⟩ := List.mem_map.mp hv; rfl

noncomputable def addR (rs : List (List Int)) (x : Int) : List (List Int) := if rs = [] ∨ x % 3 = 0 then rs ++ [[x]] else rs.dropLast ++ [(rs.getLastD []) ++ [x]]
structure DS where
  row : List Int
  held : List Int
  rounds : List (List Int)
noncomputable def DS.step (s : DS) (x : Int) : DS := if x ∈ s.row then s else if x % 5 = 4 then ⟨s.row ++ [x], s.held ++ [x], s.rounds⟩ else ⟨s.row ++ [x], s.held, addR s.rounds x⟩
noncomputable def DS.of (xs : List Int) : DS := xs.foldl DS.step ⟨[], [], []⟩

structure DrAt (σ : Addr → Option (Nat × Cell)) (row held R : Addr) (as : List Addr) (S : DS) : Prop where
  hr : σ row = some (5, .list (I2 S.row))
  hh : σ held = some (5, .list (I2 S.held))
  hR : σ R = some (5, .list (as.map AV.ref))
  len : as.length = S.rounds.length
  at_ : ∀ (j : Nat) (p : Addr) (r : List Int), as[j]? = some p → S.rounds[j]? = some r → σ p = some (5, .list (I2 r))
  nd : (row :: held :: R :: as).Nodup
theorem DrAt.ext {σ σ' : Addr → Option (Nat × Cell)} {row held R : Addr} {as : List Addr} {S : DS} {C : List Nat} (h : DrAt σ row held R as S) (e : Ext C σ σ') (h5 : 5 ∉ C) : DrAt σ' row held R as S :=
  ⟨e _ _ _ h.hr h5, e _ _ _ h.hh h5, e _ _ _ h.hR h5, h.len, fun j p r a b => e _ _ _ (h.at_ j p r a b) h5, h.nd⟩

structure DS.Le (s : DS) (n : Nat) : Prop where
  row : s.row.length ≤ n
  held : s.held.length ≤ n
  rounds : s.rounds.length ≤ n
  each : ∀ r ∈ s.rounds, r.length ≤ n
  flat : s.rounds.flatten.length ≤ n
theorem DS.Le.step {s : DS} {n : Nat} {x : Int} (h : s.Le n) : (s.step x).Le (n + 1) := by
  have up : s.Le (n + 1) := ⟨Nat.le_succ_of_le h.row, Nat.le_succ_of_le h.held, Nat.le_succ_of_le h.rounds, fun r hr => Nat.le_succ_of_le (h.each r hr), Nat.le_succ_of_le h.flat⟩
  unfold DS.step
  split
  · exact up
  · split
    · exact ⟨by simp; exact h.row, by simp; exact h.held, up.rounds, up.each, up.flat⟩
    · refine ⟨by simp; exact h.row, up.held, ?_, ?_, ?_⟩ <;> (dsimp only; unfold addR; split <;> rename_i q)
      · simp; exact h.rounds
      · have := h.rounds; simp; omega
      · intro r hr
        rcases List.mem_append.mp hr with hr | hr
        · exact up.each r hr
        · rw [List.mem_singleton.mp hr]; simp
      · intro r hr
        rcases List.mem_append.mp hr with hr | hr
        · exact up.each r (List.dropLast_subset _ hr)
        · rw [List.mem_singleton.mp hr, List.length_append]
          have hne : s.rounds ≠ [] := fun z => q (.inl z)
          rw [List.getLastD_eq_getLast?, List.getLast?_eq_some_getLast hne]
          exact Nat.succ_le_succ (h.each _ (List.getLast_mem hne))
      · have := h.flat
        simp only [List.flatten_append, List.length_append, List.flatten_cons, List.flatten_nil, List.append_nil, List.length_cons, List.length_nil]; omega
      · have hne : s.rounds ≠ [] := fun z => q (.inl z)
        have hs : s.rounds.dropLast ++ [s.rounds.getLast hne] = s.rounds := List.dropLast_concat_getLast hne
        have h1 := h.flat
        rw [← hs] at h1
        rw [List.getLastD_eq_getLast?, List.getLast?_eq_some_getLast hne]
        simp only [List.flatten_append, List.length_append, List.flatten_cons, List.flatten_nil, List.append_nil, Option.getD_some, List.length_cons, List.length_nil] at h1 ⊢
        omega
theorem DS.Le.fold {xs : List Int} {s : DS} {n : Nat} (h : s.Le n) : (xs.foldl DS.step s).Le (n + xs.length) := by
  induction xs generalizing s n with
  | nil => exact h
  | cons x xs ih => have := ih (h.step (x := x)); rwa [List.length_cons, ← Nat.add_assoc, Nat.add_right_comm]
theorem DS.Le.init : DS.Le ⟨[], [], []⟩ 0 := ⟨Nat.le_refl _, Nat.le_refl _, Nat.le_refl _, fun r hr => (by cases hr), Nat.le_refl _⟩

section
variable {c : Cx} {A : Around} {E : Value → AS → Prop} {fs : List Frm} {σ : Addr → Option (Nat × Cell)} {g : Array GenState} {d : Nat}
set_option maxHeartbeats 4000000

theorem drawn_spec {s : Addr} {is : List Int} {Q : Value → AS → Prop} (lv : Lv c) (hA : AOk A fs (d + 1)) (hs : BL c s (I2 is)) (hl : is.length ≤ 63)
    (h : ∀ t σ', Ext [5] σ σ' → Dz σ' (.ref t) (.tuple [.list ((DS.of (is.take 40 ++ [1, 3, 7, 4, 9])).rounds.map fun r => .list (r.map .int)), .list ((DS.of (is.take 40 ++ [1, 3, 7, 4, 9])).held.map .int), .int (DS.of (is.take 40 ++ [1, 3, 7, 4, 9])).row.sum]) → Q (.ref t) ⟨fs, σ', g⟩) :
    W c A (call (.ref 148) [.ref s]) Q E ⟨fs, σ, g⟩ := by
  refine W_call_G lv.K (ns := ["script", "row", "held", "rounds", "x"]) (us := [.ref s]) (gs := [("sum", .builtin "sum")]) fn_drawn rfl (by kernel_rfl) rfl (.cons (.rest (.rest (.rest (.rest .nil))))) (by simp [lv.sum]) hA (fun L env B P X hfr hh hL hA' hout hE hFx hUx => ?_)
  refine W_consG (fun _ _ => ?_)
  refine W_Assign_swap3 hE (by walk_at "mem") (by walk_at "mem") (by walk_at "mem") (by decide +kernel) hh ?_
  repeat walk_at "st"
  refine W_newList 5 (by simp) (fun row h1 σ1 e1 => ?_)
  repeat walk_at "st"
  refine W_newList 5 (by simp) (fun held h2 σ2 e2 => ?_)
  repeat walk_at "st"
  refine W_newList 5 (by simp) (fun rr h3 σ3 e3 => ?_)
  repeat walk_at "st"
  refine W_newTuple 9 (by simp) (fun tp h4 σ4 e4 => ?_)
  refine ⟨tp, _, _, _, rfl, ⟨9, .inr (by rw [e4]; exact upd_self)⟩, ?_⟩
  repeat walk_at "st"
  have X1 : Ext [5] σ σ4 := by
    rw [e4]; refine Ext.trans ?_ (Ext.upd_new h4)
    rw [e3]; refine Ext.trans ?_ (Ext.upd_new h3)
    rw [e2]; refine Ext.trans ?_ (Ext.upd_new h2)
    rw [e1]; exact Ext.upd_new h1
  have n12 : row ≠ held := fun q => by rw [← q, e1, upd_self] at h2; cases h2
  have n13 : row ≠ rr := fun q => by rw [← q, e2, upd_ne n12, e1, upd_self] at h3; cases h3
  have n23 : held ≠ rr := fun q => by rw [← q, e2, upd_self] at h3; cases h3
  have g4 : ∀ {y p}, σ3 y = some p → σ4 y = some p := fun {y p} q => by rw [e4, upd_ne (fun z => by rw [z, h4] at q; cases q)]; exact q
  have D4 : DrAt σ4 row held rr [] ⟨[], [], []⟩ := by
    refine ⟨g4 (by rw [e3, upd_ne n13, e2, upd_ne n12, e1]; exact upd_self), g4 (by rw [e3, upd_ne n23, e2]; exact upd_self), g4 (by rw [e3]; exact upd_self), rfl, fun j p r a _ => by simp at a, ?_⟩
    simp [n12, n13, n23]
  clear e1 e2 e3 e4 h1 h2 h3 h4 g4
  refine W_For (W_BinOp (W_slice_toB 9 ?_))
  repeat walk_at "st"
  refine ⟨s, _, _, _, rfl, rfl, hs, by simp; omega, by decide, fun l5 h5 σ5 e5 => ?_⟩
  dsimp only at h5 e5 ⊢
  repeat walk_at "st"
  refine W_newList 9 (by simp) (fun l6 h6 σ6 e6 => ?_)
  have hll : l5 ≠ l6 := fun z => by rw [← z, e5, upd_self] at h6; cases h6
  refine W_list_add 0 (by rw [e6, upd_ne hll, e5]; exact upd_self) (by rw [e6]; exact upd_self) (by simp; omega) (fun l7 h7 σ7 e7 => ?_)
  have hsrc : σ7 l7 = some (0, .list (I2 (is.take 40 ++ [1, 3, 7, 4, 9]))) := by
    rw [e7, upd_self]; simp [I2]
  have X7 : Ext [5] σ4 σ7 := by
    rw [e7]; refine Ext.trans ?_ (Ext.upd_new h7)
    rw [e6]; refine Ext.trans ?_ (Ext.upd_new h6)
    rw [e5]; exact Ext.upd_new h5
  have D7 : DrAt σ7 row held rr [] ⟨[], [], []⟩ := D4.ext (C := []) (by
    rw [e7]; refine Ext.trans ?_ (Ext.upd_new h7)
    rw [e6]; refine Ext.trans ?_ (Ext.upd_new h6)
    rw [e5]; exact Ext.upd_new h5) (by simp)
  have hxl : (is.take 40 ++ [1, 3, 7, 4, 9]).length ≤ 45 := by simp; omega
  clear e5 e6 e7 h5 h6 h7 hll
  generalize is.take 40 ++ [1, 3, 7, 4, 9] = xs at *
  refine W_iter_list hsrc (fun it h8 σ8 e8 => ?_)
  refine Wk_loopG (IterOf.list (k := 0) hh) [5] (by simp) (by simp)
    (fun i vv σ => ∃ b as, vv = [some (.ref s), some (.ref row), some (.ref held), some (.ref rr), b] ∧ DrAt σ row held rr as (DS.of (xs.take i)))
    (fun i vv σ σ' ⟨b, as, hv, D⟩ X => ⟨b, as, hv, D.ext X (by simp)⟩) h8 e8 (by rw [e8, upd_ne (fun q => by rw [← q, hsrc] at h8; cases h8)]; exact hsrc) ⟨_, [], rfl, D7⟩ ?_ ?_
  · rintro i v vv σ9 u9 P9 E9 hP9 hE9 ⟨b, as, rfl, D9⟩ hv eu hsr Y9
    obtain ⟨n, hn, rfl⟩ := map_some_of ((List.getElem?_map ..).symm.trans hv)
    have hof : DS.of (xs.take (i + 1)) = (DS.of (xs.take i)).step n := by unfold DS.of; rw [List.take_add_one, hn, List.foldl_append]; rfl
    have hLe : (DS.of (xs.take i)).Le 45 := by
      have := DS.Le.init.fold (xs := xs.take i)
      have h2 : (xs.take i).length ≤ 45 := by rw [List.length_take]; omega
      exact ⟨Nat.le_trans this.row (by omega), Nat.le_trans this.held (by omega), Nat.le_trans this.rounds (by omega), fun r hr => Nat.le_trans (this.each r hr) (by omega), Nat.le_trans this.flat (by omega)⟩
    generalize DS.of (xs.take i) = S at *
    repeat walk_at "st"
    rw [eu]
    repeat walk_at "st"
    refine W_in_list D9.hr rfl I2_key ?_
    by_cases hin : n ∈ S.row
    · rw [decide_eq_true (show er (Value.int n _) ∈ I2 S.row from I2_mem.mpr hin)]
      repeat walk_at "st"
      exact hP9.co _ σ9 Ext.refl ⟨_, as, rfl, by rw [hof]; unfold DS.step; rw [if_pos hin]; exact D9⟩
    · rw [decide_eq_false (show ¬ er (Value.int n _) ∈ I2 S.row from fun q => hin (I2_mem.mp q))]
      repeat walk_at "st"
      intro pl
      refine W_meth_list F.slot_list_append F.type_list_append D9.hr ?_
      repeat walk_at "st"
      refine ⟨Kp.builtin, W_append D9.hr (by have := hLe.row; simp; omega) (fun σ10 e10 => ?_)⟩
      repeat walk_at "st"
      refine W_mod (by decide) (fun t11 => ?_)
      repeat walk_at "st"
      rw [Int.fmod_eq_emod_of_nonneg _ (by decide)]
      have nd9 := D9.nd
      simp only [List.nodup_cons, List.mem_cons, not_or] at nd9
      have X10 : Ext [5] σ9 σ10 := by rw [e10]; exact Ext.upd_own D9.hr (by simp)
      by_cases h4 : n % 5 = 4
      · rw [show (n % 5 == 4) = true from beq_iff_eq.mpr h4]
        repeat walk_at "st"
        intro pl2
        have hh10 : σ10 held = some (5, .list (I2 S.held)) := by rw [e10, upd_ne (Ne.symm nd9.1.1)]; exact D9.hh
        refine W_meth_list F.slot_list_append F.type_list_append hh10 ?_
        repeat walk_at "st"
        refine ⟨Kp.builtin, W_append hh10 (by have := hLe.held; simp; omega) (fun σ11 e11 => ?_)⟩
        repeat walk_at "st"
        refine hP9.nx _ σ11 (X10.trans (by rw [e11]; exact Ext.upd_own hh10 (by simp))) ⟨_, as, rfl, ?_⟩
        rw [hof]; unfold DS.step; rw [if_neg hin, if_pos h4]
        refine ⟨by rw [e11, upd_ne nd9.1.1, e10, upd_self]; simp [I2], by rw [e11, upd_self]; simp [I2], by rw [e11, upd_ne (Ne.symm nd9.2.1.1), e10, upd_ne (Ne.symm nd9.1.2.1)]; exact D9.hR, D9.len, fun j p r a b => ?_, D9.nd⟩
        have hm := List.mem_of_getElem? a
        rw [e11, upd_ne (fun (z : p = held) => nd9.2.1.2 (z ▸ hm)), e10, upd_ne (fun (z : p = row) => nd9.1.2.2 (z ▸ hm))]
        exact D9.at_ j p r a b
      · rw [show (n % 5 == 4) = false from beq_eq_false_iff_ne.mpr h4]
        have hr10 : σ10 row = some (5, .list (I2 (S.row ++ [n]))) := by rw [e10, upd_self]; simp [I2]
        have D10 : DrAt σ10 row held rr as ⟨S.row ++ [n], S.held, S.rounds⟩ := by
          refine ⟨hr10, by rw [e10, upd_ne (Ne.symm nd9.1.1)]; exact D9.hh, by rw [e10, upd_ne (Ne.symm nd9.1.2.1)]; exact D9.hR, D9.len, fun j p r a b => ?_, D9.nd⟩
          have hm := List.mem_of_getElem? a
          rw [e10, upd_ne (fun (z : p = row) => nd9.1.2.2 (z ▸ hm))]
          exact D9.at_ j p r a b
        refine ite_f Bool.false_ne_true ?_
        refine W_consG fun P10 hP10 => ?_
        refine W_If ?_
        refine W_cutV (fun b a' => b = decide (S.rounds = [] ∨ n % 3 = 0) ∧
          ∃ σ', a' = ⟨⟨L, [], ["script", "row", "held", "rounds", "x"], [some (.ref s), some (.ref row), some (.ref held), some (.ref rr), some (.int n)]⟩ :: fs, σ', g⟩ ∧ Ext [] σ10 σ') ?_ ?_
        · intro Pv hPv
          repeat walk_at "st"
          refine W_newList 9 (by simp) (fun l11 h11 σ11 e11 => ?_)
          have X11 : Ext [] σ10 σ11 := by rw [e11]; exact Ext.upd_new h11
          have D11 := D10.ext X11 (by simp)
          refine W_eqD hA' (.list D11.hR (RdL.rows D11.len D11.at_)) (.list (by rw [e11]; exact upd_self) .nil) Sh.rows.ok (Sh.ok (n := 1) (Sh.list (by simp))) ?_
          rw [eqv_nil]
          by_cases he : S.rounds = []
          · have : (S.rounds.map fun r => PyData.list (r.map .int)).isEmpty = true := by rw [he]; rfl
            rw [this]
            repeat walk_at "st"
            exact hPv _ _ ⟨by simp [he], σ11, rfl, X11⟩
          · have : (S.rounds.map fun r => PyData.list (r.map .int)).isEmpty = false := by simpa using he
            rw [this]
            repeat walk_at "st"
            refine W_mod (by decide) (fun t11 => ?_)
            repeat walk_at "st"
            rw [Int.fmod_eq_emod_of_nonneg _ (by decide)]
            by_cases h3 : n % 3 = 0
            · rw [show (n % 3 == 0) = true from beq_iff_eq.mpr h3]
              repeat walk_at "st"
              exact hPv _ _ ⟨by simp [h3], σ11, rfl, X11⟩
            · rw [show (n % 3 == 0) = false from beq_eq_false_iff_ne.mpr h3]
              repeat walk_at "st"
              exact hPv _ _ ⟨by simp [he, h3], σ11, rfl, X11⟩
        · rintro b1 a1 ⟨rfl, σ11, rfl, X11⟩
          have D11 := D10.ext X11 (by simp)
          by_cases hc : S.rounds = [] ∨ n % 3 = 0
          · rw [decide_eq_true hc]
            repeat walk_at "st"
            intro pl2
            refine W_meth_list F.slot_list_append F.type_list_append D11.hR ?_
            repeat walk_at "st"
            refine W_newList 5 (by simp) (fun l12 h12 σ12 e12 => ?_)
            have X12 : Ext [] σ11 σ12 := by rw [e12]; exact Ext.upd_new h12
            have D12 := D11.ext X12 (by simp)
            repeat walk_at "st"
            refine ⟨Kp.builtin, W_append D12.hR (by have := hLe.rounds; have := D9.len; simp; omega) (fun σ13 e13 => ?_)⟩
            repeat walk_at "st"
            refine hP9.nx _ σ13 (X10.trans (X11.nil.trans (X12.nil.trans (by rw [e13]; exact Ext.upd_own D12.hR (by simp))))) ⟨_, as ++ [l12], rfl, ?_⟩
            rw [hof]; unfold DS.step addR; rw [if_neg hin, if_neg h4, if_pos hc]
            have nf : ∀ {y q}, σ11 y = some q → y ≠ l12 := fun hy z => by rw [z, h12] at hy; cases hy
            have hl12 : l12 ∉ as := fun hm => by
              obtain ⟨j, hj, e⟩ := List.mem_iff_getElem.mp hm
              have hj' : j < S.rounds.length := by rw [← D9.len]; exact hj
              exact nf (D11.at_ j l12 S.rounds[j] (by simp [hj, e]) (by simp [hj'])) rfl
            refine ⟨by rw [e13, upd_ne nd9.1.2.1]; exact D12.hr, by rw [e13, upd_ne nd9.2.1.1]; exact D12.hh, by rw [e13, upd_self]; simp, by simp [D9.len], fun j p r a b => ?_, ?_⟩
            · by_cases hj : j < as.length
              · rw [List.getElem?_append_left hj] at a
                rw [List.getElem?_append_left (by rw [← D9.len]; exact hj)] at b
                have hm := List.mem_of_getElem? a
                rw [e13, upd_ne (fun (z : p = rr) => nd9.2.2.1 (z ▸ hm))]
                exact D12.at_ j p r a b
              · rw [List.getElem?_append_right (by omega)] at a
                rw [List.getElem?_append_right (by have := D9.len; omega), ← D9.len] at b
                have hj0 : j - as.length = 0 := by
                  by_cases q : j - as.length = 0
                  · exact q
                  · rw [List.getElem?_eq_none (by simp; omega)] at a; cases a
                rw [hj0] at a b
                simp only [List.getElem?_cons_zero, Option.some.injEq] at a b
                subst a b
                rw [e13, upd_ne (Ne.symm (nf D11.hR)), e12, upd_self]; rfl
            · have h1 := nf D11.hr
              have h2 := nf D11.hh
              have h3 := nf D11.hR
              rw [show row :: held :: rr :: (as ++ [l12]) = (row :: held :: rr :: as) ++ [l12] from rfl]
              refine List.nodup_append.mpr ⟨D9.nd, by simp, fun x hx y hy e => ?_⟩
              rw [List.mem_singleton.mp hy] at e
              simp only [List.mem_cons] at hx
              rcases hx with q | q | q | q
              · exact h1 (q ▸ e)
              · exact h2 (q ▸ e)
              · exact h3 (q ▸ e)
              · exact hl12 (e ▸ q)
          · rw [decide_eq_false hc]
            have hne : S.rounds ≠ [] := fun z => hc (.inl z)
            obtain ⟨as', al, rfl⟩ : ∃ as' al, as = as' ++ [al] := by
              rcases List.eq_nil_or_concat as with z | ⟨as', al, z⟩
              · exfalso; apply hne; have := D9.len; rw [z] at this; exact List.length_eq_zero_iff.mp this.symm
              · exact ⟨as', al, by rw [z]; simp⟩
            obtain ⟨rs', rl, hrs⟩ : ∃ rs' rl, S.rounds = rs' ++ [rl] := by
              rcases List.eq_nil_or_concat S.rounds with z | ⟨as', al, z⟩
              · exact absurd z hne
              · exact ⟨as', al, by rw [z]; simp⟩
            have hlen : as'.length = rs'.length := by have := D9.len; rw [hrs] at this; simpa using this
            have hal : σ11 al = some (5, .list (I2 rl)) := D11.at_ as'.length al rl (by simp) (by dsimp only; rw [hrs, hlen]; simp)
            have hR11 : σ11 rr = some (5, .list (as'.map AV.ref ++ [.ref al])) := by rw [D11.hR]; simp
            have hrll := hLe.each rl (by rw [hrs]; simp)
            repeat walk_at "st"
            refine ⟨noGet_list hR11, W_last_list hR11 (by have := hLe.rounds; rw [hrs] at this; simp at this ⊢; omega) ?_⟩
            repeat walk_at "st"
            intro pl2
            refine W_meth_list F.slot_list_append F.type_list_append hal ?_
            repeat walk_at "st"
            refine ⟨Kp.builtin, W_append hal (by simp; omega) (fun σ12 e12 => ?_)⟩
            repeat walk_at "st"
            refine hP9.nx _ σ12 (X10.trans (X11.nil.trans (by rw [e12]; exact Ext.upd_own hal (by simp)))) ⟨_, as' ++ [al], rfl, ?_⟩
            rw [hof]; unfold DS.step addR; rw [if_neg hin, if_neg h4, if_neg hc, hrs]
            have mal : al ∈ as' ++ [al] := by simp
            refine ⟨by rw [e12, upd_ne (fun (z : row = al) => nd9.1.2.2 (z ▸ mal))]; exact D11.hr, by rw [e12, upd_ne (fun (z : held = al) => nd9.2.1.2 (z ▸ mal))]; exact D11.hh, by rw [e12, upd_ne (fun (z : rr = al) => nd9.2.2.1 (z ▸ mal))]; exact D11.hR, by simp [hlen], fun j p r a b => ?_, D9.nd⟩
            rw [List.dropLast_concat, List.getLastD_concat] at b
            by_cases hj : j < as'.length
            · have hnd : al ∉ as' := fun z => by
                have := nd9.2.2.2
                exact (List.nodup_append.mp this).2.2 al z al (by simp) rfl
              have a' := a
              rw [List.getElem?_append_left hj] at a'
              rw [List.getElem?_append_left (by omega)] at b
              rw [e12, upd_ne (fun (z : p = al) => hnd (z ▸ List.mem_of_getElem? a'))]
              exact D11.at_ j p r a (by dsimp only; rw [hrs, List.getElem?_append_left (by omega)]; exact b)
            · rw [List.getElem?_append_right (by omega)] at a
              rw [List.getElem?_append_right (by omega), ← hlen] at b
              have hj0 : j - as'.length = 0 := by
                by_cases q : j - as'.length = 0
                · exact q
                · rw [List.getElem?_eq_none (by simp; omega)] at a; cases a
              rw [hj0] at a b
              simp only [List.getElem?_cons_zero, Option.some.injEq] at a b
              subst a b
              rw [e12, upd_self]; simp [I2]
  · rintro vv σ9 ⟨b, as, rfl, D9⟩ Y9
    have : (I2 xs).length = xs.length := by simp
    rw [this, List.take_length] at D9
    refine Nx.nx (by assumption) _ ?_
    repeat walk_at "st"
    refine ⟨Kp.builtin, W_sum hh D9.hr (fun t10 => ?_)⟩
    repeat walk_at "st"
    refine W_recol (fk 5) ?_
    have hX : Ext [5] σ (recol (fk 5) σ9) := X1.trans (X7.trans (Y9.trans (Ext.recolk (by simp))))
    have hrr := recolk_at D9.hR
    have hhd := recolk_at D9.hh
    have hrw : DzL (recol (fk 5) σ9) (as.map AV.ref) ((DS.of xs).rounds.map fun r => .list (r.map .int)) :=
      RdL.rows (k := 0) D9.len fun j p r a b => fz_iff.mpr ⟨rfl, recolk_at (D9.at_ j p r a b)⟩
    refine W_newTuple 0 (by simp) (fun tp h10 σ10 e10 => ?_)
    have X10 : Ext [] (recol (fk 5) σ9) σ10 := by rw [e10]; exact Ext.upd_new h10
    repeat walk_at "st"
    exact h tp σ10 (hX.trans X10.nil) (.tuple (by rw [e10]; exact upd_self) (.cons (.list (X10 _ _ _ hrr (by simp)) (hrw.ext X10 (by simp))) (.cons (.list (X10 _ _ _ hhd (by simp)) .ints) (.cons .int .nil))))
end
end Mine

namespace Mine
open PySem PySem.W PyProof.Rows PySem.Calls

theorem fn_plan {w : World} : FnOk (KK w) 155 ["rounds"] ["plan", "flat", "k", "ahead", "start", "at", "x", "rest", "count", "others", "turn"] ["list", "range", "len", "min"] := ⟨rfl, rfl, rfl, rfl, rfl, rfl, rfl, rfl, rfl, by decide +kernel⟩

structure PE where
  x : Int
  b : Int
  os : List Int
noncomputable def PE.data (e : PE) : PyData := .list [.int e.x, .int e.b, .list (e.os.map .int)]

/-- the entries of one round: each behind a node of the round ahead, no one ahead of the one before -/
inductive Seg (pre ahead : List Int) : List Int → List PE → Nat → Prop
  | nil : Seg pre ahead [] [] 0
  | snoc {xs es a a' x b os} : Seg pre ahead xs es a → a ≤ a' → ahead[a']? = some b → (∀ o ∈ os, o ∈ pre ++ ahead.take (a' + 1)) → os.length ≤ 3 → Seg pre ahead (xs ++ [x]) (es ++ [⟨x, b, os⟩]) a'

inductive PlanOk : List (List Int) → List PE → Prop
  | one {r} : PlanOk [r] []
  | snoc {rs ahead r pl es a} : PlanOk (rs ++ [ahead]) pl → Seg rs.flatten ahead r es a → PlanOk (rs ++ [ahead] ++ [r]) (pl ++ es)

noncomputable def PvAt (σ : Addr → Option (Nat × Cell)) (pp : Addr) (pl : List PE) : Prop := ∃ pvs, σ pp = some (5, .list pvs) ∧ DzL σ pvs (pl.map PE.data)
theorem PvAt.ext {σ σ' : Addr → Option (Nat × Cell)} {pp : Addr} {pl : List PE} {C : List Nat} (h : PvAt σ pp pl) (e : Ext C σ σ') (h0 : 0 ∉ C) (h5 : 5 ∉ C) : PvAt σ' pp pl := by
  obtain ⟨p, a, b⟩ := h
  exact ⟨p, e _ _ _ a h5, b.ext e h0⟩

theorem intsFrom_at {lo : Int} {n i : Nat} {v : AV} (h : (intsFrom lo n)[i]? = some v) : v = .int (lo + i) ∧ i < n := by
  unfold intsFrom at h
  rw [List.getElem?_map] at h
  obtain ⟨a, h1, h2⟩ := map_some_of h
  obtain ⟨h3, h4⟩ := List.getElem?_eq_some_iff.mp h1
  rw [List.getElem_range] at h4
  subst h4
  exact ⟨h2.symm, by simpa using h3⟩
theorem log2_small {m : Int} (h : m.natAbs ≤ 100000) : m.natAbs.log2 < 9000 := by
  have : m.natAbs.log2 < 17 := by
    by_cases h0 : m.natAbs = 0
    · rw [h0]; decide
    · rw [Nat.log2_lt h0]; omega
  omega

section
variable {c : Cx} {A : Around} {E : Value → AS → Prop} {fs : List Frm} {σ : Addr → Option (Nat × Cell)} {g : Array GenState} {d : Nat}
theorem W_item_at {D : Addr} {vs : List AV} {k : Nat} {j : Int} {t : Tok} {i : Nat} {v : AV} {a : AS} {Q : Value → AS → Prop} (hl : a.σ D = some (k, .list vs)) (e : j = (i : Int)) (hv : vs[i]? = some v) (hz : vs.length ≤ 1000000) (h : All v (fun u => Q u a)) : W c A (getItem (.ref D) (.int j t)) Q E a := by
  subst e
  exact W_item_list hl (Int.natCast_nonneg _) (by rw [Int.toNat_natCast]; exact hv) hz h
set_option maxHeartbeats 1000000

theorem plan_spec {R : Addr} {rs : List (List Int)} {Q : Value → AS → Prop} (lv : Lv c) (hA : AOk A fs (d + 1)) (hR : Dz σ (.ref R) (.list (rs.map fun r => .list (r.map .int)))) (hne : rs ≠ []) (hrn : ∀ r ∈ rs, r ≠ []) (hl : rs.flatten.length ≤ 1000) (hll : rs.length ≤ 1000)
    (h : ∀ t σ' pl, Ext [5, 6] σ σ' → PlanOk rs pl → Dz σ' (.ref t) (.tuple [.list (pl.map PE.data), .list (rs.flatten.map .int)]) → Q (.ref t) ⟨fs, σ', g⟩) :
    W c A (call (.ref 155) [.ref R]) Q E ⟨fs, σ, g⟩ := by
  refine W_call_G lv.K (ns := ["rounds", "plan", "flat", "k", "ahead", "start", "at", "x", "rest", "count", "others", "turn"]) (us := [.ref R]) (gs := [("list", .type "list"), ("range", .type "range"), ("len", .builtin "len"), ("min", .builtin "min")]) fn_plan rfl (by kernel_rfl) rfl (.cons (.rest (.rest (.rest (.rest (.rest (.rest (.rest (.rest (.rest (.rest (.rest .nil)))))))))))) (by simp [lv.list, lv.range, lv.len, lv.min]) hA (fun L env B P X hfr hh hL hA' hout hE hFx hUx => ?_)
  obtain ⟨vs, hR0, hvs⟩ := hR.list_inv
  have hvl : vs.length = rs.length := by simpa using hvs.len
  refine W_consG (fun _ _ => ?_)
  repeat walk_at "st"
  refine W_newList 5 (by simp) (fun pp h1 σ1 e1 => ?_)
  have X1 : Ext [] σ σ1 := by rw [e1]; exact Ext.upd_new h1
  have hR1 := X1 _ _ _ hR0 (by simp)
  have hvs1 := hvs.ext X1 (by simp)
  obtain ⟨r0, rt, hrs⟩ : ∃ r0 rt, rs = r0 :: rt := by
    cases rs with
    | nil => exact absurd rfl hne
    | cons a b => exact ⟨a, b, rfl⟩
  have h00 : rs[0]? = some r0 := by rw [hrs]; rfl
  obtain ⟨l0, hv0, hl0⟩ := hvs1.row h00
  have hr0 : r0.length ≤ 1000 := by rw [hrs] at hl; simp at hl; omega
  repeat walk_at "st"
  refine ⟨noGet_list hR1, W_item_list hR1 (by decide) hv0 (by omega) ?_⟩
  repeat walk_at "st"
  refine ⟨Kp.type, W_list_seq 5 ⟨0, .inl hl0⟩ (by simp; omega) (fun fl h2 σ2 e2 => ?_)⟩
  have X2 : Ext [] σ1 σ2 := by rw [e2]; exact Ext.upd_new h2
  have hR2 := X2 _ _ _ hR1 (by simp)
  have hvs2 := hvs1.ext X2 (by simp)
  have hp2 : σ2 pp = some (5, .list []) := X2 _ _ _ (by rw [e1]; exact upd_self) (by simp)
  have hf2 : σ2 fl = some (5, .list (I2 r0)) := by rw [e2]; exact upd_self
  have hpf : pp ≠ fl := fun z => by rw [← z, e1, upd_self] at h2; cases h2
  repeat walk_at "st"
  refine W_For ?_
  repeat walk_at "st"
  refine ⟨Kp.builtin, W_len_list hR2 (by omega) (fun t3 => ?_)⟩
  repeat walk_at "st"
  refine ⟨Kp.type, W_range2 (fun rg h3 σ3 e3 => ?_)⟩
  have X3 : Ext [] σ2 σ3 := by rw [e3]; exact Ext.upd_new h3
  refine W_iter_range (by rw [e3]; exact upd_self) (by decide) (by decide) (by omega) (by omega) (fun it h4 σ4 e4 => ?_)
  rw [hvl] at e4
  refine Wk_loopG (k := 0) (IterOf.range hh) [5, 6] (by simp) (by simp)
    (fun i vv σ => ∃ b1 b2 b3 b4 b5 b6 b7 b8 b9 pl, vv = [some (.ref R), some (.ref pp), some (.ref fl), b1, b2, b3, b4, b5, b6, b7, b8, b9] ∧ σ fl = some (5, .list (I2 (rs.take (i + 1)).flatten)) ∧ PvAt σ pp pl ∧ PlanOk (rs.take (i + 1)) pl ∧ pl.length ≤ ((rs.take (i + 1)).flatten).length)
    (fun i vv σ σ' ⟨b1, b2, b3, b4, b5, b6, b7, b8, b9, pl, q1, q2, q3, q4⟩ X => ⟨b1, b2, b3, b4, b5, b6, b7, b8, b9, pl, q1, X _ _ _ q2 (by simp), q3.ext X (by simp) (by simp), q4⟩)
    h4 e4 trivial ⟨_, _, _, _, _, _, _, _, _, [], rfl, ?_, ⟨[], X3 _ _ _ hp2 (by simp), .nil⟩, ?_, by simp⟩ ?_ ?_
  · rw [hrs]; simp; exact X3 _ _ _ hf2 (by simp)
  · rw [hrs]; exact .one
  · rintro i v vv σ5 u5 P5 E5 hP5 hE5 ⟨b1, b2, b3, b4, b5, b6, b7, b8, b9, pl, rfl, hfl, hpp, hpl, hpln⟩ hv eu hsr Y5
    obtain ⟨hv', hi⟩ := intsFrom_at hv
    subst hv'
    have hi : i + 1 < rs.length := by omega
    have X5 : Ext [5, 6] σ2 σ5 := X3.nil.trans Y5
    have hR5 := X5 _ _ _ hR2 (by simp)
    have hvs5 := hvs2.ext X5 (by simp)
    obtain ⟨la, hva, hla⟩ := hvs5.row (i := i) (r := rs[i]) (List.getElem?_eq_getElem (by omega))
    obtain ⟨lr, hvr, hlr⟩ := hvs5.row (i := i + 1) (r := rs[i + 1]) (List.getElem?_eq_getElem hi)
    have htk : rs.take (i + 1) = rs.take i ++ [rs[i]] := by rw [List.take_add_one, List.getElem?_eq_getElem (by omega)]; rfl
    have htk2 : rs.take (i + 1 + 1) = rs.take i ++ [rs[i]] ++ [rs[i + 1]] := by rw [List.take_add_one, List.getElem?_eq_getElem hi, htk]; rfl
    have hrni := hrn _ (List.getElem_mem (show i < rs.length by omega))
    have hfle : ((rs.take (i + 1 + 1)).flatten).length ≤ 1000 := by
      have h1 : rs.flatten = (rs.take (i + 1 + 1)).flatten ++ (rs.drop (i + 1 + 1)).flatten := by rw [← List.flatten_append, List.take_append_drop]
      rw [h1, List.length_append] at hl; omega
    have hfe : (rs.take (i + 1)).flatten = (rs.take i).flatten ++ rs[i] := by rw [htk, List.flatten_append]; simp only [List.flatten_cons, List.flatten_nil, List.append_nil]
    have hfe2 : (rs.take (i + 1 + 1)).flatten = (rs.take i).flatten ++ rs[i] ++ rs[i + 1] := by rw [htk2, List.flatten_append, List.flatten_append]; simp only [List.flatten_cons, List.flatten_nil, List.append_nil]
    have hil : (rs.take i).length = i := by simp; omega
    rw [hfe] at hfl hpln
    rw [hfe2] at hfle
    rw [htk] at hpl
    simp only [List.length_append] at hfle hpln
    have hra : rs[i].length ≠ 0 := fun z => hrni (List.length_eq_zero_iff.mp z)
    generalize hpre : (rs.take i).flatten = pre at *
    generalize rs[i] = ra at *
    generalize rs[i + 1] = rr at *
    repeat walk_at "st"
    rw [eu]
    repeat walk_at "st"
    refine ⟨noGet_list hR5, W_item_at hR5 (by omega) hva (by omega) ?_⟩
    repeat walk_at "st"
    refine ⟨Kp.builtin, W_len_list hfl (by simp; omega) (fun t6 => ?_)⟩
    repeat walk_at "st"
    refine ⟨Kp.builtin, W_len_list hla (by simp; omega) (fun t7 => ?_)⟩
    repeat walk_at "st"
    have hst : ((I2 (pre ++ ra)).length : Int) - ((ra.map AV.int).length : Int) = (pre.length : Int) := by simp only [I2, List.length_map, List.length_append]; omega
    rw [hst]
    refine W_For ?_
    repeat walk_at "st"
    refine ⟨noGet_list hR5, W_item_at hR5 (by omega) hvr (by omega) ?_⟩
    repeat walk_at "st"
    refine W_iter_list hlr (fun it6 h6 σ6 e6 => ?_)
    refine Wk_loopG (k := 0) (IterOf.list hh) [5, 6] (by simp) (by simp)
      (fun j vv σ => ∃ b5 b6 b7 b8 b9 es a, vv = [some (.ref R), some (.ref pp), some (.ref fl), some (.int (1 + i)), some (.ref la), some (.int pre.length), some (.int (a : Nat)), b5, b6, b7, b8, b9] ∧ σ fl = some (5, .list (I2 (pre ++ ra))) ∧ PvAt σ pp (pl ++ es) ∧ Seg pre ra (rr.take j) es a ∧ es.length = j ∧ a < ra.length)
      (fun i vv σ σ' ⟨b5, b6, b7, b8, b9, es, a, q1, q2, q3, q4⟩ X => ⟨b5, b6, b7, b8, b9, es, a, q1, X _ _ _ q2 (by simp), q3.ext X (by simp) (by simp), q4⟩)
      h6 e6 (by rw [e6, upd_ne (fun q => by rw [← q, hlr] at h6; cases h6)]; exact hlr) ⟨_, _, _, _, _, [], 0, rfl, hfl, by simpa using hpp, .nil, rfl, by omega⟩ ?_ ?_
    · rintro j v vv σ7 u7 P7 E7 hP7 hE7 ⟨b5, b6, b7, b8, b9, es, a, rfl, hfl7, hpp7, hseg, hesl, hal⟩ hv7 eu7 hsr7 Y7
      obtain ⟨n, hn, rfl⟩ := map_some_of ((List.getElem?_map ..).symm.trans hv7)
      have hla7 : σ7 la = some (0, .list (ra.map AV.int)) := Y7 _ _ _ hla (by simp)
      have htj : rr.take (j + 1) = rr.take j ++ [n] := by rw [List.take_add_one, hn]; rfl
      have hjr : j < rr.length := (List.getElem?_eq_some_iff.mp hn).1
      repeat walk_at "st"
      rw [eu7]
      repeat walk_at "st"
      refine W_floordiv (by decide) (by decide) (fun t8 => ?_)
      repeat walk_at "st"
      refine W_mod (by decide) (fun t9 => ?_)
      repeat walk_at "st"
      refine ⟨Kp.builtin, W_len_list hla7 (by simp; omega) (fun t10 => ?_)⟩
      repeat walk_at "st"
      refine ⟨Kp.builtin, W_min2 hh (fun t11 => ?_)⟩
      repeat walk_at "st"
      refine W_floordiv (by decide) (by decide) (fun t12 => ?_)
      repeat walk_at "st"
      refine W_mod (by decide) (fun t13 => ?_)
      repeat walk_at "st"
      refine W_floordiv (by decide) (by decide) (fun t14 => ?_)
      repeat walk_at "st"
      refine W_newList 6 (by simp) (fun ol h8 σ8 e8 => ?_)
      rw [Int.fmod_eq_emod_of_nonneg _ (by decide), Int.fmod_eq_emod_of_nonneg _ (by decide)]
      have hm3 := Int.emod_nonneg (n.fdiv 15) (show (3 : Int) ≠ 0 by decide)
      have hc4 := Int.emod_nonneg ((n.fdiv 15).fdiv 3) (show (4 : Int) ≠ 0 by decide)
      have hc4' := Int.emod_lt_of_pos ((n.fdiv 15).fdiv 3) (show (0 : Int) < 4 by decide)
      generalize (n.fdiv 15).fdiv 12 = rest
      generalize (n.fdiv 15).fdiv 3 % 4 = cI at *
      generalize n.fdiv 15 % 3 = mI at *
      obtain ⟨a', ha', haa, hal'⟩ : ∃ a' : Nat, min ((a : Int) + mI) (((ra.map AV.int).length : Int) - 1) = (a' : Int) ∧ a ≤ a' ∧ a' < ra.length := by
        refine ⟨(min ((a : Int) + mI) (((ra.map AV.int).length : Int) - 1)).toNat, ?_, ?_, ?_⟩ <;> (rw [List.length_map]; omega)
      rw [ha']
      have X8 : Ext [] σ7 σ8 := by rw [e8]; exact Ext.upd_new h8
      repeat walk_at "st"
      refine W_For ?_
      repeat walk_at "st"
      refine ⟨Kp.type, W_range1 (fun rg h9 σ9 e9 => ?_)⟩
      have X9 : Ext [] σ8 σ9 := by rw [e9]; exact Ext.upd_new h9
      refine W_iter_range (by rw [e9]; exact upd_self) (by decide) (by decide) (by omega) (by omega) (fun it10 h10 σ10 e10 => ?_)
      refine Wk_loopG (k := 0) (IterOf.range hh) [6] (by simp) (by simp)
        (fun q vv σ => ∃ b9 rest os, vv = [some (.ref R), some (.ref pp), some (.ref fl), some (.int (1 + i)), some (.ref la), some (.int pre.length), some (.int a'), some (.int n), some (.int rest), some (.int cI), some (.ref ol), b9] ∧ σ ol = some (6, .list (I2 os)) ∧ (∀ o ∈ os, o ∈ pre ++ ra.take (a' + 1)) ∧ os.length = q)
        (fun i vv σ σ' ⟨b9, rest, os, q1, q2, q3⟩ X => ⟨b9, rest, os, q1, X _ _ _ q2 (by simp), q3⟩)
        h10 e10 trivial ⟨_, rest, [], rfl, X9 _ _ _ (by rw [e8]; exact upd_self) (by simp), by simp, rfl⟩ ?_ ?_
      · rintro q v vv σ11 u11 P11 E11 hP11 hE11 ⟨b9, rest, os, rfl, hol, hos, hosl⟩ hv11 eu11 hsr11 Y11
        obtain ⟨rfl, hq⟩ := intsFrom_at hv11
        have hfl11 : σ11 fl = some (5, .list (I2 (pre ++ ra))) := Y11 _ _ _ (X9 _ _ _ (X8 _ _ _ hfl7 (by simp)) (by simp)) (by simp)
        have hmm : (pre.length : Int) + a' + 1 ≠ 0 := by omega
        repeat walk_at "st"
        intro pl2
        refine W_meth_list F.slot_list_append F.type_list_append hol ?_
        repeat walk_at "st"
        refine W_mod hmm (fun t15 => ?_)
        rw [Int.fmod_eq_emod_of_nonneg _ (by omega)]
        have hx0 := Int.emod_nonneg rest hmm
        have hx1 := Int.emod_lt_of_pos rest (show 0 < (pre.length : Int) + a' + 1 by omega)
        generalize rest % ((pre.length : Int) + a' + 1) = ix at *
        have hixl : ix.toNat < pre.length + (a' + 1) := by omega
        have hixf : ix.toNat < (pre ++ ra).length := by simp; omega
        have hitem : (I2 (pre ++ ra))[ix.toNat]? = some (.int (pre ++ ra)[ix.toNat]) := by
          show ((pre ++ ra).map AV.int)[ix.toNat]? = _
          rw [List.getElem?_map, List.getElem?_eq_getElem hixf]; rfl
        have hmem : (pre ++ ra)[ix.toNat] ∈ pre ++ ra.take (a' + 1) := by
          have : pre ++ ra.take (a' + 1) = (pre ++ ra).take (pre.length + (a' + 1)) := by rw [List.take_append, List.take_of_length_le (Nat.le_add_right ..), Nat.add_sub_cancel_left]
          rw [this, List.mem_take_iff_getElem]
          exact ⟨ix.toNat, by omega, rfl⟩
        refine ⟨noGet_list hfl11, W_item_at hfl11 (i := ix.toNat) (by omega) hitem (by simp only [I2, List.length_map, List.length_append]; omega) ?_⟩
        repeat walk_at "st"
        refine ⟨Kp.builtin, W_append hol (by simp only [I2, List.length_map]; omega) (fun σ12 e12 => ?_)⟩
        repeat walk_at "st"
        refine W_floordiv hmm (log2_small (by omega)) (fun t16 => ?_)
        repeat walk_at "st"
        refine hP11.nx _ σ12 (by rw [e12]; exact Ext.upd_own hol (by simp)) ⟨_, _, os ++ [(pre ++ ra)[ix.toNat]], rfl, by rw [e12, upd_self]; simp [I2], fun o ho => ?_, by simp [hosl]⟩
        rcases List.mem_append.mp ho with ho | ho
        · exact hos o ho
        · rw [List.mem_singleton.mp ho]; exact hmem
      · rintro vv σ11 ⟨b9', rest', os, rfl, hol, hos, hosl⟩ Y11
        have Z11 : Ext [6] σ7 σ11 := X8.nil.trans (X9.nil.trans Y11)
        refine Nx.nx (by assumption) _ ?_
        repeat walk_at "st"
        intro pl2
        obtain ⟨pvs, hpv1, hpv2⟩ := hpp7.ext Z11 (by simp) (by simp)
        refine W_meth_list F.slot_list_append F.type_list_append hpv1 ?_
        repeat walk_at "st"
        have hb : ra[a']? = some ra[a'] := List.getElem?_eq_getElem hal'
        have hla11 := Z11 _ _ _ hla7 (by simp)
        refine ⟨noGet_list hla11, W_item_at hla11 (i := a') rfl (v := .int ra[a']) (by rw [List.getElem?_map, hb]; rfl) (by simp; omega) ?_⟩
        repeat walk_at "st"
        refine W_recol (fk 6) ?_
        have hol' := recolk_at hol
        have hpv1' : recol (fk 6) σ11 pp = some (5, .list pvs) := recolk_ne hpv1 (by decide)
        have Z12 : Ext [6] σ7 (recol (fk 6) σ11) := Z11.trans (Ext.recolk (by simp))
        have hpv2' := hpv2.ext (Ext.recolk (σ := σ11) (C := [6]) (k := 6) (by simp)) (by simp)
        generalize recol (fk 6) σ11 = σ12 at *
        refine W_newList 0 (by simp) (fun en h13 σ13 e13 => ?_)
        have X13 : Ext [] σ12 σ13 := by rw [e13]; exact Ext.upd_new h13
        repeat walk_at "st"
        have hpl13 := X13 _ _ _ hpv1' (by simp)
        have hpvl : pvs.length = pl.length + es.length := by have := hpv2.len; simpa using this
        refine ⟨Kp.builtin, W_append hpl13 (by omega) (fun σ14 e14 => ?_)⟩
        repeat walk_at "st"
        have X14 : Ext [5] σ13 σ14 := by rw [e14]; exact Ext.upd_own hpl13 (by simp)
        refine hP7.nx _ σ14 ((Z12.mono (by simp)).trans (X13.nil.trans (X14.mono (by simp)))) ⟨_, _, _, _, _, es ++ [⟨n, ra[a'], os⟩], a', rfl, ?_, ⟨_, by rw [e14]; exact upd_self, ?_⟩, ?_, by simp [hesl], hal'⟩
        · rw [e14, upd_ne (Ne.symm hpf)]
          exact X13 _ _ _ (Z12 _ _ _ hfl7 (by simp)) (by simp)
        · rw [← List.append_assoc, List.map_append]
          refine DzL.append ((hpv2'.ext X13 (by simp)).ext X14 (by simp)) (.cons ?_ .nil)
          have hen : σ14 en = some (0, .list [.int n, .int ra[a'], .ref ol]) := X14 _ _ _ (by rw [e13]; exact upd_self) (by simp)
          exact .list hen (.cons .int (.cons .int (.cons (.list (X14 _ _ _ (X13 _ _ _ hol' (by simp)) (by simp)) .ints) .nil)))
        · rw [htj]; exact .snoc hseg haa hb hos (by rw [hosl]; simp only [intsFrom, List.length_map, List.length_range]; omega)
    · rintro vv σ7 ⟨b5, b6, b7, b8, b9, es, a, rfl, hfl7, hpp7, hseg, hesl, hal⟩ Y7
      rw [List.length_map, List.take_length] at hseg
      refine Nx.nx (by assumption) _ ?_
      repeat walk_at "st"
      intro pl2
      refine W_meth_list F.slot_list_extend F.type_list_extend hfl7 ?_
      repeat walk_at "st"
      have hR7 := Y7 _ _ _ hR5 (by simp)
      have hlr7 := Y7 _ _ _ hlr (by simp)
      refine ⟨noGet_list hR7, W_item_at hR7 (by omega) hvr (by omega) ?_⟩
      repeat walk_at "st"
      refine ⟨Kp.builtin, W_extend hfl7 hlr7 (by simp; omega) (fun σ8 e8 => ?_)⟩
      repeat walk_at "st"
      have X8 : Ext [5] σ7 σ8 := by rw [e8]; exact Ext.upd_own hfl7 (by simp)
      obtain ⟨pvs, hpv1, hpv2⟩ := hpp7
      refine hP5.nx _ σ8 (Y7.trans (X8.mono (by simp))) ⟨_, _, _, _, _, _, _, _, _, pl ++ es, rfl, ?_, ⟨pvs, by rw [e8, upd_ne hpf]; exact hpv1, hpv2.ext X8 (by simp)⟩, ?_, ?_⟩
      · rw [hfe2, e8, upd_self]; simp [I2]
      · rw [htk2]; exact .snoc hpl (hpre ▸ hseg)
      · rw [hfe2]
        have : es.length = rr.length := by rw [hesl, List.length_map]
        simp only [List.length_append]; omega
  · rintro vv σ5 ⟨b1, b2, b3, b4, b5, b6, b7, b8, b9, pl, rfl, hfl, hpp, hpl, hpln⟩ Y5
    refine Nx.nx (by assumption) _ ?_
    repeat walk_at "st"
    have hlen : (intsFrom 1 ((rs.length : Int) - 1).toNat).length + 1 = rs.length := by
      have : rs.length ≠ 0 := fun z => hne (List.length_eq_zero_iff.mp z)
      simp only [intsFrom, List.length_map, List.length_range]; omega
    rw [hlen, List.take_length] at hfl hpl
    obtain ⟨pvs, hpv1, hpv2⟩ := hpp
    refine W_recol (fk 5) ?_
    have hX : Ext [5, 6] σ (recol (fk 5) σ5) := X1.nil.trans (X2.nil.trans (X3.nil.trans (Y5.trans (Ext.recolk (by simp)))))
    have hp' := recolk_at hpv1
    have hf' := recolk_at hfl
    have hpv' := hpv2.ext (Ext.recolk (σ := σ5) (C := [5]) (k := 5) (by simp)) (by simp)
    generalize recol (fk 5) σ5 = σ6 at *
    refine W_newTuple 0 (by simp) (fun tp h7 σ7 e7 => ?_)
    have X7 : Ext [] σ6 σ7 := by rw [e7]; exact Ext.upd_new h7
    repeat walk_at "st"
    exact h tp σ7 pl (hX.trans X7.nil) hpl (.tuple (by rw [e7]; exact upd_self) (.cons (.list (X7 _ _ _ hp' (by simp)) (hpv'.ext X7 (by simp))) (.cons (.list (X7 _ _ _ hf' (by simp)) .ints) .nil)))
end
end Mine

namespace Mine
open PySem PySem.W PyProof.Rows PySem.Calls

theorem Dz.plain {σ : Addr → Option (Nat × Cell)} {v : AV} {d : PyData} (h : Dz σ v d) : v.plain = true := by
  unfold Dz at h
  cases h <;> rfl
theorem DzL.reverse {σ : Addr → Option (Nat × Cell)} {vs : List AV} {ds : List PyData} (h : DzL σ vs ds) : DzL σ vs.reverse ds.reverse := by
  induction ds generalizing vs with
  | nil => unfold DzL at h; cases h; exact .nil
  | cons d ds ih =>
    unfold DzL at h
    cases h with
    | cons a b => rw [List.reverse_cons, List.reverse_cons]; exact (ih b).append (.cons a .nil)
theorem fn_back {w : World} : FnOkC (KK w) 160 [("rows", true)] ["range", "len"] := ⟨rfl, rfl, rfl, rfl, rfl, rfl, rfl, rfl, rfl, rfl, by decide +kernel⟩

section
variable {c : Cx} {A : Around} {E : Value → AS → Prop} {fs : List Frm} {σ : Addr → Option (Nat × Cell)} {g : Array GenState} {d : Nat}
set_option maxHeartbeats 1000000

theorem back_spec {R : Addr} {ds : List PyData} {Q : Value → AS → Prop} (lv : Lv c) (hA : AOk A fs (d + 1)) (hR : Dz σ (.ref R) (.list ds)) (hz : ds.length ≤ 100000)
    (h : ∀ l σ', Ext [] σ σ' → Dz σ' (.ref l) (.list ds.reverse) → Q (.ref l) ⟨fs, σ', g⟩) :
    W c A (call (.ref 160) [.ref R]) Q E ⟨fs, σ, g⟩ := by
  refine W_call_GC lv.K (nk := [("rows", true)]) (ps := ["rows"]) (rs := []) (ns := ["rows"]) (us := [.ref R]) (gs := [("range", .type "range"), ("len", .builtin "len")]) fn_back rfl rfl (by kernel_rfl) rfl (.cons .nil) (by simp [lv.range, lv.len]) hA (fun L cl env B P X hgl hbl hfr hh hL hA' hout hE hC hFx hUx => ?_)
  obtain ⟨vs, hR0, hvs⟩ := hR.list_inv
  have hvl : vs.length = ds.length := hvs.len
  refine W_consG (fun _ _ => ?_)
  refine W_Return_some ?_
  refine W_ListComp (x := "k") (gls := ["len"]) (caps := ["rows"]) ⟨rfl, rfl, by decide +kernel⟩ hC ?_
  repeat walk_at "st"
  refine ⟨Kp.builtin, W_len_list hR0 (by omega) (fun t1 => ?_)⟩
  repeat walk_at "st"
  refine ⟨Kp.type, W_range1 (fun rg h1 σ1 e1 => ?_)⟩
  have X1 : Ext [] σ σ1 := by rw [e1]; exact Ext.upd_new h1
  refine W_iter_range (by rw [e1]; exact upd_self) (by decide) (by decide) (by omega) (by omega) (fun it h2 σ2 e2 => ?_)
  rw [show ((vs.length : Int) - 0).toNat = ds.length by omega] at e2
  refine CompK_loop (k := 0) (gs := [("len", .builtin "len")]) ⟨rfl, rfl, by decide +kernel⟩ hC rfl (by simp [lv.len]) hgl hbl (IterOf.range hh) IterSelf.range [] (by simp) (by simp) (by decide) 0
    (fun i ys σ => ys = vs.reverse.take i ∧ σ R = some (0, .list vs) ∧ DzL σ vs ds)
    (fun i ys σ σ' ⟨q1, q2, q3⟩ e => ⟨q1, e _ _ _ q2 (by simp), q3.ext e (by simp)⟩) h2 e2 trivial ⟨rfl, X1 _ _ _ hR0 (by simp), hvs.ext X1 (by simp)⟩ (fun i ys σ q => ?_) ?_ ?_
  · rw [q.1, List.length_take, List.length_reverse]; omega
  · rintro C cenv i v σ3 ys hCE hCC hg hb ⟨rfl, hR3, hvs3⟩ hv hsrc Y3
    obtain ⟨rfl, hi⟩ := intsFrom_at hv
    have cap : ∀ {pos : Pos} {Q : Value → AS → Prop} {E : Value → AS → Prop}, Q (.ref R) ⟨⟨C, [], ["k"], [some (.int (0 + i))]⟩ :: ⟨L, cl, ["rows"], [some (.ref R)]⟩ :: fs, σ3, g⟩ → W c B (eval (.Name "rows" pos) cenv) Q E ⟨⟨C, [], ["k"], [some (.int (0 + i))]⟩ :: ⟨L, cl, ["rows"], [some (.ref R)]⟩ :: fs, σ3, g⟩ := fun q =>
      W_NameCap hCC (List.mem_cons_self ..) (List.mem_cons_of_mem _ (List.mem_cons_self ..)) .here hE.nd q
    refine W_tests_nil (ite_t rfl ?_)
    refine W_Subscript (cap ?_)
    repeat walk_at "st"
    refine cap ?_
    repeat walk_at "st"
    refine ⟨Kp.builtin, W_len_list hR3 (by omega) (fun t4 => ?_)⟩
    repeat walk_at "st"
    have hi' : vs.length - 1 - i < vs.length := by omega
    have hgt : vs[vs.length - 1 - i]? = some vs[vs.length - 1 - i] := List.getElem?_eq_getElem hi'
    obtain ⟨v', hv', hd'⟩ := hvs3.at_ (i := vs.length - 1 - i) (d := ds[vs.length - 1 - i]) (List.getElem?_eq_getElem (by omega))
    rw [hgt] at hv'
    refine ⟨noGet_list hR3, W_item_at hR3 (i := vs.length - 1 - i) (by omega) hgt (by omega) (All.plain ?_ fun u e => ⟨σ3, rfl, Ext.refl, ?_, hR3, hvs3⟩)⟩
    · cases hv'; exact hd'.plain
    · rw [e, List.take_add_one, List.getElem?_reverse (by omega), hgt]; rfl
  · rintro D C vx ys σ3 ⟨rfl, hR3, hvs3⟩ Y3 hD hD3
    rw [show (intsFrom 0 ds.length).length = vs.reverse.length by simp [intsFrom, hvl], List.take_length] at hD3
    repeat walk_at "st"
    exact h D σ3 (X1.trans Y3) (.list hD3 hvs3.reverse)
end
end Mine

namespace Mine
open PySem PySem.W PyProof.Rows PySem.Calls

theorem fn_hold {w : World} : FnOk (KK w) 167 ["sorter", "held", "flat", "turn"] ["j", "x", "rest"] ["range", "len"] := ⟨rfl, rfl, rfl, rfl, rfl, rfl, rfl, rfl, rfl, by decide +kernel⟩
theorem keep_add {w : World} : keepIn (KK w) (.ref 87) = true := by rfl

noncomputable def SS.nil : SS := ⟨[], fun _ => 0, fun _ => [], none, 0, 0⟩
noncomputable abbrev Adds := List (Int × List Int)
noncomputable def SS.adI (st : SS) (l : Adds) : SS := l.foldl (fun s p => s.add (.int p.1) (I2 p.2)) st
noncomputable def wt (l : Adds) : Nat := (l.map fun p => p.2.length + 1).sum
theorem wt_append {l m : Adds} : wt (l ++ m) = wt l + wt m := by simp [wt]
theorem adI_append {st : SS} {l m : Adds} : st.adI (l ++ m) = (st.adI l).adI m := by unfold SS.adI; rw [List.foldl_append]
theorem succs_ready {k : AV} : ∀ {ps : List AV} {st : SS}, (ps.foldl (fun s p => s.succ k p) st).ready = st.ready
  | [], _ => rfl
  | p :: ps, st => succs_ready (ps := ps) (st := st.succ k p)
theorem add_ready {st : SS} {k : AV} {ps : List AV} : (st.add k ps).ready = st.ready := succs_ready
theorem adI_ready : ∀ {l : Adds} {st : SS}, (st.adI l).ready = st.ready
  | [], _ => rfl
  | p :: l, st => (adI_ready (l := l) (st := st.add (.int p.1) (I2 p.2))).trans add_ready
theorem adI_fit : ∀ {l : Adds} {st : SS} {N : Nat}, st.Fit N → (st.adI l).Fit (N + wt l)
  | [], _, _, h => h
  | p :: l, st, N, h => by
    have := adI_fit (l := l) (h.add (k := .int p.1) (ps := I2 p.2))
    refine this.mono ?_
    simp [wt]; omega
theorem wt_le2 : ∀ {l : Adds}, (∀ p ∈ l, p.2.length ≤ 1) → wt l ≤ 2 * l.length
  | [], _ => Nat.le_refl _
  | p :: l, h => by
    have := wt_le2 (l := l) fun q hq => h q (List.mem_cons_of_mem _ hq)
    have := h p (List.mem_cons_self ..)
    simp only [wt, List.map_cons, List.sum_cons, List.length_cons] at *; omega
theorem nil_fit : SS.nil.Fit 0 := ⟨Nat.le_refl _, fun _ => Nat.le_refl _⟩

noncomputable def SO (σ : Addr → Option (Nat × Cell)) (x : Addr) (st : SS) : Prop := ∃ dx nd rv as ep, SAt σ x st dx nd rv as ep
theorem SO.ext {σ σ' : Addr → Option (Nat × Cell)} {x : Addr} {st : SS} {C : List Nat} (h : SO σ x st) (e : Ext C σ σ') (h1 : 1 ∉ C) (h2 : 2 ∉ C) : SO σ' x st := by
  obtain ⟨dx, nd, rv, as, ep, S⟩ := h
  exact ⟨dx, nd, rv, as, ep, S.ext e h1 h2⟩

section
variable {c : Cx} {A : Around} {E : Value → AS → Prop} {fs : List Frm} {σ : Addr → Option (Nat × Cell)} {g : Array GenState} {d : Nat} {x : Addr}
theorem W_adI {u : Value} {us : List Value} {n : Int} {ps : List Int} {l : Adds} {Q : Value → AS → Prop} (lv : Lv c) (hA : AOk A fs (d + 4)) (S : SO σ x (SS.nil.adI l)) (hw : wt l + ps.length + 1 ≤ 100000) (hu : er u = .int n) (hus : us.map er = I2 ps)
    (h : ∀ σ', Ext [1, 2] σ σ' → SO σ' x (SS.nil.adI (l ++ [(n, ps)])) → Q .none ⟨fs, σ', g⟩) : W c A (call (.ref 87) (.ref x :: u :: us)) Q E ⟨fs, σ, g⟩ := by
  obtain ⟨dx, nd, rv, as, ep, S⟩ := S
  have F := adI_fit (l := l) nil_fit
  refine W_call (add_spec lv.toLw (N := wt l) hA S adI_ready (by simpa using F) (by simpa using hw) hu rfl hus I2_key (fun σ' as' ep' X S' => h σ' X ?_))
  rw [adI_append]; exact ⟨_, _, _, _, _, S'⟩
theorem W_adMeth {pl : Sem Bool} {st : SS} {Q : Value × List Value → AS → Prop} (lv : Lv c) (S : SO σ x st) (h : Q (.ref 87, [.ref x]) ⟨fs, σ, g⟩) : W c A (getMethod (.ref x) "add" pl) Q E ⟨fs, σ, g⟩ := by
  obtain ⟨dx, nd, rv, as, ep, S⟩ := S
  exact W_getMethod S.x S.dx (lv.K ▸ bo_add.get) (lv.K ▸ bo_add.find) (lv.K ▸ bo_add.fn) (no_attr (by decide +kernel)) h
theorem Kp.add {a : AS} (lv : Lv c) : Kp c (.ref 87) a := Kp.inK (lv.K ▸ keep_add)

noncomputable def HoldTail (held flat : List Int) (turn : Nat) (tl : Adds) : Prop := ∀ p ∈ tl, ∃ n q, p = (n, [q]) ∧ n ∈ held ∧ (q ∈ held ∨ (q ∈ flat ∧ n ∈ held.take (turn + 1)))
noncomputable def holdHead (held : List Int) (turn : Nat) : Adds := (held.headD 0, []) :: (held.tail.zip held).map (fun p => (p.1, [p.2])) ++ [(held.getD turn 0, [held.getLastD 0]), (held.headD 0, [held.getLastD 0])]

set_option maxHeartbeats 1000000

theorem hold_spec {hd fl : Addr} {tn : Nat} {t : Tok} {held flat : List Int} {l0 : Adds} {Q : Value → AS → Prop} (lv : Lv c) (hA : AOk A fs (d + 5)) (S : SO σ x (SS.nil.adI l0)) (hw : wt l0 ≤ 1000) (hhd : σ hd = some (0, .list (I2 held))) (hfl : σ fl = some (0, .list (I2 flat)))
    (htn : tn < held.length) (hfn : flat ≠ []) (hlh : held.length ≤ 1000) (hlf : flat.length ≤ 1000)
    (h : ∀ σ' tl, Ext [1, 2] σ σ' → HoldTail held flat tn tl → wt tl ≤ 4000 → SO σ' x (SS.nil.adI (l0 ++ holdHead held tn ++ tl)) → Q .none ⟨fs, σ', g⟩) :
    W c A (call (.ref 167) [.ref x, .ref hd, .ref fl, .int tn t]) Q E ⟨fs, σ, g⟩ := by
  refine W_call_G lv.K (ns := ["sorter", "held", "flat", "turn", "j", "x", "rest"]) (us := [.ref x, .ref hd, .ref fl, .int tn]) (gs := [("range", .type "range"), ("len", .builtin "len")]) fn_hold rfl (by kernel_rfl) rfl (.cons (.cons (.cons (.cons (.rest (.rest (.rest .nil))))))) (by simp [lv.range, lv.len]) hA (fun L env B P X hfr hh hL hA' hout hE hFx hUx => ?_)
  obtain ⟨h0, ht, hhe⟩ : ∃ h0 ht, held = h0 :: ht := by
    cases held with
    | nil => simp at htn
    | cons a b => exact ⟨a, b, rfl⟩
  have hat : ∀ {j : Nat} (hj : j < held.length), (I2 held)[j]? = some (.int held[j]) := fun hj => by
    show (held.map AV.int)[_]? = _
    rw [List.getElem?_map, List.getElem?_eq_getElem hj]; rfl
  have hI2l : (I2 held).length ≤ 1000000 := by simp; omega
  refine W_consG (fun _ _ => ?_)
  repeat walk_at "st"
  intro pl
  refine W_adMeth lv S ?_
  repeat walk_at "st"
  refine ⟨noGet_list hhd, W_item_at hhd (i := 0) rfl (hat (by omega)) hI2l ?_⟩
  repeat walk_at "st"
  refine ⟨Kp.add lv, W_adI lv (ps := []) hA' S (by simp; omega) rfl rfl (fun σ1 X1 S1 => ?_)⟩
  repeat walk_at "st"
  have hhd1 := X1 _ _ _ hhd (by simp)
  have hfl1 := X1 _ _ _ hfl (by simp)
  refine W_cutN (fun a' => ∃ b1 σ', a' = ⟨⟨L, [], ["sorter", "held", "flat", "turn", "j", "x", "rest"], [some (.ref x), some (.ref hd), some (.ref fl), some (.int tn), b1, none, none]⟩ :: fs, σ', g⟩ ∧ Ext [1, 2] σ1 σ' ∧ SO σ' x (SS.nil.adI (l0 ++ (h0, []) :: (held.tail.zip held).map (fun p => (p.1, [p.2]))))) ?_ ?_
  · intro Pc hPc
    generalize hch : (held.tail.zip held).map (fun p => (p.1, [p.2])) = ch at *
    have hcl : ch.length + 1 = held.length := by rw [← hch, hhe]; simp
    have hc1 : ∀ p ∈ ch, p.2.length ≤ 1 := fun p hp => by
      rw [← hch] at hp
      obtain ⟨q, _, rfl⟩ := List.mem_map.mp hp
      exact Nat.le_refl _
    have hcat : ∀ {i : Nat} (hi : i + 1 < held.length), ch[i]? = some (held[i + 1], [held[i]'(Nat.lt_of_succ_lt hi)]) := fun {i} hi => by
      have hz : (held.tail.zip held)[i]? = some (held[i + 1], held[i]'(Nat.lt_of_succ_lt hi)) := by
        rw [List.getElem?_zip_eq_some]
        exact ⟨by rw [List.getElem?_tail, List.getElem?_eq_getElem hi], List.getElem?_eq_getElem (Nat.lt_of_succ_lt hi)⟩
      rw [← hch, List.getElem?_map, hz]; rfl
    refine W_For ?_
    repeat walk_at "st"
    refine ⟨Kp.builtin, W_len_list hhd1 hI2l (fun t2 => ?_)⟩
    repeat walk_at "st"
    refine ⟨Kp.type, W_range2 (fun rg h3 σ3 e3 => ?_)⟩
    have X3 : Ext [] σ1 σ3 := by rw [e3]; exact Ext.upd_new h3
    have hI2e : (I2 held).length = held.length := by simp
    refine W_iter_range (by rw [e3]; exact upd_self) (by decide) (by decide) (by omega) (by omega) (fun it h4 σ4 e4 => ?_)
    refine Wk_loopG (k := 0) (IterOf.range hh) [1, 2] (by simp) (by simp)
      (fun i vv σ => ∃ b1, vv = [some (.ref x), some (.ref hd), some (.ref fl), some (.int tn), b1, none, none] ∧ SO σ x (SS.nil.adI (l0 ++ (h0, []) :: ch.take i)))
      (fun i vv σ σ' ⟨b1, q1, q2⟩ X => ⟨b1, q1, q2.ext X (by simp) (by simp)⟩)
      h4 e4 trivial ⟨_, rfl, ?_⟩ ?_ ?_
    · have := S1.ext X3 (by simp) (by simp)
      simp only [hhe, List.getElem_cons_zero] at this
      exact this
    · rintro i v vv σ5 u5 P5 E5 hP5 hE5 ⟨b1, rfl, S5⟩ hv eu hsr Y5
      obtain ⟨rfl, hi⟩ := intsFrom_at hv
      have hi1 : i + 1 < held.length := by omega
      have hhd5 := Y5 _ _ _ (X3 _ _ _ hhd1 (by simp)) (by simp)
      repeat walk_at "st"
      rw [eu]
      intro pl2
      refine W_adMeth lv S5 ?_
      repeat walk_at "st"
      refine ⟨noGet_list hhd5, W_item_at hhd5 (i := i + 1) (by omega) (hat hi1) hI2l ?_⟩
      repeat walk_at "st"
      refine ⟨noGet_list hhd5, W_item_at hhd5 (i := i) (by omega) (hat (by omega)) hI2l ?_⟩
      repeat walk_at "st"
      have hwt : wt (l0 ++ (h0, []) :: ch.take i) ≤ 4000 := by
        have h1 := wt_le2 (l := ch.take i) fun p hp => hc1 p (List.mem_of_mem_take hp)
        have h2 : (ch.take i).length ≤ ch.length := by rw [List.length_take]; omega
        have h3 : wt ((h0, []) :: ch.take i) = 1 + wt (ch.take i) := by simp [wt]
        rw [wt_append, h3]; omega
      refine ⟨Kp.add lv, W_adI lv (ps := [held[i]]) hA'.vs S5 (by simp; omega) rfl rfl (fun σ6 X6 S6 => ?_)⟩
      repeat walk_at "st"
      refine hP5.nx _ σ6 X6 ⟨_, rfl, ?_⟩
      rw [List.take_add_one, hcat hi1]
      simpa using S6
    · rintro vv σ5 ⟨b1, rfl, S5⟩ Y5
      refine hPc _ ⟨b1, σ5, rfl, X3.nil.trans Y5, ?_⟩
      rw [show (intsFrom 1 (((I2 held).length : Int) - 1).toNat).length = ch.length by simp only [intsFrom, List.length_map, List.length_range]; omega, List.take_length] at S5
      exact S5
  · rintro a' ⟨b1, σ2, rfl, X2, S2⟩
    have hhd2 := X2 _ _ _ hhd1 (by simp)
    have hfl2 := X2 _ _ _ hfl1 (by simp)
    obtain ⟨hi, hlst, hhe2⟩ : ∃ hi hl, held = hi ++ [hl] := by
      rcases List.eq_nil_or_concat held with z | ⟨as', al, z⟩
      · rw [z] at hhe; cases hhe
      · exact ⟨as', al, by rw [z]; simp⟩
    have hI2s : I2 held = I2 hi ++ [.int hlst] := by rw [hhe2]; simp [I2]
    have hil : (I2 hi).length + 1 ≤ 1000000 := by have := congrArg List.length hhe2; simp at this ⊢; omega
    have hlD : held.getLastD 0 = hlst := by rw [hhe2, List.getLastD_concat]
    have hwh : wt (l0 ++ (h0, []) :: (held.tail.zip held).map (fun p => (p.1, [p.2]))) ≤ 4000 := by
      have h1 := wt_le2 (l := (held.tail.zip held).map (fun p => (p.1, [p.2]))) fun p hp => by
        obtain ⟨q, _, rfl⟩ := List.mem_map.mp hp
        exact Nat.le_refl _
      have h2 : ((held.tail.zip held).map (fun p => (p.1, [p.2]))).length ≤ 1000 := by simp; omega
      have h3 : ∀ l, wt ((h0, []) :: l) = 1 + wt l := fun l => by simp [wt]
      rw [wt_append, h3]; omega
    repeat walk_at "st"
    intro pl2
    refine W_adMeth lv S2 ?_
    repeat walk_at "st"
    refine ⟨noGet_list hhd2, W_item_at hhd2 (i := tn) rfl (hat htn) hI2l ?_⟩
    repeat walk_at "st"
    rw [hI2s] at hhd2
    refine ⟨noGet_list hhd2, W_last_list hhd2 hil ?_⟩
    repeat walk_at "st"
    refine ⟨Kp.add lv, W_adI lv (ps := [hlst]) hA'.vs S2 (by simp; omega) rfl rfl (fun σ3 X3 S3 => ?_)⟩
    repeat walk_at "st"
    have hhd3 := X3 _ _ _ hhd2 (by simp)
    rw [← hI2s] at hhd3
    intro pl3
    refine W_adMeth lv S3 ?_
    repeat walk_at "st"
    refine ⟨noGet_list hhd3, W_item_at hhd3 (i := 0) rfl (hat (by omega)) hI2l ?_⟩
    repeat walk_at "st"
    rw [hI2s] at hhd3
    refine ⟨noGet_list hhd3, W_last_list hhd3 hil ?_⟩
    repeat walk_at "st"
    refine ⟨Kp.add lv, W_adI lv (ps := [hlst]) hA'.vs S3 (by rw [wt_append]; simp [wt] at hwh ⊢; omega) rfl rfl (fun σ4 X4 S4 => ?_)⟩
    repeat walk_at "st"
    have hhd4 := X4 _ _ _ hhd3 (by simp)
    rw [← hI2s] at hhd4
    have hfl4 := X4 _ _ _ (X3 _ _ _ hfl2 (by simp)) (by simp)
    have hS4 : SO σ4 x (SS.nil.adI (l0 ++ holdHead held tn)) := by
      have : l0 ++ holdHead held tn = l0 ++ (h0, []) :: (held.tail.zip held).map (fun p => (p.1, [p.2])) ++ [(held[tn], [hlst])] ++ [(held[0], [hlst])] := by
        unfold holdHead
        rw [hlD, List.getD_eq_getElem?_getD, List.getElem?_eq_getElem htn]
        simp only [hhe, List.headD_cons, List.getElem_cons_zero, Option.getD_some]
        simp
      rw [this]; exact S4
    have hwd : wt (l0 ++ holdHead held tn) ≤ 5000 := by
      have h3 : ∀ l, wt ((h0, []) :: l) = 1 + wt l := fun l => by simp [wt]
      have h4 : wt (holdHead held tn) = wt ((h0, []) :: (held.tail.zip held).map (fun p => (p.1, [p.2]))) + 4 := by
        unfold holdHead; rw [wt_append]; simp [wt]
      rw [wt_append] at hwh ⊢; omega
    clear S4 S3 S2 S1 hwh
    refine W_For ?_
    repeat walk_at "st"
    refine W_iter_list hhd4 (fun it h5 σ5 e5 => ?_)
    refine Wk_loopG (k := 0) (IterOf.list hh) [1, 2] (by simp) (by simp)
      (fun i vv σ => ∃ b1 b2 b3 tl, vv = [some (.ref x), some (.ref hd), some (.ref fl), some (.int tn), b1, b2, b3] ∧ SO σ x (SS.nil.adI (l0 ++ holdHead held tn ++ tl)) ∧ HoldTail held flat tn tl ∧ tl.length = 2 * i)
      (fun i vv σ σ' ⟨b1, b2, b3, tl, q1, q2, q3⟩ X => ⟨b1, b2, b3, tl, q1, q2.ext X (by simp) (by simp), q3⟩)
      h5 e5 (by rw [e5, upd_ne (fun q => by rw [← q, hhd4] at h5; cases h5)]; exact hhd4) ⟨_, _, _, [], rfl, by simpa using hS4, (fun p hp => by cases hp), rfl⟩ ?_ ?_
    · rintro i v vv σ6 u6 P6 E6 hP6 hE6 ⟨b1, b2, b3, tl, rfl, S6, htl, htll⟩ hv eu hsr Y6
      obtain ⟨n, hn, rfl⟩ := map_some_of ((List.getElem?_map ..).symm.trans hv)
      have hil2 : i < held.length := (List.getElem?_eq_some_iff.mp hn).1
      have hnm : n ∈ held := List.mem_of_getElem? hn
      have hhd6 := Y6 _ _ _ hhd4 (by simp)
      have hfl6 := Y6 _ _ _ hfl4 (by simp)
      have hI2e : (I2 held).length = held.length := by simp
      have hF2e : (I2 flat).length = flat.length := by simp
      have hfl0 : flat.length ≠ 0 := fun z => hfn (List.length_eq_zero_iff.mp z)
      have hhn : ((I2 held).length : Int) ≠ 0 := by omega
      have tl1 : ∀ p ∈ tl, p.2.length ≤ 1 := fun p hp => by obtain ⟨_, _, rfl, _⟩ := htl p hp; exact Nat.le_refl _
      have hwt := wt_le2 tl1
      have fat : ∀ {j : Nat} (hj : j < flat.length), (I2 flat)[j]? = some (.int flat[j]) := fun hj => by
        show (flat.map AV.int)[_]? = _
        rw [List.getElem?_map, List.getElem?_eq_getElem hj]; rfl
      repeat walk_at "st"
      rw [eu]
      repeat walk_at "st"
      refine W_floordiv (by decide) (by decide) (fun t7 => ?_)
      repeat walk_at "st"
      intro pl4
      refine W_adMeth lv S6 ?_
      repeat walk_at "st"
      refine ⟨Kp.builtin, W_len_list hhd6 hI2l (fun t8 => ?_)⟩
      repeat walk_at "st"
      refine W_mod hhn (fun t9 => ?_)
      rw [Int.fmod_eq_emod_of_nonneg _ (by omega)]
      have hx0 := Int.emod_nonneg (n.fdiv 5) hhn
      have hx1 := Int.emod_lt_of_pos (n.fdiv 5) (show 0 < ((I2 held).length : Int) by omega)
      generalize n.fdiv 5 = rest at *
      generalize rest % ((I2 held).length : Int) = ix at *
      refine ⟨noGet_list hhd6, W_item_at hhd6 (i := ix.toNat) (by omega) (hat (by omega)) hI2l ?_⟩
      repeat walk_at "st"
      refine ⟨Kp.add lv, W_adI lv (ps := [n]) hA'.vs S6 (by rw [wt_append]; simp; omega) rfl rfl (fun σ7 X7 S7 => ?_)⟩
      repeat walk_at "st"
      have hhd7 := X7 _ _ _ hhd6 (by simp)
      have hfl7 := X7 _ _ _ hfl6 (by simp)
      refine ⟨Kp.builtin, W_len_list hhd7 hI2l (fun t10 => ?_)⟩
      repeat walk_at "st"
      refine W_floordiv hhn (log2_small (by omega)) (fun t11 => ?_)
      repeat walk_at "st"
      intro pl5
      refine W_adMeth lv S7 ?_
      repeat walk_at "st"
      refine W_mod (by omega) (fun t12 => ?_)
      rw [Int.fmod_eq_emod_of_nonneg _ (by omega)]
      have hy0 := Int.emod_nonneg (rest.fdiv ((I2 held).length : Int)) (show (tn : Int) + 1 ≠ 0 by omega)
      have hy1 := Int.emod_lt_of_pos (rest.fdiv ((I2 held).length : Int)) (show 0 < (tn : Int) + 1 by omega)
      generalize rest.fdiv ((I2 held).length : Int) = rest2 at *
      generalize rest2 % ((tn : Int) + 1) = iy at *
      refine ⟨noGet_list hhd7, W_item_at hhd7 (i := iy.toNat) (by omega) (hat (by omega)) hI2l ?_⟩
      repeat walk_at "st"
      refine W_floordiv (by omega) (log2_small (by omega)) (fun t13 => ?_)
      repeat walk_at "st"
      refine ⟨Kp.builtin, W_len_list hfl7 (by omega) (fun t14 => ?_)⟩
      repeat walk_at "st"
      refine W_mod (by omega) (fun t15 => ?_)
      rw [Int.fmod_eq_emod_of_nonneg _ (by omega)]
      have hz0 := Int.emod_nonneg (rest2.fdiv ((tn : Int) + 1)) (show ((I2 flat).length : Int) ≠ 0 by omega)
      have hz1 := Int.emod_lt_of_pos (rest2.fdiv ((tn : Int) + 1)) (show 0 < ((I2 flat).length : Int) by omega)
      generalize rest2.fdiv ((tn : Int) + 1) = rest3 at *
      generalize rest3 % ((I2 flat).length : Int) = iz at *
      refine ⟨noGet_list hfl7, W_item_at hfl7 (i := iz.toNat) (by omega) (fat (by omega)) (by omega) ?_⟩
      repeat walk_at "st"
      refine ⟨Kp.add lv, W_adI lv (ps := [flat[iz.toNat]]) hA'.vs S7 (by rw [wt_append, wt_append]; simp [wt] at hwt hwd ⊢; omega) rfl rfl (fun σ8 X8 S8 => ?_)⟩
      repeat walk_at "st"
      refine hP6.nx _ σ8 (X7.trans X8) ⟨_, _, _, tl ++ [(held[ix.toNat], [n]), (held[iy.toNat], [flat[iz.toNat]])], rfl, by simpa using S8, fun p hp => ?_, by simp; omega⟩
      rcases List.mem_append.mp hp with hp | hp
      · exact htl p hp
      · simp only [List.mem_cons, List.not_mem_nil, or_false] at hp
        rcases hp with rfl | rfl
        · exact ⟨_, _, rfl, List.getElem_mem _, .inl hnm⟩
        · exact ⟨_, _, rfl, List.getElem_mem _, .inr ⟨List.getElem_mem _, List.mem_take_iff_getElem.mpr ⟨iy.toNat, by omega, rfl⟩⟩⟩
    · rintro vv σ6 ⟨b1, b2, b3, tl, rfl, S6, htl, htll⟩ Y6
      refine Nx.nx (by assumption) _ ?_
      repeat walk_at "st"
      have hwt := wt_le2 (l := tl) fun p hp => by obtain ⟨_, _, rfl, _⟩ := htl p hp; exact Nat.le_refl _
      have : (I2 held).length = held.length := by simp
      exact h σ6 tl (X1.trans (X2.trans (X3.trans (X4.trans Y6)))) htl (by omega) S6
end
end Mine

namespace Mine
open PySem PySem.W PyProof.Rows PySem.Calls

theorem fn_told {w : World} : FnOk (KK w) 174 ["sorter"] [] ["CycleError"] := ⟨rfl, rfl, rfl, rfl, rfl, rfl, rfl, rfl, rfl, by decide +kernel⟩
theorem fn_rounds {w : World} : FnOk (KK w) 181 ["sorter", "rounds"] ["group"] ["tuple"] := ⟨rfl, rfl, rfl, rfl, rfl, rfl, rfl, rfl, rfl, by decide +kernel⟩
theorem bo_prepare {w : World} : BindOk (KK w) CTS "prepare" 92 := ⟨rfl, rfl, rfl, rfl, rfl, rfl, by decide +kernel⟩
theorem bo_active {w : World} : BindOk (KK w) CTS "is_active" 106 := ⟨rfl, rfl, rfl, rfl, rfl, rfl, by decide +kernel⟩
theorem bo_ready {w : World} : BindOk (KK w) CTS "get_ready" 99 := ⟨rfl, rfl, rfl, rfl, rfl, rfl, by decide +kernel⟩
theorem keep_prepare {w : World} : keepIn (KK w) (.ref 92) = true := by rfl
theorem keep_active {w : World} : keepIn (KK w) (.ref 106) = true := by rfl
theorem keep_ready {w : World} : keepIn (KK w) (.ref 99) = true := by rfl

section
variable {c : Cx} {A : Around} {E : Value → AS → Prop} {fs : List Frm} {σ : Addr → Option (Nat × Cell)} {g : Array GenState} {d : Nat} {x : Addr} {st : SS}
set_option maxHeartbeats 1000000

theorem told_spec {Q : Value → AS → Prop} (lv : Lv c) (hA : AOk A fs (d + 3)) (S : SO σ x st) (hr : st.ready = none) (hsu : ∀ k s, s ∈ st.su k → s ∈ st.keys) (hz : st.keys.length < 4000) (hzs : ∀ k, (st.su k).length ≤ 100000)
    (hN : ∀ σ' l, RingRes st.keys st.su none → Ext [1, 3, 4, 8] σ σ' → SO σ' x st.prep → Dz σ' (.ref l) (.list [.none]) → Q (.ref l) ⟨fs, σ', g⟩)
    (hS : ∀ r σ' l, RingRes st.keys st.su (some r) → Ext [1, 3, 4, 8] σ σ' → SO σ' x st.prep → Dz σ' (.ref l) (.list [.str "CycleError"]) → Q (.ref l) ⟨fs, σ', g⟩) :
    W c A (call (.ref 174) [.ref x]) Q E ⟨fs, σ, g⟩ := by
  obtain ⟨dx, nd, rv, as, ep, S⟩ := S
  refine W_call_G lv.K (ns := ["sorter"]) (us := [.ref x]) (gs := [("CycleError", .ref 55)]) fn_told rfl (by kernel_rfl) rfl (.cons .nil) (by simp [lv.CycleError]) hA (fun L env B P X hfr hh hL hA' hout hE hFx hUx => ?_)
  refine W_consG (fun P1 hP1 => ?_)
  refine W_Try ?_
  repeat walk_at "st"
  intro pl
  refine W_getMethod S.x S.dx (lv.K ▸ bo_prepare.get) (lv.K ▸ bo_prepare.find) (lv.K ▸ bo_prepare.fn) (no_attr (by decide +kernel)) ?_
  repeat walk_at "st"
  refine ⟨Kp.inK (lv.K ▸ keep_prepare), W_call (prepare_spec lv.toLw lv.CycleError (d := d) hA' S hr hsu hz hzs (fun σ1 b hr1 X1 S1 => ?_) (fun r e t args T σ1 b hr1 X1 S1 hx1 => ?_))⟩
  · dsimp only
    repeat walk_at "st"
    refine W_newList 0 (by simp) (fun l h2 σ2 e2 => ?_)
    have X2 : Ext [] σ1 σ2 := by rw [e2]; exact Ext.upd_new h2
    repeat walk_at "st"
    refine hN σ2 l hr1 (X1.trans X2.nil) ⟨_, _, _, _, _, S1.ext X2 (by decide) (by decide)⟩ ?_
    exact .list (by rw [e2]; exact upd_self) (.cons RdV.none .nil)
  · dsimp only
    obtain ⟨outer, hout⟩ := hout
    refine W_noteFrame hA'.vs.link hout hfr hx1 (fun σ2 T2 X2 hx2 => W_setFlight hx2 (W_handle_hit ?_))
    refine W_Glob hE (by walk_at "mem") ⟨hx2.m (by rw [lv.K]; rfl), W_setFlight hx2 ?_⟩
    repeat walk_at "st"
    refine W_newList 0 (by simp) (fun l h3 σ3 e3 => ?_)
    have X3 : Ext [] σ2 σ3 := by rw [e3]; exact Ext.upd_new h3
    repeat walk_at "st"
    refine hS r σ3 l hr1 (X1.trans ((X2.mono (by decide)).trans X3.nil)) ⟨_, _, _, _, _, (S1.ext X2 (by decide) (by decide)).ext X3 (by decide) (by decide)⟩ ?_
    exact .list (by rw [e3]; exact upd_self) (.cons RdV.str .nil)

/-- the rounds come out, one after the other -/
noncomputable def RunsOk (N : Nat) : SS → List (List Int) → Prop
  | st, [] => st.ready = some [] ∧ ¬ st.nfin < st.npass
  | st, r :: rs => st.ready = some (I2 r) ∧ (st.nfin < st.npass ∨ r ≠ []) ∧ r.length ≤ 90 ∧ (∀ k ∈ I2 r, k ∈ st.keys) ∧ (∀ i k, (I2 r)[i]? = some k → ((st.getReady (I2 r)).done ((I2 r).take i)).np k = -1) ∧ RunsOk N ((st.getReady (I2 r)).done (I2 r)) rs

theorem rounds_spec {R : Addr} {rs : List (List Int)} {N : Nat} {Q : Value → AS → Prop} (lv : Lv c) (hA : AOk A fs (d + 2)) (S : SO σ x st) (hR : Dz σ (.ref R) (.list (rs.map fun r => .list (r.map .int)))) (hl : rs.length ≤ 1000) (hN : N ≤ 10000)
    (hrun : RunsOk N st rs) (hsu : ∀ k s, s ∈ st.su k → s ∈ st.keys) (hzs : ∀ k, (st.su k).length ≤ N)
    (h : ∀ σ' st', Ext [1] σ σ' → SO σ' x st' → st'.keys = st.keys → st'.su = st.su → Q (.bool true) ⟨fs, σ', g⟩) :
    W c A (call (.ref 181) [.ref x, .ref R]) Q E ⟨fs, σ, g⟩ := by
  refine W_call_G lv.K (ns := ["sorter", "rounds", "group"]) (us := [.ref x, .ref R]) (gs := [("tuple", .type "tuple")]) fn_rounds rfl (by kernel_rfl) rfl (.cons (.cons (.rest .nil))) (by simp [lv.tuple]) hA (fun L env B P X hfr hh hL hA' hout hE hFx hUx => ?_)
  obtain ⟨vs, hR0, hvs⟩ := hR.list_inv
  have hvl : vs.length = rs.length := by simpa using hvs.len
  refine W_consG (fun P1 hP1 => ?_)
  refine W_For ?_
  repeat walk_at "st"
  refine W_iter_list hR0 (fun it h1 σ1 e1 => ?_)
  refine Wk_loopG (k := 0) (IterOf.list hh) [1] (by simp) (by simp)
    (fun i vv σ => ∃ b st', vv = [some (.ref x), some (.ref R), b] ∧ SO σ x st' ∧ RunsOk N st' (rs.drop i) ∧ st'.keys = st.keys ∧ st'.su = st.su)
    (fun i vv σ σ' ⟨b, st', q1, q2, q3⟩ X => ⟨b, st', q1, q2.ext X (by decide) (by decide), q3⟩)
    h1 e1 (by rw [e1, upd_ne (fun q => by rw [← q, hR0] at h1; cases h1)]; exact hR0) ⟨_, st, rfl, S, hrun, rfl, rfl⟩ ?_ ?_
  · rintro i v vv σ2 u2 P2 E2 hP2 hE2 ⟨b, st2, rfl, ⟨dx, nd, rv, as, ep, S2⟩, hrun2, hk2, hs2⟩ hv eu hsr Y2
    have hi : i < rs.length := by rw [← hvl]; exact (List.getElem?_eq_some_iff.mp hv).1
    obtain ⟨lg, hlg, hlg2⟩ := (hvs.ext Y2 (by decide)).row (i := i) (r := rs[i]) (List.getElem?_eq_getElem hi)
    rw [hlg] at hv
    cases hv
    have hdr : rs.drop i = rs[i] :: rs.drop (i + 1) := (List.getElem_cons_drop hi).symm
    rw [hdr] at hrun2
    generalize rs[i] = r at *
    obtain ⟨hrd, hac, hrl, hmem, hgood, hrun3⟩ := hrun2
    repeat walk_at "st"
    rw [eu]
    intro pl
    refine W_getMethod S2.x S2.dx (lv.K ▸ bo_active.get) (lv.K ▸ bo_active.find) (lv.K ▸ bo_active.fn) (no_attr (by decide +kernel)) ?_
    repeat walk_at "st"
    refine ⟨Kp.inK (lv.K ▸ keep_active), is_active_spec lv.toLw (d := d) hA'.vs S2 hrd (by simp; omega) ?_⟩
    have hact : (decide (st2.nfin < st2.npass) || !(I2 r).isEmpty) = true := by
      rcases hac with q | q
      · simp [q]
      · cases r with
        | nil => exact absurd rfl q
        | cons a b => simp
    rw [hact]
    repeat walk_at "st"
    refine W_isnot_bool ?_
    repeat walk_at "st"
    intro pl2
    refine W_getMethod S2.x S2.dx (lv.K ▸ bo_ready.get) (lv.K ▸ bo_ready.find) (lv.K ▸ bo_ready.fn) (no_attr (by decide +kernel)) ?_
    repeat walk_at "st"
    refine ⟨Kp.inK (lv.K ▸ keep_ready), get_ready_spec lv.toLw (d := d) hA'.vs S2 hrd hmem (by simp; omega) (fun t3 σ3 h3 X3 ht3 S3 => ?_)⟩
    repeat walk_at "st"
    have hlg3 := X3 _ _ _ hlg2 (by decide)
    refine ⟨Kp.type, W_tuple_list 9 hlg3 (by simp; omega) (fun t4 h4 σ4 e4 => ?_)⟩
    have X4 : Ext [] σ3 σ4 := by rw [e4]; exact Ext.upd_new h4
    refine W_neD (p := .tuple (r.map .int)) (q := .tuple (r.map .int)) hA' (.tuple (X4 _ _ _ ht3 (by decide)) RdL.ints) (.tuple (by rw [e4]; exact upd_self) RdL.ints) (Sh.tuple (n := 0) Sh.ints).ok (Sh.tuple (n := 0) Sh.ints).ok ?_
    rw [eqv_self (Sh.tuple (n := 0) Sh.ints)]
    repeat walk_at "st"
    have S4 := S3.ext X4 (by decide) (by decide)
    refine W_Call_methodS ?_
    repeat walk_at "st"
    refine W_getBound S4.x S4.dx (lv.K ▸ bo_done) (no_attr (by decide +kernel)) (fun m5 h5 σ5 e5 => ?_)
    have X5 : Ext [] σ4 σ5 := by rw [e5]; exact Ext.upd_new h5
    have S5 := S4.ext X5 (by decide) (by decide)
    have hlg5 := X5 _ _ _ (X4 _ _ _ hlg3 (by decide)) (by decide)
    obtain ⟨od, ho1, ho2⟩ := fdOf_ex (K := KK c.w) fn_done.fn
    refine W_callWith (W_args_star ?_)
    repeat walk_at "st"
    refine ⟨lg, _, rfl, ⟨0, .inl hlg5⟩, by simp; omega, fun us hus => ⟨Kp.bound (by rw [e5]; exact upd_self) (lv.K ▸ ho1) ho2, W_call (Wk_bound (by rw [e5]; exact upd_self) (done_spec lv.toLw (d := d) (N := N) hA'.vs S5 rfl (by intro k; show (st2.su k).length ≤ N; rw [hs2]; exact hzs k) ?_ ?_ hus hmem (by intro k s' q; show s' ∈ st2.keys; rw [hk2]; exact hsu k s' (by rw [← hs2]; exact q)) hgood (fun σ6 X6 S6 => ?_)))⟩⟩
    · show 0 + N * ((I2 r).length + 1) ≤ 1000000
      have h1 : (I2 r).length + 1 ≤ 91 := by simp; omega
      have := Nat.mul_le_mul hN h1
      omega
    · simp; omega
    · dsimp only
      repeat walk_at "st"
      have hsame := SS.done_same (l := I2 r) (st := st2.getReady (I2 r)) (N := N) (by intro k; show (st2.su k).length ≤ N; rw [hs2]; exact hzs k)
      exact hP2.nx _ σ6 (X3.trans (X4.nil.trans (X5.nil.trans X6))) ⟨_, _, rfl, ⟨_, _, _, _, _, S6⟩, hrun3, hsame.1.trans hk2, hsame.2.1.trans hs2⟩
  · rintro vv σ2 ⟨b, st2, rfl, ⟨dx, nd, rv, as, ep, S2⟩, hrun2, hk2, hs2⟩ Y2
    rw [hvl, List.drop_length] at hrun2
    obtain ⟨hrd, hac⟩ := hrun2
    refine Nx.nx (by assumption) _ ?_
    repeat walk_at "st"
    intro pl
    refine W_getMethod S2.x S2.dx (lv.K ▸ bo_active.get) (lv.K ▸ bo_active.find) (lv.K ▸ bo_active.fn) (no_attr (by decide +kernel)) ?_
    repeat walk_at "st"
    refine ⟨Kp.inK (lv.K ▸ keep_active), is_active_spec lv.toLw (d := d) hA'.vs S2 hrd (by simp) ?_⟩
    rw [decide_eq_false hac]
    repeat walk_at "st"
    refine W_is_bool ?_
    repeat walk_at "st"
    intro pl2
    refine W_getMethod S2.x S2.dx (lv.K ▸ bo_ready.get) (lv.K ▸ bo_ready.find) (lv.K ▸ bo_ready.fn) (no_attr (by decide +kernel)) ?_
    repeat walk_at "st"
    refine ⟨Kp.inK (lv.K ▸ keep_ready), get_ready_spec lv.toLw (d := d) hA'.vs S2 hrd (by simp) (by simp) (fun t3 σ3 h3 X3 ht3 S3 => ?_)⟩
    repeat walk_at "st"
    refine W_newTuple 9 (by simp) (fun t4 h4 σ4 e4 => ?_)
    have X4 : Ext [] σ3 σ4 := by rw [e4]; exact Ext.upd_new h4
    refine W_eqD (p := .tuple []) (q := .tuple []) hA' (.tuple (X4 _ _ _ ht3 (by decide)) .nil) (.tuple (by rw [e4]; exact upd_self) .nil) rfl rfl ?_
    repeat walk_at "st"
    exact h σ4 _ (Y2.trans (X3.trans X4.nil)) ⟨_, _, _, _, _, S3.ext X4 (by decide) (by decide)⟩ hk2 hs2
end
end Mine

namespace Mine
open PySem PySem.W PyProof.Rows PySem.Calls
section
variable {c : Cx} {A : Around} {E : Value → AS → Prop} {a : AS} {env : Env} {fs : List Frm} {σ : Addr → Option (Nat × Cell)} {g : Array GenState} {k : Nat} {d : Nat} {L : Addr} {ns : List Str} {gs : List (Str × Value)}
theorem W_Assign_T {t : Expr} {value : Expr} {pos : Pos} {Q : Flow → AS → Prop}
    (h : W c A (eval value env) (fun v a₁ => W c A (assign t env v) (fun _ => Q .next) E a₁) E a)
    (hs : exec (.Assign [t] value pos) env = (do standAt pos; let v ← eval value env; assign t env v; pure .next) := by with_unfolding_all rfl) : W c A (exec (.Assign [t] value pos) env) Q E a := by
  rw [hs]
  exact W_bind (W_standAt (W_bind (W_mono h (fun v a₁ q => W_bind (W_mono q (fun _ _ x => W_pure x) fun _ _ x => x)) fun _ _ x => x)))
theorem W_assign_T2 {x y : Str} {px py p : Pos} {kk : Nat} {l : Addr} {v1 v2 : AV} {Q : Unit → AS → Prop} (hl : Starry c ⟨fs, σ, g⟩ l [v1, v2]) (hh : A.handled = none)
    (h : All v1 (fun u1 => W c A (storeName env x u1) (fun _ a₂ => All v2 (fun u2 => W c A (storeName env y u2) Q E a₂)) E ⟨fs, σ, g⟩)) : W c A (assign (.Tuple [.Name x px, .Name y py] kk p) env (.ref l)) Q E ⟨fs, σ, g⟩ := by
  refine W_assign_Tuple hl rfl hh fun us eu => ?_
  obtain ⟨u1, us, rfl, q1, eu⟩ := List.map_eq_cons_iff.mp eu
  obtain ⟨u2, us, rfl, q2, eu⟩ := List.map_eq_cons_iff.mp eu
  rw [List.map_eq_nil_iff] at eu; subst eu
  refine W_inOrder_cons (W_assign_Name (W_mono (h.at q1) (fun _ a₂ q => ?_) fun _ _ x => x))
  refine W_inOrder_cons (W_assign_Name (W_mono (q.at q2) (fun _ a₂ q => ?_) fun _ _ x => x))
  exact W_inOrder_nil q
theorem W_assign_T3 {x y z : Str} {px py pz p : Pos} {kk : Nat} {l : Addr} {v1 v2 v3 : AV} {Q : Unit → AS → Prop} (hl : Starry c ⟨fs, σ, g⟩ l [v1, v2, v3]) (hh : A.handled = none)
    (h : All v1 (fun u1 => W c A (storeName env x u1) (fun _ a₂ => All v2 (fun u2 => W c A (storeName env y u2) (fun _ a₃ => All v3 (fun u3 => W c A (storeName env z u3) Q E a₃)) E a₂)) E ⟨fs, σ, g⟩)) : W c A (assign (.Tuple [.Name x px, .Name y py, .Name z pz] kk p) env (.ref l)) Q E ⟨fs, σ, g⟩ := by
  refine W_assign_Tuple hl rfl hh fun us eu => ?_
  obtain ⟨u1, us, rfl, q1, eu⟩ := List.map_eq_cons_iff.mp eu
  obtain ⟨u2, us, rfl, q2, eu⟩ := List.map_eq_cons_iff.mp eu
  obtain ⟨u3, us, rfl, q3, eu⟩ := List.map_eq_cons_iff.mp eu
  rw [List.map_eq_nil_iff] at eu; subst eu
  refine W_inOrder_cons (W_assign_Name (W_mono (h.at q1) (fun _ a₂ q => ?_) fun _ _ x => x))
  refine W_inOrder_cons (W_assign_Name (W_mono (q.at q2) (fun _ a₂ q => ?_) fun _ _ x => x))
  refine W_inOrder_cons (W_assign_Name (W_mono (q.at q3) (fun _ a₂ q => ?_) fun _ _ x => x))
  exact W_inOrder_nil q
end

/-! the law's sorter -/
noncomputable def adA (rs : List (List Int)) (pl : List PE) : Adds := (rs.headD []).map (fun n => (n, [])) ++ pl.reverse.map (fun e => (e.x, e.os))
noncomputable def grpB (pl : List PE) (r : List Int) : Adds := (pl.filter fun e => decide (e.x ∈ r)).map (fun e => (e.x, [e.b]))
noncomputable def adB (rs : List (List Int)) (pl : List PE) : Adds := rs.tail.reverse.flatMap (grpB pl)
inductive HOk (D : DS) : Adds → Option (List Int) → Prop
  | no : ¬ D.row.sum % 2 = 1 → HOk D [] none
  | yes {tn : Nat} {tl : Adds} : D.row.sum % 2 = 1 → tn < D.held.length → HoldTail D.held D.rounds.flatten tn tl → wt tl ≤ 4000 → HOk D (holdHead D.held tn ++ tl) (some (D.held.drop tn ++ [D.held.getD tn 0]))
noncomputable def ringD : Option (List Int) → PyData
  | none => .none
  | some r => .list (r.map .int)
noncomputable def dueD : Option (List Int) → PyData
  | none => .list [.none]
  | some _ => .list [.str "CycleError"]

structure PureLaw (D : DS) : Prop where
  ne : D.rounds ≠ []
  each : ∀ r ∈ D.rounds, r ≠ []
  held : D.held ≠ []
  all : ∀ pl H ring st, PlanOk D.rounds pl → HOk D H ring → st = SS.nil.adI (adA D.rounds pl ++ H ++ adB D.rounds pl) →
    (∀ k s, s ∈ st.su k → s ∈ st.keys) ∧ st.keys.length < 4000 ∧ (∀ k, (st.su k).length ≤ 10000) ∧ (∀ res, RingRes st.keys st.su res → res = ring.map I2) ∧ RunsOk 10000 st.prep D.rounds

theorem fn_law {w : World} : FnOk (KK w) 188 ["script"] ["rounds", "held", "total", "plan", "flat", "sorter", "x", "behind", "others", "due", "ring", "turn", "group"] ["_law_drawn", "_law_plan", "TopologicalSorter", "_law_back", "len", "_law_hold", "_law_told", "_law_rounds"] := ⟨rfl, rfl, rfl, rfl, rfl, rfl, rfl, rfl, rfl, by decide +kernel⟩
theorem keep_law {w : World} : ∀ f ∈ [148, 155, 160, 167, 174, 181], keepIn (KK w) (.ref f) = true := by
  intro f hf
  simp only [List.mem_cons, List.not_mem_nil, or_false] at hf
  rcases hf with rfl | rfl | rfl | rfl | rfl | rfl <;> rfl
end Mine

namespace Mine
open PySem PySem.W PyProof.Rows PySem.Calls

theorem plan_len {rs : List (List Int)} {pl : List PE} (h : PlanOk rs pl) : pl.length ≤ rs.flatten.length ∧ ∀ e ∈ pl, e.os.length ≤ 3 := by
  have seg : ∀ {pre ahead xs es a}, Seg pre ahead xs es a → es.length = xs.length ∧ ∀ e ∈ es, e.os.length ≤ 3 := by
    intro pre ahead xs es a h
    induction h with
    | nil => exact ⟨rfl, fun e he => by cases he⟩
    | snoc _ _ _ _ h3 ih =>
      refine ⟨by simp [ih.1], fun e he => ?_⟩
      rcases List.mem_append.mp he with he | he
      · exact ih.2 e he
      · rw [List.mem_singleton.mp he]; exact h3
  induction h with
  | one => exact ⟨Nat.zero_le _, fun e he => by cases he⟩
  | snoc _ hs ih =>
    have := seg hs
    refine ⟨?_, fun e he => ?_⟩
    · rw [List.flatten_append, List.length_append, List.length_append]
      simp only [List.flatten_cons, List.flatten_nil, List.append_nil]; omega
    · rcases List.mem_append.mp he with he | he
      · exact ih.2 e he
      · exact this.2 e he

theorem grpB_wt {pl : List PE} : ∀ {l : List (List Int)}, wt (l.flatMap (grpB pl)) ≤ 2 * (l.length * pl.length)
  | [] => Nat.zero_le _
  | r :: l => by
    have h1 := grpB_wt (pl := pl) (l := l)
    have h2 := wt_le2 (l := grpB pl r) fun p hp => by
      obtain ⟨e, _, rfl⟩ := List.mem_map.mp hp
      exact Nat.le_refl _
    have h3 : (grpB pl r).length ≤ pl.length := by
      unfold grpB; rw [List.length_map]; exact List.length_filter_le ..
    rw [List.flatMap_cons, wt_append, List.length_cons, Nat.add_mul, Nat.one_mul]; omega
theorem Sh.ringD {r : Option (List Int)} : Sh 1 (ringD r) := by
  cases r with
  | none => exact .none
  | some r => exact Sh.list Sh.ints
theorem Sh.dueD {r : Option (List Int)} : Sh 1 (dueD r) := by
  cases r with
  | none => exact Sh.list fun d hd => by rw [List.mem_singleton.mp hd]; exact .none
  | some r => exact Sh.list fun d hd => by rw [List.mem_singleton.mp hd]; exact ⟨by decide +kernel, Nat.zero_le _⟩
theorem PE.at_ {σ : Addr → Option (Nat × Cell)} {v : AV} {e : PE} (h : Dz σ v e.data) : ∃ l o, v = .ref l ∧ σ l = some (0, .list [.int e.x, .int e.b, .ref o]) ∧ σ o = some (0, .list (I2 e.os)) := by
  obtain ⟨l, rfl⟩ := Dz.list_ref h
  obtain ⟨vs, h1, h2⟩ := Dz.list_inv h
  unfold DzL at h2
  cases h2 with
  | cons a b => cases b with
    | cons b c => cases c with
      | cons c d =>
        cases d
        have a' := Dz.int_inv (σ := σ) a
        have b' := Dz.int_inv (σ := σ) b
        obtain ⟨o, rfl⟩ := Dz.list_ref (σ := σ) c
        obtain ⟨ws, h3, h4⟩ := Dz.list_inv (σ := σ) c
        subst a' b'
        rw [h4.ints_inv] at h3
        exact ⟨l, o, rfl, h1, h3⟩

theorem wt_le {n : Nat} : ∀ {l : Adds}, (∀ p ∈ l, p.2.length ≤ n) → wt l ≤ (n + 1) * l.length
  | [], _ => Nat.zero_le _
  | p :: l, h => by
    have h1 := wt_le (l := l) fun q hq => h q (List.mem_cons_of_mem _ hq)
    have h2 := h p (List.mem_cons_self ..)
    simp only [wt, List.map_cons, List.sum_cons, List.length_cons, Nat.mul_succ] at *; omega

section
variable {c : Cx} {A : Around} {E : Value → AS → Prop} {fs : List Frm} {σ : Addr → Option (Nat × Cell)} {g : Array GenState} {d : Nat}
set_option maxHeartbeats 1000000

@[reducible] noncomputable def lawF (L s R hd pp fl y : Addr) (tot : Int) (bx bb bo bd br bt bg : Option AV) : Frm := ⟨L, [], ["script", "rounds", "held", "total", "plan", "flat", "sorter", "x", "behind", "others", "due", "ring", "turn", "group"], [some (.ref s), some (.ref R), some (.ref hd), some (.int tot), some (.ref pp), some (.ref fl), some (.ref y), bx, bb, bo, bd, br, bt, bg]⟩
theorem W_adB {m x : Addr} {u : Value} {us : List Value} {n : Int} {ps : List Int} {l : Adds} {Q : Value → AS → Prop} (lv : Lv c) (hA : AOk A fs (d + 4)) (S : SO σ x (SS.nil.adI l)) (hm : σ m = some (9, boundCell 87 x)) (hw : wt l + ps.length + 1 ≤ 100000) (hu : er u = .int n) (hus : us.map er = I2 ps)
    (h : ∀ σ', Ext [1, 2] σ σ' → SO σ' x (SS.nil.adI (l ++ [(n, ps)])) → Q .none ⟨fs, σ', g⟩) : W c A (call (.ref m) (u :: us)) Q E ⟨fs, σ, g⟩ := by
  obtain ⟨dx, nd, rv, as, ep, S⟩ := S
  have F := adI_fit (l := l) nil_fit
  refine W_call (Wk_bound hm (add_spec lv.toLw (N := wt l) hA S adI_ready (by simpa using F) (by simpa using hw) hu rfl hus I2_key (fun σ' as' ep' X S' => h σ' X ?_)))
  rw [adI_append]; exact ⟨_, _, _, _, _, S'⟩
theorem W_fc {y : Addr} {st : SS} {ring : Option (List Int)} {Q : Value → AS → Prop} (lv : Lv c) (hA : AOk A fs (d + 1)) (S : SO σ y st) (hsu : ∀ k s, s ∈ st.su k → s ∈ st.keys) (hz : st.keys.length < 4000) (hzs : ∀ k, (st.su k).length ≤ 10000)
    (hring : ∀ res, RingRes st.keys st.su res → res = ring.map I2) (h : ∀ v σ', Ext [3, 4, 8] σ σ' → Dz σ' (er v) (ringD ring) → Q v ⟨fs, σ', g⟩) : W c A (call (.ref 127) [.ref y]) Q E ⟨fs, σ, g⟩ := by
  obtain ⟨dx, nd, rv, as, ep, S⟩ := S
  refine find_cycle_spec lv.toLw hA S hsu hz (fun k => Nat.le_trans (hzs k) (by decide)) (fun σ' hr X => ?_) (fun r l σ' hr _ X hl => ?_)
  · have := hring _ hr
    cases ring with
    | none => exact h _ σ' X RdV.none
    | some r => cases this
  · have := hring _ hr
    cases ring with
    | none => cases this
    | some r' =>
      have e : r = I2 r' := Option.some.inj this
      rw [e] at hl
      exact h _ σ' X (Dz.list hl .ints)
theorem W_td {y : Addr} {st : SS} {ring : Option (List Int)} {Q : Value → AS → Prop} (lv : Lv c) (hA : AOk A fs (d + 3)) (S : SO σ y st) (hr : st.ready = none) (hsu : ∀ k s, s ∈ st.su k → s ∈ st.keys) (hz : st.keys.length < 4000) (hzs : ∀ k, (st.su k).length ≤ 10000)
    (hring : ∀ res, RingRes st.keys st.su res → res = ring.map I2) (h : ∀ l σ', Ext [1, 3, 4, 8] σ σ' → SO σ' y st.prep → Dz σ' (.ref l) (dueD ring) → Q (.ref l) ⟨fs, σ', g⟩) : W c A (call (.ref 174) [.ref y]) Q E ⟨fs, σ, g⟩ := by
  refine told_spec lv hA S hr hsu hz (fun k => Nat.le_trans (hzs k) (by decide)) (fun σ' l hr X S' hd => ?_) (fun r σ' l hr X S' hd => ?_)
  · have := hring _ hr
    cases ring with
    | none => exact h l σ' X S' hd
    | some r => cases this
  · have := hring _ hr
    cases ring with
    | none => cases this
    | some r' => exact h l σ' X S' hd
theorem W_fcMeth {y : Addr} {pl : Sem Bool} {st : SS} {Q : Value × List Value → AS → Prop} (lv : Lv c) (S : SO σ y st) (h : Q (.ref 127, [.ref y]) ⟨fs, σ, g⟩) : W c A (getMethod (.ref y) "_find_cycle" pl) Q E ⟨fs, σ, g⟩ := by
  obtain ⟨dx, nd, rv, as, ep, S⟩ := S
  exact W_getMethod S.x S.dx (lv.K ▸ bo_find.get) (lv.K ▸ bo_find.find) (lv.K ▸ bo_find.fn) (no_attr (by decide +kernel)) h

theorem law_spec {s : Addr} {is : List Int} {R : Result → AS → Prop} (lv : Lv c) (hA : AOk A fs (d + 8)) (hs : BL c s (I2 is)) (hl : is.length ≤ 63) (hp : PureLaw (DS.of (is.take 40 ++ [1, 3, 7, 4, 9])))
    (h : ∀ σ', R (.ok (.ret (.bool true))) ⟨fs, σ', g⟩) : Wk c A (.call (.ref 188) ⟨[.ref s], []⟩) R ⟨fs, σ, g⟩ := by
  refine Wk_call_G lv.K (ns := ["script", "rounds", "held", "total", "plan", "flat", "sorter", "x", "behind", "others", "due", "ring", "turn", "group"]) (us := [.ref s]) (gs := [("_law_drawn", .ref 148), ("_law_plan", .ref 155), ("TopologicalSorter", .ref 137), ("_law_back", .ref 160), ("len", .builtin "len"), ("_law_hold", .ref 167), ("_law_told", .ref 174), ("_law_rounds", .ref 181)])
    fn_law rfl (by kernel_rfl) rfl (.cons (.rest (.rest (.rest (.rest (.rest (.rest (.rest (.rest (.rest (.rest (.rest (.rest (.rest .nil)))))))))))))) (by simp [lv.drawn, lv.plan, lv.TS, lv.back, lv.len, lv.hold, lv.told, lv.rounds]) hA (fun L env B P X hfr hh hL hA' hout hE hFx hUx => ?_)
  have hLe : (DS.of (is.take 40 ++ [1, 3, 7, 4, 9])).Le 45 := by
    have := DS.Le.init.fold (xs := is.take 40 ++ [1, 3, 7, 4, 9])
    have h2 : (is.take 40 ++ [1, 3, 7, 4, 9]).length ≤ 45 := by simp; omega
    exact ⟨Nat.le_trans this.row (by omega), Nat.le_trans this.held (by omega), Nat.le_trans this.rounds (by omega), fun r hr => Nat.le_trans (this.each r hr) (by omega), Nat.le_trans this.flat (by omega)⟩
  refine W_consG (fun _ _ => ?_)
  refine W_Assign_T ?_
  repeat walk_at "st"
  refine ⟨Kp.inK (lv.K ▸ keep_law 148 (by simp)), drawn_spec lv (d := d + 6) (hA'.le (by omega)) hs hl (fun t1 σ1 X1 hD1 => ?_)⟩
  generalize DS.of (is.take 40 ++ [1, 3, 7, 4, 9]) = D at *
  obtain ⟨vs1, ht1, hvs1⟩ := hD1.tuple_inv
  obtain ⟨v1, v2, v3, rfl, hR1, hH1, hT1⟩ : ∃ v1 v2 v3, vs1 = [v1, v2, v3] ∧ Dz σ1 v1 (.list (D.rounds.map fun r => .list (r.map .int))) ∧ Dz σ1 v2 (.list (D.held.map .int)) ∧ Dz σ1 v3 (.int D.row.sum) := by
    unfold DzL at hvs1
    cases hvs1 with | cons a b => cases b with | cons b c => cases c with | cons c d => cases d; exact ⟨_, _, _, rfl, a, b, c⟩
  obtain ⟨R0, rfl⟩ := hR1.list_ref
  obtain ⟨hd, rfl⟩ := hH1.list_ref
  rw [hT1.int_inv] at ht1
  refine W_assign_T3 ⟨0, .inr ht1⟩ hh ?_
  repeat walk_at "st"
  refine W_Assign_T ?_
  repeat walk_at "st"
  refine ⟨Kp.inK (lv.K ▸ keep_law 155 (by simp)), plan_spec lv (d := d + 6) (hA'.vs.le (by omega)) hR1 hp.ne hp.each (by have := hLe.flat; omega) (by have := hLe.rounds; omega) (fun t2 σ2 pl X2 hpl hD2 => ?_)⟩
  obtain ⟨vs2, ht2, hvs2⟩ := hD2.tuple_inv
  obtain ⟨v1, v2, rfl, hP2, hF2⟩ : ∃ v1 v2, vs2 = [v1, v2] ∧ Dz σ2 v1 (.list (pl.map PE.data)) ∧ Dz σ2 v2 (.list (D.rounds.flatten.map .int)) := by
    unfold DzL at hvs2
    cases hvs2 with | cons a b => cases b with | cons b c => cases c; exact ⟨_, _, rfl, a, b⟩
  obtain ⟨pp, rfl⟩ := hP2.list_ref
  obtain ⟨fl, rfl⟩ := hF2.list_ref
  refine W_assign_T2 ⟨0, .inr ht2⟩ hh ?_
  repeat walk_at "st"
  have hR2 := hR1.ext X2 (by decide)
  have hH2 := hH1.ext X2 (by decide)
  refine ⟨Kp.inK (lv.K ▸ keep_TS), W_make 1 (lv.K ▸ makes_TS) (lv.K ▸ init_TS) (lv.K ▸ fnt_TS) (fun y dy hy hdy hne σ3 e3 => ?_)⟩
  have X3 : Ext [] σ2 σ3 := by
    rw [e3]
    refine Ext.trans (Ext.upd_new hdy) (Ext.upd_new ?_)
    rw [upd_ne hne]; exact hy
  refine tinit_spec lv.toLw (d := d) ((hA'.vs.le (d' := d + 2) (by omega)).underMake) (by rw [e3]; exact upd_self) (by rw [e3, upd_ne (Ne.symm hne)]; exact upd_self) (fun σ4 nd X4 S4 => ⟨rfl, ?_⟩)
  have X34 : Ext [1] σ2 σ4 := X3.nil.trans X4
  have S4' : SO σ4 y (SS.nil.adI []) := ⟨_, _, _, _, _, S4⟩
  have hR4 := hR2.ext X34 (by decide)
  have hH4 := hH2.ext X34 (by decide)
  have hP4 := hP2.ext X34 (by decide)
  have hF4 := hF2.ext X34 (by decide)
  clear X1 X2 X3 X4 X34 hR1 hH1 hT1 hvs1 ht1 hD1 hvs2 ht2 hD2 hP2 hF2 hR2 hH2 S4 e3 hy hdy hne
  repeat walk_at "st"
  obtain ⟨rvs, hRv, hrvs⟩ := hR4.list_inv
  have hrvl : rvs.length = D.rounds.length := by simpa using hrvs.len
  obtain ⟨r0, rt, hrs⟩ : ∃ r0 rt, D.rounds = r0 :: rt := by
    cases q : D.rounds with
    | nil => exact absurd q hp.ne
    | cons a b => exact ⟨a, b, rfl⟩
  obtain ⟨l0, hv0, hl0⟩ := hrvs.row (i := 0) (r := r0) (by rw [hrs]; rfl)
  have hr0 : r0.length ≤ 45 := hLe.each r0 (by rw [hrs]; simp)
  have hpll := plan_len hpl
  have hpl45 : pl.length ≤ 45 := Nat.le_trans hpll.1 hLe.flat
  -- the first round
  refine W_cutN (fun a' => ∃ bx σ', a' = ⟨lawF L s R0 hd pp fl y D.row.sum bx none none none none none none :: fs, σ', g⟩ ∧ Ext [1, 2] σ4 σ' ∧ SO σ' y (SS.nil.adI (r0.map fun n => (n, [])))) ?_ ?_
  · intro Pc hPc
    refine W_For ?_
    repeat walk_at "st"
    refine ⟨noGet_list hRv, W_item_at hRv (i := 0) rfl hv0 (by have := hLe.rounds; omega) ?_⟩
    repeat walk_at "st"
    refine W_iter_list hl0 (fun it h5 σ5 e5 => ?_)
    refine Wk_loopG (k := 0) (IterOf.list hh) [1, 2] (by decide) (by decide)
      (fun i vv σ => ∃ bx, vv = (lawF L s R0 hd pp fl y D.row.sum bx none none none none none none).vs ∧ SO σ y (SS.nil.adI ((r0.take i).map fun n => (n, []))))
      (fun i vv σ σ' ⟨b, q1, q2⟩ X => ⟨b, q1, q2.ext X (by decide) (by decide)⟩)
      h5 e5 (by rw [e5, upd_ne (fun q => by rw [← q, hl0] at h5; cases h5)]; exact hl0) ⟨_, rfl, S4'⟩ ?_ ?_
    · rintro i v vv σ6 u6 P6 E6 hP6 hE6 ⟨bx, rfl, S6⟩ hv eu hsr Y6
      obtain ⟨n, hn, rfl⟩ := map_some_of ((List.getElem?_map ..).symm.trans hv)
      repeat walk_at "st"
      rw [eu]
      intro plx
      refine W_adMeth lv S6 ?_
      repeat walk_at "st"
      have hw : wt ((r0.take i).map fun n => (n, [])) ≤ 45 := by
        have := wt_le (n := 0) (l := (r0.take i).map fun n => (n, [])) fun p hp => by obtain ⟨m, _, rfl⟩ := List.mem_map.mp hp; exact Nat.le_refl _
        rw [List.length_map, List.length_take] at this; omega
      refine ⟨Kp.add lv, W_adI lv (d := d) (ps := []) (hA'.vs.le (by omega)) S6 (by rw [List.length_nil]; omega) rfl rfl (fun σ7 X7 S7 => ?_)⟩
      repeat walk_at "st"
      refine hP6.nx _ σ7 X7 ⟨_, rfl, ?_⟩
      rw [List.take_add_one, hn, List.map_append]; exact S7
    · rintro vv σ6 ⟨bx, rfl, S6⟩ Y6
      rw [List.length_map, List.take_length] at S6
      exact hPc _ ⟨bx, σ6, rfl, Y6, S6⟩
  rintro a' ⟨bx5, σ5, rfl, X5, S5⟩
  have hP5 := hP4.ext X5 (by decide)
  clear S4' l0 hv0 hl0
  repeat walk_at "st"
  -- the others, from behind
  refine W_cutN (fun a' => ∃ bx bb bo σ', a' = ⟨lawF L s R0 hd pp fl y D.row.sum bx bb bo none none none none :: fs, σ', g⟩ ∧ Ext [1, 2] σ5 σ' ∧ SO σ' y (SS.nil.adI (adA D.rounds pl))) ?_ ?_
  · intro Pc hPc
    refine W_For ?_
    repeat walk_at "st"
    refine ⟨Kp.inK (lv.K ▸ keep_law 160 (by simp)), back_spec lv (d := d) (hA'.vs.le (by omega)) hP5 (by simp; omega) (fun lb σ6 X6 hB6 => ?_)⟩
    obtain ⟨bvs, hb1, hb2⟩ := hB6.list_inv
    have hbl : bvs.length = pl.length := by simpa using hb2.len
    refine W_iter_list hb1 (fun it h7 σ7 e7 => ?_)
    refine Wk_loopG (k := 0) (IterOf.list hh) [1, 2] (by decide) (by decide)
      (fun i vv σ => ∃ bx bb bo, vv = (lawF L s R0 hd pp fl y D.row.sum bx bb bo none none none none).vs ∧ SO σ y (SS.nil.adI (r0.map (fun n => (n, [])) ++ (pl.reverse.take i).map fun e => (e.x, e.os))))
      (fun i vv σ σ' ⟨bx, bb, bo, q1, q2⟩ X => ⟨bx, bb, bo, q1, q2.ext X (by decide) (by decide)⟩)
      h7 e7 (by rw [e7, upd_ne (fun q => by rw [← q, hb1] at h7; cases h7)]; exact hb1) ⟨_, _, _, rfl, by simpa using S5.ext X6 (by decide) (by decide)⟩ ?_ ?_
    · rintro i v vv σ8 u8 P8 E8 hP8 hE8 ⟨bx, bb, bo, rfl, S8⟩ hv eu hsr Y8
      have hi : i < pl.reverse.length := by rw [List.length_reverse, ← hbl]; exact (List.getElem?_eq_some_iff.mp hv).1
      have hei : pl.reverse[i]? = some pl.reverse[i] := List.getElem?_eq_getElem hi
      obtain ⟨v', hv', hd'⟩ := (hb2.ext Y8 (by decide)).at_ (i := i) (d := pl.reverse[i].data) (by rw [← List.map_reverse, List.getElem?_map, hei]; rfl)
      rw [hv] at hv'
      cases hv'
      have hos := hpll.2 _ (List.mem_reverse.mp (List.getElem_mem hi))
      generalize pl.reverse[i] = e at *
      obtain ⟨le, lo, rfl, hle, hlo⟩ := PE.at_ hd'
      rw [er_ref eu]
      refine W_assign_T3 ⟨0, .inl hle⟩ hh ?_
      repeat walk_at "st"
      refine W_Call_methodS ?_
      repeat walk_at "st"
      have S8' := S8
      obtain ⟨dx8, nd8, rv8, as8, ep8, S80⟩ := S8'
      refine W_getBound S80.x S80.dx (lv.K ▸ bo_add) (no_attr (by decide +kernel)) (fun m9 h9 σ9 e9 => ?_)
      have X9 : Ext [] σ8 σ9 := by rw [e9]; exact Ext.upd_new h9
      obtain ⟨od, ho1, ho2⟩ := fdOf_ex (K := KK c.w) fn_add.fn
      repeat walk_at "st"
      refine W_spl_star ?_
      repeat walk_at "st"
      refine ⟨lo, _, rfl, ⟨0, .inl (X9 _ _ _ hlo (by decide))⟩, by simp; omega, fun us hus => ?_⟩
      repeat walk_at "st"
      have hw : wt (r0.map (fun n => (n, [])) ++ (pl.reverse.take i).map fun e => (e.x, e.os)) ≤ 300 := by
        have h1 := wt_le (n := 0) (l := r0.map fun n => (n, [])) fun p hp => by obtain ⟨m, _, rfl⟩ := List.mem_map.mp hp; exact Nat.le_refl _
        have h2 := wt_le (n := 3) (l := (pl.reverse.take i).map fun e => (e.x, e.os)) fun p hp => by
          obtain ⟨m, hm, rfl⟩ := List.mem_map.mp hp
          exact hpll.2 m (List.mem_reverse.mp (List.mem_of_mem_take hm))
        rw [List.length_map] at h1 h2
        rw [List.length_take, List.length_reverse] at h2
        rw [wt_append]; omega
      refine ⟨Kp.bound (by rw [e9]; exact upd_self) (lv.K ▸ ho1) ho2, W_adB lv (d := d) (ps := e.os) (hA'.vs.le (by omega)) (S8.ext X9 (by decide) (by decide)) (by rw [e9]; exact upd_self) (by omega) rfl (by simpa using hus) (fun σ10 X10 S10 => ?_)⟩
      repeat walk_at "st"
      refine hP8.nx _ σ10 (X9.nil.trans X10) ⟨_, _, _, rfl, ?_⟩
      rw [List.take_add_one, hei, List.map_append, ← List.append_assoc]; exact S10
    · rintro vv σ8 ⟨bx, bb, bo, rfl, S8⟩ Y8
      rw [hbl, ← List.length_reverse, List.take_length] at S8
      refine hPc _ ⟨bx, bb, bo, σ8, rfl, X6.nil.trans Y8, ?_⟩
      unfold adA; rw [hrs]; exact S8
  rintro a' ⟨bx6, bb6, bo6, σ6, rfl, X6, S6⟩
  have X46 := X5.trans X6
  have hR6 := hR4.ext X46 (by decide)
  have hH6 := hH4.ext X46 (by decide)
  have hP6 := hP4.ext X46 (by decide)
  have hF6 := hF4.ext X46 (by decide)
  clear hR4 hH4 hP4 hF4 hP5 X5 X6 X46 S5 hRv hrvs
  have hwA : wt (adA D.rounds pl) ≤ 300 := by
    have h1 := wt_le (n := 0) (l := r0.map fun n => (n, [])) fun p hp => by obtain ⟨m, _, rfl⟩ := List.mem_map.mp hp; exact Nat.le_refl _
    have h2 := wt_le (n := 3) (l := pl.reverse.map fun e => (e.x, e.os)) fun p hp => by
      obtain ⟨m, hm, rfl⟩ := List.mem_map.mp hp
      exact hpll.2 m (List.mem_reverse.mp hm)
    unfold adA
    rw [hrs, List.headD_cons]
    rw [List.length_map] at h1 h2
    rw [List.length_reverse] at h2
    rw [wt_append]; omega
  repeat walk_at "st"
  refine W_newList 0 (by simp) (fun dv h7 σ7 e7 => ?_)
  have X7 : Ext [] σ6 σ7 := by rw [e7]; exact Ext.upd_new h7
  have hdv7 : Dz σ7 (.ref dv) (dueD none) := .list (by rw [e7]; exact upd_self) (.cons RdV.none .nil)
  have hR7 := hR6.ext X7 (by decide)
  have hH7 := hH6.ext X7 (by decide)
  have hP7 := hP6.ext X7 (by decide)
  have hF7 := hF6.ext X7 (by decide)
  have S7 := S6.ext X7 (by decide) (by decide)
  clear hR6 hH6 hP6 hF6 S6 X7 e7 h7
  refine W_storeName hE (by walk_at "set") ?_
  refine Nx.nx (by assumption) _ (W_consG fun _ _ => ?_)
  refine W_Assign_Name (W_Const_none (W_storeName hE (by walk_at "set") ?_))
  refine Nx.nx (by assumption) _ (W_consG fun _ _ => ?_)
  -- the held row
  refine W_cutN (fun a' => ∃ bt dv rv σ' H ring, a' = ⟨lawF L s R0 hd pp fl y D.row.sum bx6 bb6 bo6 (some dv) (some rv) bt none :: fs, σ', g⟩ ∧ Ext [1, 2] σ7 σ' ∧ SO σ' y (SS.nil.adI (adA D.rounds pl ++ H)) ∧ HOk D H ring ∧ wt H ≤ 9000 ∧ Dz σ' dv (dueD ring) ∧ Dz σ' rv (ringD ring)) ?_ ?_
  · intro Pc hPc
    repeat walk_at "st"
    refine W_mod (by decide) (fun t8 => ?_)
    repeat walk_at "st"
    rw [Int.fmod_eq_emod_of_nonneg _ (by decide)]
    by_cases hodd : D.row.sum % 2 = 1
    · rw [show (D.row.sum % 2 == 1) = true from beq_iff_eq.mpr hodd]
      obtain ⟨hvs, hHv, hhv⟩ := hH7.list_inv
      rw [hhv.ints_inv] at hHv
      obtain ⟨fvs, hFv, hfv⟩ := hF7.list_inv
      rw [hfv.ints_inv] at hFv
      have hhl : D.held.length ≠ 0 := fun z => hp.held (List.length_eq_zero_iff.mp z)
      have hhl45 := hLe.held
      have hml : (D.held.map AV.int).length = D.held.length := by simp
      repeat walk_at "st"
      refine W_floordiv (by decide) (by decide) (fun t9 => ?_)
      repeat walk_at "st"
      refine ⟨Kp.builtin, W_len_list hHv (by omega) (fun t10 => ?_)⟩
      repeat walk_at "st"
      refine W_mod (by omega) (fun t11 => ?_)
      rw [Int.fmod_eq_emod_of_nonneg _ (by omega), hml]
      obtain ⟨tn, htn⟩ := Int.eq_ofNat_of_zero_le (Int.emod_nonneg (D.row.sum.fdiv 2) (show (D.held.length : Int) ≠ 0 by omega))
      have htl := Int.emod_lt_of_pos (D.row.sum.fdiv 2) (show 0 < (D.held.length : Int) by omega)
      rw [htn] at htl ⊢
      have htn' : tn < D.held.length := by omega
      repeat walk_at "st"
      refine ⟨Kp.inK (lv.K ▸ keep_law 167 (by simp)), hold_spec lv (d := d) (t := _) (hA'.vs.le (by omega)) S7 (by omega) hHv hFv htn' ?_ (by omega) (by have := hLe.flat; omega) (fun σ8 tl X8 htail hwtl S8 => ?_)⟩
      · rw [hrs]
        have := hp.each r0 (by rw [hrs]; simp)
        cases r0 with
        | nil => exact absurd rfl this
        | cons a b => simp
      repeat walk_at "st"
      refine W_newList 0 (by simp) (fun dv2 h9 σ9 e9 => ?_)
      have X9 : Ext [] σ8 σ9 := by rw [e9]; exact Ext.upd_new h9
      have hdv9 : Dz σ9 (.ref dv2) (dueD (some (D.held.drop tn ++ [D.held.getD tn 0]))) := .list (by rw [e9]; exact upd_self) (.cons RdV.str .nil)
      have hHv9 := X9 _ _ _ (X8 _ _ _ hHv (by decide)) (by decide)
      have S9 := S8.ext X9 (by decide) (by decide)
      refine W_storeName hE (by walk_at "set") ?_
      refine Nx.nx (by assumption) _ (W_consG fun _ _ => W_Assign_Name (W_BinOp (W_slice_from 9 ?_)))
      repeat walk_at "st"
      refine ⟨hd, 0, _, _, _, rfl, rfl, hHv9, by omega, by omega, by omega, fun l10 h10 σ10 e10 => ?_⟩
      dsimp only at h10 e10 ⊢
      have X10 : Ext [] σ9 σ10 := by rw [e10]; exact Ext.upd_new h10
      have hHv10 := X10 _ _ _ hHv9 (by decide)
      have hgt : (D.held.map AV.int)[tn]? = some (.int D.held[tn]) := by rw [List.getElem?_map, List.getElem?_eq_getElem htn']; rfl
      repeat walk_at "st"
      refine ⟨noGet_list hHv10, W_item_at hHv10 (i := tn) rfl hgt (by omega) ?_⟩
      repeat walk_at "st"
      refine W_newList 9 (by simp) (fun l11 h11 σ11 e11 => ?_)
      have X11 : Ext [] σ10 σ11 := by rw [e11]; exact Ext.upd_new h11
      refine W_list_add 0 (X11 _ _ _ (by rw [e10]; exact upd_self) (by decide)) (by rw [e11]; exact upd_self) (by simp; omega) (fun l12 h12 σ12 e12 => ?_)
      have X12 : Ext [] σ11 σ12 := by rw [e12]; exact Ext.upd_new h12
      have X912 : Ext [] σ9 σ12 := X10.trans (X11.trans X12)
      repeat walk_at "st"
      refine hPc _ ⟨_, _, _, σ12, holdHead D.held tn ++ tl, _, rfl, X8.trans (X9.nil.trans X912.nil), ?_, .yes hodd htn' htail hwtl, ?_, hdv9.ext X912 (by decide), ?_⟩
      · rw [← List.append_assoc]; exact S9.ext X912 (by decide) (by decide)
      · have h1 := wt_le (n := 1) (l := holdHead D.held tn) fun p hp => by
          unfold holdHead at hp
          rcases List.mem_append.mp hp with hp | hp
          · rcases List.mem_cons.mp hp with rfl | hp
            · exact Nat.zero_le _
            · obtain ⟨q, _, rfl⟩ := List.mem_map.mp hp; exact Nat.le_refl _
          · simp only [List.mem_cons, List.not_mem_nil, or_false] at hp
            rcases hp with rfl | rfl <;> exact Nat.le_refl _
        have h2 : (holdHead D.held tn).length ≤ 100 := by unfold holdHead; simp; omega
        rw [wt_append]; omega
      · have : D.held.getD tn 0 = D.held[tn] := by rw [List.getD_eq_getElem?_getD, List.getElem?_eq_getElem htn']; rfl
        rw [this]
        refine .list (vs := (D.held.drop tn ++ [D.held[tn]]).map AV.int) ?_ .ints
        rw [e12, upd_self]; simp
    · rw [show (D.row.sum % 2 == 1) = false from beq_eq_false_iff_ne.mpr hodd]
      repeat walk_at "st"
      exact hPc _ ⟨_, _, _, σ7, [], none, rfl, Ext.refl, by simpa using S7, .no hodd, Nat.zero_le _, hdv7, RdV.none⟩
  rintro a' ⟨bt8, dv8, rv8, σ8, H, ring, rfl, X8, S8, hHOk, hwH, hdv8, hrv8⟩
  have hR8 := hR7.ext X8 (by decide)
  have hP8 := hP7.ext X8 (by decide)
  clear hR7 hH7 hP7 hF7 S7 X8 hdv7
  repeat walk_at "st"
  -- the last predecessors
  refine W_cutN (fun a' => ∃ bx bb bo bg σ', a' = ⟨lawF L s R0 hd pp fl y D.row.sum bx bb bo (some dv8) (some rv8) bt8 bg :: fs, σ', g⟩ ∧ Ext [1, 2] σ8 σ' ∧ SO σ' y (SS.nil.adI (adA D.rounds pl ++ H ++ adB D.rounds pl))) ?_ ?_
  · intro Pc hPc
    obtain ⟨rvs, hRv, hrvs⟩ := hR8.list_inv
    have hrvl : rvs.length = D.rounds.length := by simpa using hrvs.len
    have hr45 := hLe.rounds
    refine W_For ?_
    refine W_Call_Name ?_
    refine W_Glob hE (by walk_at "mem") ?_
    refine W_callWith (W_args (W_spl (W_slice_from 0 ?_)))
    repeat walk_at "st"
    refine ⟨R0, 0, _, _, _, rfl, rfl, hRv, by omega, by decide, ?_, fun l9 h9 σ9 e9 => ?_⟩
    · show (1 : Nat) ≤ _
      rw [hrvl, hrs]; simp
    dsimp only at h9 e9 ⊢
    have X9 : Ext [] σ8 σ9 := by rw [e9]; exact Ext.upd_new h9
    have hl9 : Dz σ9 (.ref l9) (.list ((D.rounds.map fun r => PyData.list (r.map .int)).drop 1)) := by
      refine .list (by rw [e9]; exact upd_self) ?_
      have := hrvs.ext X9 (by decide)
      show DzL σ9 (rvs.drop 1) _
      rw [hrs] at this ⊢
      unfold DzL at this ⊢
      cases this with
      | cons a b => exact b
    repeat walk_at "st"
    refine ⟨Kp.inK (lv.K ▸ keep_law 160 (by simp)), back_spec lv (d := d) (hA'.vs.le (by omega)) hl9 (by simp; omega) (fun lb σ10 X10 hB10 => ?_)⟩
    have hgr : ((D.rounds.map fun r => PyData.list (r.map .int)).drop 1).reverse = D.rounds.tail.reverse.map fun r => PyData.list (r.map .int) := by
      rw [List.drop_one, ← List.map_tail, List.map_reverse]
    rw [hgr] at hB10
    generalize hgrp : D.rounds.tail.reverse = grps at *
    have hgl : grps.length ≤ 45 := by rw [← hgrp]; simp; omega
    obtain ⟨gvs, hg1, hg2⟩ := hB10.list_inv
    have hgvl : gvs.length = grps.length := by simpa using hg2.len
    have hP10 := hP8.ext (X9.trans X10) (by decide)
    obtain ⟨pvs, hp1, hp2⟩ := hP10.list_inv
    have hpvl : pvs.length = pl.length := by simpa using hp2.len
    refine W_iter_list hg1 (fun it h11 σ11 e11 => ?_)
    refine Wk_loopG (k := 0) (IterOf.list hh) [1, 2] (by decide) (by decide)
      (fun i vv σ => ∃ bx bb bo bg, vv = (lawF L s R0 hd pp fl y D.row.sum bx bb bo (some dv8) (some rv8) bt8 bg).vs ∧ SO σ y (SS.nil.adI (adA D.rounds pl ++ H ++ (grps.take i).flatMap (grpB pl))))
      (fun i vv σ σ' ⟨bx, bb, bo, bg, q1, q2⟩ X => ⟨bx, bb, bo, bg, q1, q2.ext X (by decide) (by decide)⟩)
      h11 e11 (by rw [e11, upd_ne (fun q => by rw [← q, hg1] at h11; cases h11)]; exact hg1) ⟨_, _, _, _, rfl, by simpa using S8.ext (X9.trans X10) (by decide) (by decide)⟩ ?_ ?_
    · rintro i v vv σ12 u12 P12 E12 hP12 hE12 ⟨bx, bb, bo, bg, rfl, S12⟩ hv eu hsr Y12
      have hi : i < grps.length := by rw [← hgvl]; exact (List.getElem?_eq_some_iff.mp hv).1
      have hgi : grps[i]? = some grps[i] := List.getElem?_eq_getElem hi
      obtain ⟨lg, hlg, hlg2⟩ := (hg2.ext Y12 (by decide)).row (i := i) (r := grps[i]) hgi
      rw [hlg] at hv
      cases hv
      have hp12 := Y12 _ _ _ hp1 (by decide)
      have hp212 := hp2.ext Y12 (by decide)
      have hwB := grpB_wt (pl := pl) (l := grps.take i)
      have hwB2 : (grps.take i).length * pl.length ≤ 45 * 45 := Nat.mul_le_mul (by rw [List.length_take]; omega) hpl45
      generalize grps[i] = gr at *
      repeat walk_at "st"
      rw [eu]
      refine W_For ?_
      repeat walk_at "st"
      refine W_iter_list hp12 (fun it h13 σ13 e13 => ?_)
      refine Wk_loopG (k := 0) (IterOf.list hh) [1, 2] (by decide) (by decide)
        (fun j vv σ => ∃ bx bb bo, vv = (lawF L s R0 hd pp fl y D.row.sum bx bb bo (some dv8) (some rv8) bt8 (some (.ref lg))).vs ∧ SO σ y (SS.nil.adI (adA D.rounds pl ++ H ++ (grps.take i).flatMap (grpB pl) ++ grpB (pl.take j) gr)))
        (fun i vv σ σ' ⟨bx, bb, bo, q1, q2⟩ X => ⟨bx, bb, bo, q1, q2.ext X (by decide) (by decide)⟩)
        h13 e13 (by rw [e13, upd_ne (fun q => by rw [← q, hp12] at h13; cases h13)]; exact hp12) ⟨_, _, _, rfl, by simpa [grpB] using S12⟩ ?_ ?_
      · rintro j v vv σ14 u14 P14 E14 hP14 hE14 ⟨bx, bb, bo, rfl, S14⟩ hv eu14 hsr14 Y14
        have hj : j < pl.length := by rw [← hpvl]; exact (List.getElem?_eq_some_iff.mp hv).1
        have hej : pl[j]? = some pl[j] := List.getElem?_eq_getElem hj
        obtain ⟨v', hv', hd'⟩ := (hp212.ext Y14 (by decide)).at_ (i := j) (d := pl[j].data) (by rw [List.getElem?_map, hej]; rfl)
        rw [hv] at hv'
        cases hv'
        have hstep : grpB (pl.take (j + 1)) gr = grpB (pl.take j) gr ++ if pl[j].x ∈ gr then [(pl[j].x, [pl[j].b])] else [] := by
          unfold grpB
          rw [List.take_add_one, hej, List.filter_append, List.map_append]
          congr 1
          by_cases q : pl[j].x ∈ gr <;> simp [q]
        generalize pl[j] = e at *
        obtain ⟨le, lo, rfl, hle, hlo⟩ := PE.at_ hd'
        rw [er_ref eu14]
        refine W_assign_T3 ⟨0, .inl hle⟩ hh ?_
        repeat walk_at "st"
        refine W_in_list (Y14 _ _ _ hlg2 (by decide)) rfl I2_key ?_
        by_cases hin : e.x ∈ gr
        · rw [decide_eq_true (show er (Value.int e.x _) ∈ I2 gr from I2_mem.mpr hin)]
          repeat walk_at "st"
          intro plx
          refine W_adMeth lv S14 ?_
          repeat walk_at "st"
          have hw : wt (adA D.rounds pl ++ H ++ (grps.take i).flatMap (grpB pl) ++ grpB (pl.take j) gr) ≤ 20000 := by
            have h1 := grpB_wt (pl := pl.take j) (l := [gr])
            have h2 : [gr].length * (pl.take j).length ≤ 45 := by rw [List.length_singleton, List.length_take]; omega
            rw [List.flatMap_cons, List.flatMap_nil, List.append_nil] at h1
            rw [wt_append, wt_append, wt_append]; omega
          refine ⟨Kp.add lv, W_adI lv (d := d) (ps := [e.b]) (hA'.vs.le (by omega)) S14 (by rw [List.length_singleton]; omega) rfl rfl (fun σ15 X15 S15 => ?_)⟩
          repeat walk_at "st"
          refine hP14.nx _ σ15 X15 ⟨_, _, _, rfl, ?_⟩
          rw [hstep, if_pos hin, ← List.append_assoc]; exact S15
        · rw [decide_eq_false (show ¬ er (Value.int e.x _) ∈ I2 gr from fun q => hin (I2_mem.mp q))]
          repeat walk_at "st"
          refine hP14.nx _ σ14 Ext.refl ⟨_, _, _, rfl, ?_⟩
          rw [hstep, if_neg hin, List.append_nil]; exact S14
      · rintro vv σ14 ⟨bx, bb, bo, rfl, S14⟩ Y14
        rw [hpvl, List.take_length] at S14
        refine Nx.nx (by assumption) _ ?_
        repeat walk_at "st"
        refine hP12.nx _ σ14 Y14 ⟨_, _, _, _, rfl, ?_⟩
        rw [List.take_add_one, hgi, List.flatMap_append]
        simpa using S14
    · rintro vv σ12 ⟨bx, bb, bo, bg, rfl, S12⟩ Y12
      rw [hgvl, List.take_length] at S12
      refine hPc _ ⟨bx, bb, bo, bg, σ12, rfl, X9.nil.trans (X10.nil.trans Y12), ?_⟩
      unfold adB; rw [hgrp]; exact S12
  rintro a' ⟨bx9, bb9, bo9, bg9, σ9, rfl, X9, S9⟩
  have hR9 := hR8.ext X9 (by decide)
  have hdv9 := hdv8.ext X9 (by decide)
  have hrv9 := hrv8.ext X9 (by decide)
  obtain ⟨hsu, hkl, hzs, hring, hruns⟩ := hp.all pl H ring _ hpl hHOk rfl
  have hrd : (SS.nil.adI (adA D.rounds pl ++ H ++ adB D.rounds pl)).ready = none := adI_ready
  generalize SS.nil.adI (adA D.rounds pl ++ H ++ adB D.rounds pl) = st at *
  clear hR8 hP8 S8 X9 hdv8 hrv8
  repeat walk_at "st"
  intro plx
  refine W_fcMeth lv S9 ?_
  repeat walk_at "st"
  refine ⟨Kp.inK (lv.K ▸ keep_find), W_fc lv (d := d) (hA'.vs.le (by omega)) S9 hsu hkl hzs hring (fun v10 σ10 X10 hv10 => ?_)⟩
  have hrv10 := hrv9.ext X10 (by decide)
  have hdv10 := hdv9.ext X10 (by decide)
  repeat walk_at "st"
  refine All.plain hrv10.plain fun u10 e10 => ?_
  refine W_neD hA' hv10.rd (by rw [e10]; exact hrv10.rd) Sh.ringD.ok Sh.ringD.ok ?_
  rw [eqv_self Sh.ringD]
  repeat walk_at "st"
  refine ⟨Kp.inK (lv.K ▸ keep_law 174 (by simp)), W_td lv (d := d) (hA'.vs.le (by omega)) (S9.ext X10 (by decide) (by decide)) hrd hsu hkl hzs hring (fun l11 σ11 X11 S11 hl11 => ?_)⟩
  have hrv11 := hrv10.ext X11 (by decide)
  have hdv11 := hdv10.ext X11 (by decide)
  have hR11 := (hR9.ext X10 (by decide)).ext X11 (by decide)
  repeat walk_at "st"
  refine All.plain hdv11.plain fun u11 e11 => ?_
  refine W_neD hA' hl11.rd (by rw [e11]; exact hdv11.rd) Sh.dueD.ok Sh.dueD.ok ?_
  rw [eqv_self Sh.dueD]
  repeat walk_at "st"
  refine ⟨Kp.inK (lv.K ▸ keep_law 181 (by simp)), rounds_spec lv (d := d) (N := 10000) (hA'.vs.le (by omega)) S11 hR11 (by have := hLe.rounds; omega) (by decide) hruns hsu hzs (fun σ12 st' X12 S12 hk12 hs12 => ?_)⟩
  have hrv12 := hrv11.ext X12 (by decide)
  repeat walk_at "st"
  intro ply
  refine W_fcMeth lv S12 ?_
  repeat walk_at "st"
  have hk' : st'.keys = st.keys := hk12
  have hs' : st'.su = st.su := hs12
  refine ⟨Kp.inK (lv.K ▸ keep_find), W_fc lv (d := d) (ring := ring) (hA'.vs.le (by omega)) S12 (by rw [hk', hs']; exact hsu) (by rw [hk']; exact hkl) (by rw [hs']; exact hzs) (by rw [hk', hs']; exact hring) (fun v13 σ13 X13 hv13 => ?_)⟩
  have hrv13 := hrv12.ext X13 (by decide)
  repeat walk_at "st"
  refine All.plain hrv13.plain fun u13 e13 => ?_
  refine W_eqD hA' hv13.rd (by rw [e13]; exact hrv13.rd) Sh.ringD.ok Sh.ringD.ok ?_
  rw [eqv_self Sh.ringD]
  repeat walk_at "st"
  exact h σ13
end
end Mine

namespace Mine

/-! counting down -/
section
variable {α : Type} [DecidableEq α]
noncomputable def zs (np : α → Int) : List α → List α
  | [] => []
  | s :: T => (if np s - 1 = 0 then [s] else []) ++ zs (fun y => if y = s then np s - 1 else np y) T
theorem zs_congr : ∀ {T : List α} {np np' : α → Int}, (∀ x ∈ T, np x = np' x) → zs np T = zs np' T
  | [], _, _, _ => rfl
  | s :: T, np, np', h => by
    have hs := h s (List.mem_cons_self ..)
    unfold zs
    rw [hs, zs_congr (T := T) (np := fun y => if y = s then np' s - 1 else np y) (np' := fun y => if y = s then np' s - 1 else np' y)]
    intro x hx
    rw [h x (List.mem_cons_of_mem _ hx)]
theorem zs_append : ∀ {S T : List α} {np : α → Int}, zs np (S ++ T) = zs np S ++ zs (fun x => np x - (S.count x : Int)) T
  | [], T, np => by simp [zs]
  | s :: S, T, np => by
    rw [List.cons_append, zs, zs, zs_append (S := S) (T := T), List.append_assoc]
    congr 2
    apply zs_congr
    intro x _
    rw [List.count_cons]
    by_cases e : x = s
    · subst e; simp; omega
    · simp [e, Ne.symm e]
theorem zs_none : ∀ {T : List α} {np : α → Int}, (∀ x ∈ T, (T.count x : Int) < np x) → zs np T = []
  | [], _, _ => rfl
  | s :: T, np, h => by
    have hs := h s (List.mem_cons_self ..)
    rw [List.count_cons_self] at hs
    unfold zs
    rw [if_neg (by omega), zs_none (T := T)]
    · rfl
    · intro x hx
      have := h x (List.mem_cons_of_mem _ hx)
      rw [List.count_cons] at this
      by_cases e : x = s
      · subst e; simp at this ⊢; omega
      · simp [e, Ne.symm e] at this ⊢; exact this
theorem zs_all : ∀ {B : List α} {np : α → Int}, B.Nodup → (∀ x ∈ B, np x = 1) → zs np B = B
  | [], _, _, _ => rfl
  | s :: B, np, hd, h => by
    rw [List.nodup_cons] at hd
    have hs := h s (List.mem_cons_self ..)
    unfold zs
    rw [if_pos (by omega), zs_all (B := B) hd.2]
    · rfl
    · intro x hx
      have hne : x ≠ s := fun z => hd.1 (z ▸ hx)
      simp only [if_neg hne]
      exact h x (List.mem_cons_of_mem _ hx)

/-- blocks: what is not yet ready, and behind it what gets ready -/
theorem zs_blocks : ∀ {bl : List (List α × List α)} {np : α → Int},
    (∀ x ∈ bl.flatMap (fun b => b.1 ++ b.2), (x ∈ bl.flatMap (·.2) → np x = ((bl.flatMap (fun b => b.1 ++ b.2)).count x : Int)) ∧ (x ∉ bl.flatMap (·.2) → ((bl.flatMap (fun b => b.1 ++ b.2)).count x : Int) < np x)) →
    (∀ bl1 b bl2, bl = bl1 ++ b :: bl2 → b.2.Nodup ∧ ∀ x ∈ b.2, x ∉ bl2.flatMap (fun b => b.1 ++ b.2)) →
    zs np (bl.flatMap (fun b => b.1 ++ b.2)) = bl.flatMap (·.2)
  | [], _, _, _ => rfl
  | b :: bl, np, h, hb => by
    obtain ⟨b1, b2⟩ := hb [] b bl rfl
    simp only [List.flatMap_cons] at h ⊢
    generalize hrest : bl.flatMap (fun b => b.1 ++ b.2) = rest at *
    generalize hB : bl.flatMap (·.2) = Bs at *
    have hBs : ∀ x, x ∈ Bs → x ∈ rest := fun x hx => by
      rw [← hB] at hx; rw [← hrest]
      obtain ⟨c, hc, hx⟩ := List.mem_flatMap.mp hx
      exact List.mem_flatMap.mpr ⟨c, hc, List.mem_append_right _ hx⟩
    rw [zs_append, zs_append]
    have e1 : zs np b.1 = [] := zs_none fun x hx => by
      have hm : x ∈ b.1 ++ b.2 ++ rest := by simp [hx]
      obtain ⟨p1, p2⟩ := h x hm
      by_cases q : x ∈ b.2 ++ Bs
      · have := p1 q
        rw [List.count_append, List.count_append] at this
        have h3 : 0 < b.2.count x + rest.count x := by
          rcases List.mem_append.mp q with z | z
          · have := List.count_pos_iff.mpr z; omega
          · have := List.count_pos_iff.mpr (hBs x z); omega
        omega
      · have := p2 q
        rw [List.count_append, List.count_append] at this; omega
    have e2 : zs (fun x => np x - (b.1.count x : Int)) b.2 = b.2 := zs_all b1 fun x hx => by
      have hm : x ∈ b.1 ++ b.2 ++ rest := by simp [hx]
      have := (h x hm).1 (by simp [hx])
      rw [List.count_append, List.count_append] at this
      have h0 : rest.count x = 0 := List.count_eq_zero.mpr (b2 x hx)
      have h1 : b.2.count x = 1 := by rw [b1.count, if_pos hx]
      omega
    rw [e1, e2, List.nil_append]
    congr 1
    subst hrest hB
    refine zs_blocks (fun x hx => ⟨fun hB => ?_, fun hB => ?_⟩) fun bl1 b' bl2 e => hb (b :: bl1) b' bl2 (by rw [e]; rfl)
    · have := (h x (by simp only [List.mem_append]; exact .inr hx)).1 (by simp only [List.mem_append]; exact .inr hB)
      rw [List.count_append] at this
      omega
    · have hnb : x ∉ b.2 := fun z => b2 x z hx
      have := (h x (by simp only [List.mem_append]; exact .inr hx)).2 (by simp only [List.mem_append, not_or]; exact ⟨hnb, hB⟩)
      rw [List.count_append] at this
      omega
end

/-! what done does -/
theorem decs_np {x : AV} : ∀ {T : List AV} {st : SS}, (T.foldl (fun (s : SS) p => s.dec p) st).np x = st.np x - (T.count x : Int)
  | [], _ => by simp
  | s :: T, st => by
    rw [List.foldl_cons, decs_np (T := T), List.count_cons]
    show fset st.np s (st.np s - 1) x - _ = _
    by_cases e : x = s
    · subst e; rw [fset_self]; simp; omega
    · rw [fset_ne e]; simp [Ne.symm e]
theorem decs_ready : ∀ {T : List AV} {st : SS} {r : List AV}, st.ready = some r → (T.foldl (fun s p => s.dec p) st).ready = some (r ++ zs st.np T)
  | [], _, _, h => by simp [zs, h]
  | s :: T, st, r, h => by
    have h1 : (st.dec s).ready = some (r ++ if st.np s - 1 = 0 then [s] else []) := by
      unfold SS.dec; dsimp only
      by_cases q : st.np s - 1 = 0
      · rw [if_pos q, if_pos q, h]; rfl
      · rw [if_neg q, if_neg q, h]; simp
    rw [List.foldl_cons, decs_ready h1, zs, List.append_assoc]
    rfl
theorem done_eff : ∀ {l : List AV} {st : SS} {r : List AV}, st.ready = some r → l.Nodup → (∀ v ∈ l, ∀ s ∈ st.su v, s ∉ l) →
    (∀ x, x ∉ l → (st.done l).np x = st.np x - ((l.flatMap st.su).count x : Int)) ∧ (st.done l).ready = some (r ++ zs st.np (l.flatMap st.su))
  | [], st, r, h, _, _ => ⟨fun x _ => by simp [SS.done], by simp [SS.done, zs, h]⟩
  | v :: l, st, r, h, hd, hs => by
    rw [List.nodup_cons] at hd
    have hsu : (st.done1 v).su = st.su := SS.done1_same.2.1
    have n1 : ∀ x, x ≠ v → (st.done1 v).np x = st.np x - ((st.su v).count x : Int) := fun x hx => by
      show ((st.su v).foldl (fun (s : SS) p => s.dec p) { st with np := fset st.np v (-2) }).np x = _
      rw [decs_np]; dsimp only; rw [fset_ne hx]
    have r1 : (st.done1 v).ready = some (r ++ zs st.np (st.su v)) := by
      show ((st.su v).foldl (fun (s : SS) p => s.dec p) { st with np := fset st.np v (-2) }).ready = _
      rw [decs_ready (st := { st with np := fset st.np v (-2) }) (r := r) h]
      congr 2
      apply zs_congr
      intro x hx
      have : x ≠ v := fun z => hs v (List.mem_cons_self ..) x hx (by rw [z]; simp)
      exact fset_ne this
    obtain ⟨i1, i2⟩ := done_eff (l := l) r1 hd.2 (by rw [hsu]; exact fun u hu s q z => hs u (List.mem_cons_of_mem _ hu) s q (List.mem_cons_of_mem _ z))
    rw [hsu] at i1 i2
    have e : st.done (v :: l) = (st.done1 v).done l := rfl
    refine ⟨fun x hx => ?_, ?_⟩
    · simp only [List.mem_cons, not_or] at hx
      rw [e, i1 x hx.2, n1 x hx.1, List.flatMap_cons, List.count_append]; omega
    · rw [e, i2, List.flatMap_cons, zs_append, List.append_assoc]
      congr 3
      apply zs_congr
      intro x hx
      refine n1 x fun z => ?_
      obtain ⟨u, hu, q⟩ := List.mem_flatMap.mp hx
      exact hs u (List.mem_cons_of_mem _ hu) x q (by rw [z]; simp)

theorem out_np {x : AV} : ∀ {l : List AV} {np : AV → Int}, (x ∉ l → SS.out np l x = np x) ∧ (x ∈ l → SS.out np l x = -1)
  | [], _ => ⟨fun _ => rfl, fun h => by cases h⟩
  | k :: l, np => by
    obtain ⟨a, b⟩ := out_np (l := l) (np := fset np k (-1)) (x := x)
    show (x ∉ k :: l → SS.out (fset np k (-1)) l x = _) ∧ (_ → SS.out (fset np k (-1)) l x = _)
    constructor
    · intro h
      simp only [List.mem_cons, not_or] at h
      rw [a h.2, fset_ne h.1]
    · intro h
      by_cases q : x ∈ l
      · exact b q
      · rw [a q]
        have : x = k := (List.mem_cons.mp h).resolve_right q
        rw [this, fset_self]

/-! edges -/
noncomputable abbrev Eds := List (Int × Int)
noncomputable def outE (E : Eds) (p : Int) : List Int := (E.filter fun e => decide (e.1 = p)).map (·.2)
noncomputable def inE (E : Eds) (dn : List Int) (x : Int) : Nat := E.countP fun e => decide (e.2 = x) && decide (e.1 ∉ dn)

theorem count_outE {E : Eds} {x : Int} : ∀ {r : List Int}, r.Nodup → (r.flatMap (outE E)).count x = E.countP fun e => decide (e.2 = x) && decide (e.1 ∈ r)
  | [], _ => by simp
  | v :: r, hd => by
    rw [List.nodup_cons] at hd
    rw [List.flatMap_cons, List.count_append, count_outE hd.2]
    have h1 : (outE E v).count x = E.countP fun e => decide (e.2 = x) && decide (e.1 = v) := by
      unfold outE
      rw [List.count, List.countP_map, List.countP_filter]
      apply List.countP_congr
      intro e _
      simp
    rw [h1]
    clear h1
    induction E with
    | nil => rfl
    | cons e E ih =>
      rw [List.countP_cons, List.countP_cons, List.countP_cons]
      have : ∀ a b c : Nat, a + b = c → True := fun _ _ _ _ => trivial
      by_cases q1 : e.2 = x
      · by_cases q2 : e.1 = v
        · have q3 : e.1 ∉ r := by rw [q2]; exact hd.1
          simp only [q1, q2, hd.1, decide_true, decide_false, Bool.and_true, Bool.and_false, List.mem_cons, true_or, if_true, Bool.false_eq_true, if_false] at ih ⊢
          omega
        · by_cases q3 : e.1 ∈ r
          · simp only [q1, q2, q3, decide_true, decide_false, Bool.and_true, Bool.and_false, List.mem_cons, or_true, if_true, Bool.false_eq_true, if_false] at ih ⊢
            omega
          · simp only [q1, q2, q3, decide_true, decide_false, Bool.and_true, Bool.and_false, List.mem_cons, or_self, if_true, Bool.false_eq_true, if_false] at ih ⊢
            omega
      · simp only [q1, decide_false, Bool.false_and, Bool.false_eq_true, if_false] at ih ⊢
        omega
theorem inE_split {E : Eds} {dn r : List Int} {x : Int} (hd : r.Nodup) (hx : ∀ v ∈ r, v ∉ dn) : inE E dn x = (r.flatMap (outE E)).count x + inE E (dn ++ r) x := by
  rw [count_outE hd]
  unfold inE
  induction E with
  | nil => rfl
  | cons e E ih =>
    rw [List.countP_cons, List.countP_cons, List.countP_cons]
    by_cases q1 : e.2 = x
    · by_cases q2 : e.1 ∈ r
      · have q3 := hx _ q2
        simp only [q1, q2, q3, decide_true, Bool.and_true, List.mem_append, or_true, not_true, not_false_iff, decide_false, Bool.and_false, if_true, Bool.false_eq_true, if_false] at ih ⊢
        omega
      · by_cases q3 : e.1 ∈ dn
        · simp only [q1, q2, q3, decide_true, Bool.and_true, List.mem_append, true_or, not_true, decide_false, Bool.and_false, if_true, Bool.false_eq_true, if_false] at ih ⊢
          omega
        · simp only [q1, q2, q3, decide_true, Bool.and_true, List.mem_append, or_self, not_false_iff, decide_false, Bool.and_false, if_true, Bool.false_eq_true, if_false] at ih ⊢
          omega
    · simp only [q1, decide_false, Bool.false_and, Bool.false_eq_true, if_false] at ih ⊢
      omega

theorem I2_count {l : List Int} {x : Int} : (I2 l).count (AV.int x) = l.count x := by
  unfold I2
  rw [List.count, List.countP_map, List.count]
  apply List.countP_congr
  intro e _
  simp
theorem I2_zs : ∀ {T : List Int} {np : AV → Int}, zs np (I2 T) = I2 (zs (fun x => np (.int x)) T)
  | [], _ => rfl
  | s :: T, np => by
    show zs np (.int s :: I2 T) = I2 (zs _ (s :: T))
    rw [zs, zs, I2_zs (T := T)]
    unfold I2
    rw [List.map_append]
    congr 1
    · split <;> rfl
    · congr 1
      apply zs_congr
      intro x _
      by_cases e : x = s
      · simp [e]
      · simp [e]
theorem I2_nodup {l : List Int} (h : l.Nodup) : (I2 l).Nodup := by
  unfold I2
  rw [List.nodup_iff_pairwise_ne] at *
  exact List.Pairwise.map _ (fun a b hab e => hab (by cases e; rfl)) h

/-- a round and what gets ready by it -/
noncomputable def RC (E : Eds) : List Int → List (List Int) → Prop
  | _, [] => True
  | dn, r :: rs => r ≠ [] ∧ r.Nodup ∧ (∀ v ∈ r, v ∉ dn) ∧ r.length ≤ 90 ∧ (∀ e ∈ E, e.1 ∈ r → e.2 ∉ dn ++ r) ∧ zs (fun x => (inE E dn x : Int)) (r.flatMap (outE E)) = rs.headD [] ∧ RC E (dn ++ r) rs

theorem runs_of {E : Eds} {N : Nat} : ∀ {rs : List (List Int)} {dn : List Int} {st : SS}, RC E dn rs → (∀ p, st.su (.int p) = I2 (outE E p)) → (∀ x, x ∉ dn → st.np (.int x) = (inE E dn x : Int)) → st.nfin = st.npass → (∀ r ∈ rs, ∀ x ∈ r, AV.int x ∈ st.keys) →
    (∀ k, (st.su k).length ≤ N) → st.ready = some (I2 (rs.headD [])) → RunsOk N st rs
  | [], dn, st, _, _, _, hn, _, _, hr => ⟨hr, by omega⟩
  | r :: rs, dn, st, hc, hsu, hnp, hn, hk, hN, hr => by
    obtain ⟨c1, c2, c3, c4, c5, c6, c7⟩ := hc
    have hfm : (I2 r).flatMap st.su = I2 (r.flatMap (outE E)) := by
      unfold I2
      rw [List.flatMap_map, List.map_flatMap]
      congr 1
      funext p
      exact hsu p
    have hT : ∀ x ∈ r.flatMap (outE E), x ∉ dn ++ r := fun x hx => by
      obtain ⟨v, hv, hx⟩ := List.mem_flatMap.mp hx
      unfold outE at hx
      obtain ⟨e, he, rfl⟩ := List.mem_map.mp hx
      rw [List.mem_filter, decide_eq_true_eq] at he
      exact c5 e he.1 (by rw [he.2]; exact hv)
    have hdis : ∀ v ∈ I2 r, ∀ s ∈ (st.getReady (I2 r)).su v, s ∉ I2 r := fun v hv s hs hm => by
      obtain ⟨p, hp, rfl⟩ := List.mem_map.mp hv
      obtain ⟨q, hq, rfl⟩ := List.mem_map.mp hm
      have : AV.int q ∈ I2 (outE E p) := by rw [← hsu p]; exact hs
      have : q ∈ r.flatMap (outE E) := List.mem_flatMap.mpr ⟨p, hp, I2_mem.mp this⟩
      exact hT q this (List.mem_append_right _ hq)
    have hgr : (st.getReady (I2 r)).ready = some [] := rfl
    refine ⟨hr, .inr c1, c4, fun k hk' => ?_, fun i k hi => ?_, ?_⟩
    · obtain ⟨p, hp, rfl⟩ := List.mem_map.mp hk'
      exact hk r (List.mem_cons_self ..) p hp
    · have hsub : ∀ y, y ∈ (I2 r).take i → y ∈ I2 r := fun y hy => List.mem_of_mem_take hy
      obtain ⟨a, _⟩ := done_eff (l := (I2 r).take i) hgr ((I2_nodup c2).sublist (List.take_sublist ..)) fun v hv s hs hm => hdis v (hsub v hv) s hs (hsub s hm)
      have hkm : k ∈ I2 r := List.mem_of_getElem? hi
      have hkn : k ∉ (I2 r).take i := fun z => by
        obtain ⟨j, hj, e⟩ := List.mem_take_iff_getElem.mp z
        have h1 : (I2 r)[j]? = some k := by rw [List.getElem?_eq_getElem (by omega), e]
        have := nodup_idx' (I2_nodup c2) h1 hi
        omega
      rw [a k hkn]
      have h0 : (((I2 r).take i).flatMap (st.getReady (I2 r)).su).count k = 0 := List.count_eq_zero.mpr fun z => by
        obtain ⟨v, hv, hs⟩ := List.mem_flatMap.mp z
        exact hdis v (hsub v hv) k hs hkm
      rw [h0]
      show SS.out st.np (I2 r) k - 0 = -1
      rw [out_np.2 hkm]; rfl
    · obtain ⟨a, b⟩ := done_eff (l := I2 r) hgr (I2_nodup c2) hdis
      have hsame := SS.done_same (l := I2 r) (st := st.getReady (I2 r)) (N := N) hN
      have hfm2 : (I2 r).flatMap (st.getReady (I2 r)).su = I2 (r.flatMap (outE E)) := hfm
      have hout : ∀ x, x ∉ dn ++ r → (st.getReady (I2 r)).np (.int x) = (inE E dn x : Int) := fun x hx => by
        show SS.out st.np (I2 r) (.int x) = _
        rw [List.mem_append, not_or] at hx
        rw [out_np.1 (fun z => hx.2 (I2_mem.mp z)), hnp x hx.1]
      refine runs_of c7 (fun p => by rw [hsame.2.1]; exact hsu p) (fun x hx => ?_) ?_ (fun r' hr' x hx => by rw [hsame.1]; exact hk r' (List.mem_cons_of_mem _ hr') x hx) (fun k => by rw [hsame.2.1]; exact hN k) ?_
      · have hxr : AV.int x ∉ I2 r := fun z => hx (List.mem_append_right _ (I2_mem.mp z))
        rw [a _ hxr, hout x hx, hfm2, I2_count, inE_split c2 c3]; omega
      · rw [hsame.2.2.2.2.1, hsame.2.2.2.1]
        show st.nfin + _ = st.npass + _
        rw [hn]
      · rw [b, hfm2, I2_zs, List.nil_append]
        congr 2
        rw [← c6]
        apply zs_congr
        intro x hx
        exact hout x (hT x hx)
end Mine

namespace Mine

/-! what is drawn -/
structure DS.Inv (s : DS) : Prop where
  nd : s.row.Nodup
  held : s.held = s.row.filter fun x => decide (x % 5 = 4)
  flat : s.rounds.flatten = s.row.filter fun x => !decide (x % 5 = 4)
  ne : ∀ r ∈ s.rounds, r ≠ []
theorem addR_flat {rs : List (List Int)} {x : Int} : (addR rs x).flatten = rs.flatten ++ [x] := by
  unfold addR
  split
  · simp
  · rename_i q
    have hne : rs ≠ [] := fun z => q (.inl z)
    have hs : rs.dropLast ++ [rs.getLast hne] = rs := List.dropLast_concat_getLast hne
    rw [List.getLastD_eq_getLast?, List.getLast?_eq_some_getLast hne]
    rw [List.flatten_append]
    conv => rhs; rw [← hs, List.flatten_append]
    simp
theorem addR_ne {rs : List (List Int)} {x : Int} (h : ∀ r ∈ rs, r ≠ []) : ∀ r ∈ addR rs x, r ≠ [] := by
  intro r hr
  unfold addR at hr
  split at hr
  · rcases List.mem_append.mp hr with hr | hr
    · exact h r hr
    · rw [List.mem_singleton.mp hr]; simp
  · rcases List.mem_append.mp hr with hr | hr
    · exact h r (List.dropLast_subset _ hr)
    · rw [List.mem_singleton.mp hr]; simp
theorem DS.Inv.step {s : DS} {x : Int} (h : s.Inv) : (s.step x).Inv := by
  unfold DS.step
  split
  · exact h
  · rename_i hx
    have hnd : (s.row ++ [x]).Nodup := List.nodup_append.mpr ⟨h.nd, by simp, fun a ha b hb e => hx (by rw [← List.mem_singleton.mp hb, ← e]; exact ha)⟩
    split
    · rename_i h4
      refine ⟨hnd, ?_, ?_, h.ne⟩
      · dsimp only; rw [List.filter_append, h.held]; simp [h4]
      · dsimp only; rw [List.filter_append, h.flat]; simp [h4]
    · rename_i h4
      refine ⟨hnd, ?_, ?_, addR_ne h.ne⟩
      · dsimp only; rw [List.filter_append, h.held]; simp [h4]
      · dsimp only; rw [addR_flat, List.filter_append, h.flat]; simp [h4]
theorem DS.Inv.fold : ∀ {xs : List Int} {s : DS}, s.Inv → (xs.foldl DS.step s).Inv
  | [], _, h => h
  | x :: xs, s, h => DS.Inv.fold (xs := xs) h.step
theorem DS.mem_row : ∀ {xs : List Int} {s : DS} {x : Int}, x ∈ xs ∨ x ∈ s.row → x ∈ (xs.foldl DS.step s).row
  | [], s, x, h => h.resolve_left (by simp)
  | y :: xs, s, x, h => by
    refine DS.mem_row (xs := xs) (s := s.step y) ?_
    have : ∀ {z}, z ∈ s.row ∨ z = y → z ∈ (s.step y).row := fun {z} hz => by
      unfold DS.step
      split
      · rename_i q; rcases hz with hz | rfl; exact hz; exact q
      · split <;> (dsimp only; rw [List.mem_append, List.mem_singleton]; exact hz)
    rcases h with h | h
    · rcases List.mem_cons.mp h with rfl | h
      · exact .inr (this (.inr rfl))
      · exact .inl h
    · exact .inr (this (.inl h))

/-! the sorter that was told a row of adds -/
noncomputable def eds (l : Adds) : Eds := l.flatMap fun q => q.2.map fun p => (p, q.1)
noncomputable def nms (l : Adds) : List Int := l.flatMap fun q => q.1 :: q.2
noncomputable def nm (ks ns : List AV) : List AV := ns.foldl (fun ks n => if n ∈ ks then ks else ks ++ [n]) ks
theorem eds_append {l m : Adds} : eds (l ++ m) = eds l ++ eds m := by unfold eds; rw [List.flatMap_append]
theorem nms_append {l m : Adds} : nms (l ++ m) = nms l ++ nms m := by unfold nms; rw [List.flatMap_append]
theorem nm_append {ks a b : List AV} : nm ks (a ++ b) = nm (nm ks a) b := by unfold nm; rw [List.foldl_append]
theorem nm_mem : ∀ {ns ks : List AV} {x : AV}, x ∈ nm ks ns ↔ x ∈ ks ∨ x ∈ ns
  | [], ks, x => by simp [nm]
  | n :: ns, ks, x => by
    show x ∈ nm (if n ∈ ks then ks else ks ++ [n]) ns ↔ _
    rw [nm_mem (ns := ns)]
    by_cases q : n ∈ ks
    · rw [if_pos q, List.mem_cons]
      exact ⟨fun h => h.elim .inl (.inr ∘ .inr), fun h => h.elim .inl fun h => h.elim (fun e => .inl (e ▸ q)) .inr⟩
    · rw [if_neg q, List.mem_append, List.mem_singleton, List.mem_cons, or_assoc]
theorem nm_pre : ∀ {ns ks : List AV}, ∃ t, nm ks ns = ks ++ t
  | [], ks => ⟨[], by simp [nm]⟩
  | n :: ns, ks => by
    obtain ⟨t, ht⟩ := nm_pre (ns := ns) (ks := if n ∈ ks then ks else ks ++ [n])
    by_cases q : n ∈ ks
    · rw [if_pos q] at ht; exact ⟨t, by show nm (if n ∈ ks then ks else ks ++ [n]) ns = _; rw [if_pos q]; exact ht⟩
    · rw [if_neg q] at ht; exact ⟨n :: t, by show nm (if n ∈ ks then ks else ks ++ [n]) ns = _; rw [if_neg q, ht]; simp⟩
theorem nm_nodup : ∀ {ns ks : List AV}, ks.Nodup → (nm ks ns).Nodup
  | [], ks, h => h
  | n :: ns, ks, h => by
    refine nm_nodup (ns := ns) (ks := if n ∈ ks then ks else ks ++ [n]) ?_
    by_cases q : n ∈ ks
    · rw [if_pos q]; exact h
    · rw [if_neg q]; exact List.nodup_append.mpr ⟨h, by simp, fun a ha b hb e => q (by rw [← List.mem_singleton.mp hb, ← e]; exact ha)⟩

theorem succs_su {k q : AV} : ∀ {ps : List AV} {st : SS}, (ps.foldl (fun (s : SS) p => s.succ k p) st).su q = st.su q ++ (ps.filter fun p => decide (p = q)).map fun _ => k
  | [], st => by simp
  | p :: ps, st => by
    rw [List.foldl_cons, succs_su (ps := ps)]
    show fset st.su p (st.su p ++ [k]) q ++ _ = _
    by_cases e : q = p
    · subst e; rw [fset_self, List.filter_cons]; simp
    · rw [fset_ne e, List.filter_cons]; simp [Ne.symm e]
theorem succs_np {k : AV} : ∀ {ps : List AV} {st : SS}, (ps.foldl (fun (s : SS) p => s.succ k p) st).np = st.np
  | [], _ => rfl
  | p :: ps, st => succs_np (ps := ps) (st := st.succ k p)
theorem succs_keys {k : AV} : ∀ {ps : List AV} {st : SS}, (ps.foldl (fun (s : SS) p => s.succ k p) st).keys = nm st.keys ps
  | [], _ => rfl
  | p :: ps, st => succs_keys (ps := ps) (st := st.succ k p)
theorem add_su {st : SS} {k q : AV} {ps : List AV} : (st.add k ps).su q = st.su q ++ (ps.filter fun p => decide (p = q)).map fun _ => k := succs_su (st := st.addN k ps.length)
theorem add_np {st : SS} {k q : AV} {ps : List AV} : (st.add k ps).np q = if q = k then st.np q + ps.length else st.np q := by
  show ((ps.foldl (fun (s : SS) p => s.succ k p) (st.addN k ps.length)).np) q = _
  rw [succs_np]
  show fset st.np k (st.np k + ps.length) q = _
  by_cases e : q = k
  · subst e; rw [fset_self, if_pos rfl]
  · rw [fset_ne e, if_neg e]
theorem add_keys {st : SS} {k : AV} {ps : List AV} : (st.add k ps).keys = nm st.keys (k :: ps) := succs_keys (st := st.addN k ps.length)

theorem outE_cons {q : Int × List Int} {l : Adds} {p : Int} : outE (eds (q :: l)) p = ((q.2.filter fun x => decide (x = p)).map fun _ => q.1) ++ outE (eds l) p := by
  unfold outE eds
  rw [List.flatMap_cons, List.filter_append, List.map_append]
  congr 1
  rw [List.filter_map, List.map_map]; rfl
theorem adI_su {p : Int} : ∀ {l : Adds} {st : SS}, (st.adI l).su (.int p) = st.su (.int p) ++ I2 (outE (eds l) p)
  | [], st => by simp [SS.adI, eds, outE, I2]
  | q :: l, st => by
    show ((st.add (.int q.1) (I2 q.2)).adI l).su (.int p) = _
    rw [adI_su (l := l), add_su, outE_cons, List.append_assoc]
    unfold I2
    rw [List.map_append, List.filter_map, List.map_map, List.map_map]
    congr 2
    have : ((fun p_1 => decide (p_1 = AV.int p)) ∘ AV.int) = fun x => decide (x = p) := by funext x; simp
    rw [this]; rfl
theorem adI_su_other {k : AV} (hk : ∀ p, k ≠ .int p) : ∀ {l : Adds} {st : SS}, (st.adI l).su k = st.su k
  | [], _ => rfl
  | q :: l, st => by
    show ((st.add (.int q.1) (I2 q.2)).adI l).su k = _
    rw [adI_su_other hk (l := l), add_su]
    have : ((I2 q.2).filter fun p => decide (p = k)) = [] := by
      rw [List.filter_eq_nil_iff]
      intro a ha
      obtain ⟨i, _, rfl⟩ := List.mem_map.mp ha
      simp only [decide_eq_true_eq]
      exact fun z => hk i z.symm
    rw [this]; simp
theorem adI_np {x : Int} : ∀ {l : Adds} {st : SS}, (st.adI l).np (.int x) = st.np (.int x) + (inE (eds l) [] x : Int)
  | [], st => by simp [SS.adI, eds, inE]
  | q :: l, st => by
    show ((st.add (.int q.1) (I2 q.2)).adI l).np (.int x) = _
    rw [adI_np (l := l), add_np]
    have h1 : inE (eds (q :: l)) [] x = (if x = q.1 then q.2.length else 0) + inE (eds l) [] x := by
      unfold inE eds
      rw [List.flatMap_cons, List.countP_append, List.countP_map]
      congr 1
      by_cases e : x = q.1
      · rw [if_pos e, List.countP_eq_length.mpr]; intro a _; simp [e]
      · rw [if_neg e, List.countP_eq_zero.mpr]; intro a _; simp [Ne.symm e]
    rw [h1]
    by_cases e : x = q.1
    · rw [if_pos (by rw [e]), if_pos e]; simp; omega
    · rw [if_neg (by simpa using e), if_neg e]; omega
theorem adI_keys : ∀ {l : Adds} {st : SS}, (st.adI l).keys = nm st.keys (I2 (nms l))
  | [], st => by simp [SS.adI, nms, I2, nm]
  | q :: l, st => by
    show ((st.add (.int q.1) (I2 q.2)).adI l).keys = _
    rw [adI_keys (l := l), add_keys, ← nm_append]
    congr 1
    unfold nms I2
    simp
theorem mem_outE {E : Eds} {p x : Int} : x ∈ outE E p ↔ (p, x) ∈ E := by
  unfold outE
  rw [List.mem_map]
  constructor
  · rintro ⟨e, he, rfl⟩
    rw [List.mem_filter, decide_eq_true_eq] at he
    rw [← he.2]; exact he.1
  · intro h
    exact ⟨(p, x), List.mem_filter.mpr ⟨h, by simp⟩, rfl⟩
theorem mem_eds {l : Adds} {p x : Int} : (p, x) ∈ eds l ↔ ∃ ps, (x, ps) ∈ l ∧ p ∈ ps := by
  unfold eds
  rw [List.mem_flatMap]
  constructor
  · rintro ⟨q, hq, h⟩
    obtain ⟨a, ha, e⟩ := List.mem_map.mp h
    cases e
    exact ⟨q.2, hq, ha⟩
  · rintro ⟨ps, hq, hp⟩
    exact ⟨(x, ps), hq, List.mem_map.mpr ⟨p, hp, rfl⟩⟩

/-! the plan by rounds -/
theorem Seg.facts {pre ahead xs : List Int} {es : List PE} {a : Nat} (h : Seg pre ahead xs es a) :
    es.map (·.x) = xs ∧ (∀ e ∈ es, ∃ p, ahead[p]? = some e.b ∧ p ≤ a ∧ ∀ o ∈ e.os, o ∈ pre ++ ahead.take (p + 1)) ∧ (ahead.Nodup → ahead.flatMap (fun v => es.filter fun (e : PE) => decide (e.b = v)) = es) := by
  induction h with
  | nil => exact ⟨rfl, (fun e he => by cases he), fun _ => by simp⟩
  | @snoc xs es a a' x b os hs haa hb hos hl ih =>
    obtain ⟨i1, i2, i3⟩ := ih
    refine ⟨by simp [i1], fun e he => ?_, fun hnd => ?_⟩
    · rcases List.mem_append.mp he with he | he
      · obtain ⟨p, h1, h2, h3⟩ := i2 e he
        exact ⟨p, h1, by omega, h3⟩
      · rw [List.mem_singleton.mp he]
        exact ⟨a', hb, Nat.le_refl _, hos⟩
    · obtain ⟨hal, hbe⟩ := List.getElem?_eq_some_iff.mp hb
      have hsplit : ahead = ahead.take a' ++ b :: ahead.drop (a' + 1) := by
        rw [← hbe, List.getElem_cons_drop, List.take_append_drop]
      have inj : ∀ {i j : Nat} {v : Int}, ahead[i]? = some v → ahead[j]? = some v → i = j := fun h1 h2 => nodup_idx' hnd h1 h2
      have f1 : ∀ v ∈ ahead.take a', ((es ++ [(⟨x, b, os⟩ : PE)]).filter fun (e : PE) => decide (e.b = v)) = es.filter fun (e : PE) => decide (e.b = v) := fun v hv => by
        have : b ≠ v := fun e => by
          obtain ⟨j, hj, e2⟩ := List.mem_take_iff_getElem.mp hv
          have h1 : ahead[j]? = some b := by rw [List.getElem?_eq_getElem (by omega), e2, e]
          have := inj h1 hb; omega
        rw [List.filter_append]; simp [this]
      have f2 : ∀ v ∈ ahead.drop (a' + 1), (es.filter fun (e : PE) => decide (e.b = v)) = [] ∧ ((es ++ [(⟨x, b, os⟩ : PE)]).filter fun (e : PE) => decide (e.b = v)) = [] := fun v hv => by
        obtain ⟨j, hj, e2⟩ := List.mem_drop_iff_getElem.mp hv
        have hjv : ahead[a' + 1 + j]? = some v := by rw [List.getElem?_eq_getElem (by omega), e2]
        have h1 : (es.filter fun (e : PE) => decide (e.b = v)) = [] := by
          rw [List.filter_eq_nil_iff]
          intro e he
          simp only [decide_eq_true_eq]
          intro z
          obtain ⟨p, q1, q2, _⟩ := i2 e he
          rw [z] at q1
          have := inj q1 hjv; omega
        have h2 : b ≠ v := fun e => by
          rw [← e] at hjv
          have := inj hb hjv; omega
        exact ⟨h1, by rw [List.filter_append, h1]; simp [h2]⟩
      have d1 : (ahead.drop (a' + 1)).flatMap (fun v => (es ++ [(⟨x, b, os⟩ : PE)]).filter fun (e : PE) => decide (e.b = v)) = [] := List.flatMap_eq_nil_iff.mpr fun v hv => (f2 v hv).2
      have d2 : (ahead.drop (a' + 1)).flatMap (fun v => es.filter fun (e : PE) => decide (e.b = v)) = [] := List.flatMap_eq_nil_iff.mpr fun v hv => (f2 v hv).1
      have d3 : (ahead.take a').flatMap (fun v => (es ++ [(⟨x, b, os⟩ : PE)]).filter fun (e : PE) => decide (e.b = v)) = (ahead.take a').flatMap (fun v => es.filter fun (e : PE) => decide (e.b = v)) := by
        rw [List.flatMap_def, List.flatMap_def, List.map_congr_left f1]
      have := i3 hnd
      rw [hsplit, List.flatMap_append, List.flatMap_cons, d2, List.append_nil] at this
      rw [hsplit, List.flatMap_append, List.flatMap_cons, d1, d3, List.append_nil, List.filter_append]
      conv => rhs; rw [← this]
      simp
end Mine

namespace Mine

theorem PlanOk.segs {rs : List (List Int)} {pl : List PE} (h : PlanOk rs pl) : ∃ segs : List (List PE), pl = segs.flatten ∧ segs.length + 1 = rs.length ∧ ∀ (k : Nat) (r r' : List Int), rs[k]? = some r → rs[k + 1]? = some r' → ∃ es a, segs[k]? = some es ∧ Seg (rs.take k).flatten r r' es a := by
  induction h with
  | one => exact ⟨[], rfl, rfl, fun k r r' _ h2 => by simp at h2⟩
  | @snoc rs ahead r pl es a hp hs ih =>
    obtain ⟨segs, h1, h2, h3⟩ := ih
    have hl : segs.length = rs.length := by simpa using h2
    refine ⟨segs ++ [es], by rw [h1]; simp, by simp [hl], fun k q q' hq hq' => ?_⟩
    by_cases hk : k < rs.length
    · have hk1 : k < (rs ++ [ahead]).length := by simp; omega
      have hk2 : k + 1 < (rs ++ [ahead]).length := by simp; omega
      rw [List.getElem?_append_left hk1] at hq
      rw [List.getElem?_append_left hk2] at hq'
      obtain ⟨es', a', h4, h5⟩ := h3 k q q' hq hq'
      refine ⟨es', a', by rw [List.getElem?_append_left (by omega)]; exact h4, ?_⟩
      rw [List.take_append_of_le_length (by simp; omega)]; exact h5
    · have hk1 : k + 1 < (rs ++ [ahead] ++ [r]).length := (List.getElem?_eq_some_iff.mp hq').1
      have hke : k = rs.length := by simp at hk1; omega
      subst hke
      rw [List.append_assoc, List.getElem?_append_right (Nat.le_refl _), Nat.sub_self] at hq
      rw [List.append_assoc, List.getElem?_append_right (by omega), Nat.add_sub_cancel_left] at hq'
      simp at hq hq'
      subst hq hq'
      refine ⟨es, a, by rw [← hl]; simp, ?_⟩
      rw [List.append_assoc, List.take_left]; exact hs

theorem flatMap_single {α β : Type} {F : α → List β} {l : List α} {i : Nat} {g : α} (h : l[i]? = some g) (h0 : ∀ (j : Nat) (g' : α), l[j]? = some g' → j ≠ i → F g' = []) : l.flatMap F = F g ∧ l.reverse.flatMap F = F g := by
  obtain ⟨hi, e⟩ := List.getElem?_eq_some_iff.mp h
  have hs : l = l.take i ++ g :: l.drop (i + 1) := by rw [← e, List.getElem_cons_drop, List.take_append_drop]
  have z1 : (l.take i).flatMap F = [] := List.flatMap_eq_nil_iff.mpr fun x hx => by
    obtain ⟨j, hj, e⟩ := List.mem_take_iff_getElem.mp hx
    exact h0 j x (by rw [List.getElem?_eq_getElem (by omega), e]) (by omega)
  have z2 : (l.drop (i + 1)).flatMap F = [] := List.flatMap_eq_nil_iff.mpr fun x hx => by
    obtain ⟨j, hj, e⟩ := List.mem_drop_iff_getElem.mp hx
    exact h0 (i + 1 + j) x (by rw [List.getElem?_eq_getElem (by omega), e]) (by omega)
  have z1' : (l.take i).reverse.flatMap F = [] := List.flatMap_eq_nil_iff.mpr fun x hx => List.flatMap_eq_nil_iff.mp z1 x (List.mem_reverse.mp hx)
  have z2' : (l.drop (i + 1)).reverse.flatMap F = [] := List.flatMap_eq_nil_iff.mpr fun x hx => List.flatMap_eq_nil_iff.mp z2 x (List.mem_reverse.mp hx)
  constructor
  · rw [hs, List.flatMap_append, List.flatMap_cons, z1, z2]; simp
  · rw [hs, List.reverse_append, List.reverse_cons, List.flatMap_append, List.flatMap_append, z1', z2']; simp

theorem rnd_inj {rs : List (List Int)} (hnd : rs.flatten.Nodup) {i j : Nat} {r r' : List Int} {x : Int} (hi : rs[i]? = some r) (hj : rs[j]? = some r') (hx : x ∈ r) (hx' : x ∈ r') : i = j := by
  have hp := (List.pairwise_flatten.mp hnd).2
  obtain ⟨hil, rfl⟩ := List.getElem?_eq_some_iff.mp hi
  obtain ⟨hjl, rfl⟩ := List.getElem?_eq_some_iff.mp hj
  rcases Nat.lt_trichotomy i j with q | q | q
  · exact absurd rfl (List.pairwise_iff_getElem.mp hp i j hil hjl q x hx x hx')
  · exact q
  · exact absurd rfl (List.pairwise_iff_getElem.mp hp j i hjl hil q x hx' x hx)
theorem mem_takeF {rs : List (List Int)} {m : Nat} {x : Int} : x ∈ (rs.take m).flatten ↔ ∃ i r, i < m ∧ rs[i]? = some r ∧ x ∈ r := by
  rw [List.mem_flatten]
  constructor
  · rintro ⟨r, hr, hx⟩
    obtain ⟨j, hj, e⟩ := List.mem_take_iff_getElem.mp hr
    exact ⟨j, r, by omega, by rw [List.getElem?_eq_getElem (by omega), e], hx⟩
  · rintro ⟨i, r, hi, hr, hx⟩
    obtain ⟨hil, e⟩ := List.getElem?_eq_some_iff.mp hr
    exact ⟨r, List.mem_take_iff_getElem.mpr ⟨i, by omega, e⟩, hx⟩

theorem outE_append {E F : Eds} {p : Int} : outE (E ++ F) p = outE E p ++ outE F p := by unfold outE; rw [List.filter_append, List.map_append]

/-- what the adds of the law are -/
structure Told (rs : List (List Int)) (held : List Int) (pl : List PE) (segs : List (List PE)) (E EN EB : Eds) : Prop where
  nd : rs.flatten.Nodup
  apart : ∀ x ∈ held, x ∉ rs.flatten
  ne : ∀ r ∈ rs, r ≠ []
  small : ∀ r ∈ rs, r.length ≤ 90
  pls : pl = segs.flatten
  len : segs.length + 1 = rs.length
  seg : ∀ (k : Nat) (r r' : List Int), rs[k]? = some r → rs[k + 1]? = some r' → ∃ es a, segs[k]? = some es ∧ Seg (rs.take k).flatten r r' es a
  hE : E = EN ++ EB
  hB : EB = eds (adB rs pl)
  hN : ∀ p x, (p, x) ∈ EN → (∃ e ∈ pl, e.x = x ∧ p ∈ e.os) ∨ (x ∈ held ∧ ∃ h', h' ∈ held ∧ (h', x) ∈ EN)

section
variable {rs : List (List Int)} {held : List Int} {pl : List PE} {segs : List (List PE)} {E EN EB : Eds}

theorem Told.loc (T : Told rs held pl segs E EN EB) {e : PE} (he : e ∈ pl) : ∃ (k : Nat) (r r' : List Int) (es : List PE) (a : Nat), rs[k]? = some r ∧ rs[k + 1]? = some r' ∧ segs[k]? = some es ∧ e ∈ es ∧ Seg (rs.take k).flatten r r' es a := by
  rw [T.pls] at he
  obtain ⟨es, hes, hm⟩ := List.mem_flatten.mp he
  obtain ⟨k, hk, hke⟩ := List.mem_iff_getElem.mp hes
  have hl := T.len
  obtain ⟨es', a, h1, h2⟩ := T.seg k rs[k] rs[k + 1] (List.getElem?_eq_getElem (by omega)) (List.getElem?_eq_getElem (by omega))
  rw [List.getElem?_eq_getElem hk, hke] at h1
  cases h1
  exact ⟨k, _, _, es, a, List.getElem?_eq_getElem (by omega), List.getElem?_eq_getElem (by omega), by rw [List.getElem?_eq_getElem hk, hke], hm, h2⟩
/-- an entry is of the round of its node -/
theorem Told.at_ (T : Told rs held pl segs E EN EB) {e : PE} (he : e ∈ pl) {k : Nat} {r r' : List Int} (hr : rs[k]? = some r) (hr' : rs[k + 1]? = some r') (hx : e.x ∈ r') : ∃ es a p, segs[k]? = some es ∧ e ∈ es ∧ Seg (rs.take k).flatten r r' es a ∧ r[p]? = some e.b ∧ ∀ o ∈ e.os, o ∈ (rs.take k).flatten ++ r.take (p + 1) := by
  obtain ⟨k2, q, q', es, a, h1, h2, h3, h4, h5⟩ := T.loc he
  obtain ⟨f1, f2, _⟩ := h5.facts
  have hm : e.x ∈ q' := by rw [← f1]; exact List.mem_map_of_mem h4
  have hk : k2 + 1 = k + 1 := rnd_inj T.nd h2 hr' hm hx
  have hk : k2 = k := by omega
  subst hk
  rw [hr] at h1; cases h1
  rw [hr'] at h2; cases h2
  obtain ⟨p, g1, _, g3⟩ := f2 e h4
  exact ⟨es, a, p, h3, h4, h5, g1, g3⟩
theorem Told.mB (T : Told rs held pl segs E EN EB) {p x : Int} : (p, x) ∈ EB ↔ ∃ e ∈ pl, e.x = x ∧ e.b = p ∧ ∃ g ∈ rs.tail, x ∈ g := by
  rw [T.hB, mem_eds]
  unfold adB grpB
  constructor
  · rintro ⟨ps, h1, h2⟩
    obtain ⟨g, hg, h1⟩ := List.mem_flatMap.mp h1
    obtain ⟨e, he, q⟩ := List.mem_map.mp h1
    cases q
    rw [List.mem_filter, decide_eq_true_eq] at he
    exact ⟨e, he.1, rfl, (List.mem_singleton.mp h2).symm, g, List.mem_reverse.mp hg, he.2⟩
  · rintro ⟨e, he, rfl, rfl, g, hg, hx⟩
    exact ⟨[e.b], List.mem_flatMap.mpr ⟨g, List.mem_reverse.mpr hg, List.mem_map.mpr ⟨e, List.mem_filter.mpr ⟨he, by simpa using hx⟩, rfl⟩⟩, by simp⟩
theorem outB {pl : List PE} {g : List Int} {v : Int} : outE (eds (grpB pl g)) v = ((pl.filter fun e => decide (e.x ∈ g)).filter fun e => decide (e.b = v)).map (·.x) := by
  unfold grpB
  generalize (pl.filter fun e => decide (e.x ∈ g)) = l
  induction l with
  | nil => rfl
  | cons e l ih =>
    rw [List.map_cons, outE_cons, ih, List.filter_cons]
    by_cases q : e.b = v <;> simp [q]
theorem eds_flatMap {α : Type} {f : α → Adds} {l : List α} {v : Int} : outE (eds (l.flatMap f)) v = l.flatMap fun g => outE (eds (f g)) v := by
  induction l with
  | nil => rfl
  | cons a l ih => rw [List.flatMap_cons, eds_append, outE_append, ih, List.flatMap_cons]
theorem Told.out (T : Told rs held pl segs E EN EB) {m : Nat} {r : List Int} {v : Int} (hr : rs[m]? = some r) (hv : v ∈ r) :
    (∀ r' es, rs[m + 1]? = some r' → segs[m]? = some es → outE EB v = (es.filter fun e => decide (e.b = v)).map (·.x)) ∧ (rs[m + 1]? = none → outE EB v = []) := by
  have key : ∀ (j : Nat) (g : List Int), rs.tail[j]? = some g → j ≠ m → outE (eds (grpB pl g)) v = [] := fun j g hg hj => by
    rw [outB]
    rw [List.getElem?_tail] at hg
    have : ((pl.filter fun e => decide (e.x ∈ g)).filter fun e => decide (e.b = v)) = [] := by
      rw [List.filter_eq_nil_iff]
      intro e he
      rw [List.mem_filter, decide_eq_true_eq] at he
      simp only [decide_eq_true_eq]
      intro hb
      have hjl : j + 1 < rs.length := (List.getElem?_eq_some_iff.mp hg).1
      obtain ⟨es, a, p, _, _, _, h4, _⟩ := T.at_ he.1 (k := j) (List.getElem?_eq_getElem (by omega)) hg he.2
      exact hj (rnd_inj T.nd (List.getElem?_eq_getElem (by omega)) hr (List.mem_of_getElem? h4) (hb ▸ hv))
    rw [this]; rfl
  have hEB : outE EB v = rs.tail.reverse.flatMap fun g => outE (eds (grpB pl g)) v := by rw [T.hB]; unfold adB; exact eds_flatMap
  constructor
  · intro r' es hr' hes
    have := (flatMap_single (F := fun g => outE (eds (grpB pl g)) v) (l := rs.tail) (i := m) (g := r') (by rw [List.getElem?_tail]; exact hr') key).2
    rw [hEB, this, outB]
    congr 2
    have hf := (flatMap_single (F := fun (s : List PE) => s.filter fun e => decide (e.x ∈ r')) (l := segs) (i := m) (g := es) hes fun j s hs hj => by
      rw [List.filter_eq_nil_iff]
      intro e he
      simp only [decide_eq_true_eq]
      intro hx
      have hl := T.len
      have hjl := (List.getElem?_eq_some_iff.mp hs).1
      obtain ⟨es', a, h1, h2⟩ := T.seg j rs[j] rs[j + 1] (List.getElem?_eq_getElem (by omega)) (List.getElem?_eq_getElem (by omega))
      rw [hs] at h1; cases h1
      have hm : e.x ∈ rs[j + 1] := by rw [← h2.facts.1]; exact List.mem_map_of_mem he
      have := rnd_inj T.nd (List.getElem?_eq_getElem (by omega)) hr' hm hx
      omega).1
    rw [T.pls, List.filter_flatten, ← List.flatMap_def, hf, List.filter_eq_self]
    intro e he
    obtain ⟨es', a, h1, h2⟩ := T.seg m r r' hr hr'
    rw [hes] at h1; cases h1
    rw [decide_eq_true_eq, ← h2.facts.1]
    exact List.mem_map_of_mem he
  · intro hn
    rw [hEB]
    refine List.flatMap_eq_nil_iff.mpr fun g hg => ?_
    obtain ⟨j, hj, e⟩ := List.mem_iff_getElem.mp (List.mem_reverse.mp hg)
    refine key j g (by rw [List.getElem?_eq_getElem hj, e]) fun z => ?_
    subst z
    rw [List.getElem?_eq_none_iff] at hn
    rw [List.length_tail] at hj; omega

/-- no edge leads back -/
theorem Told.fwd (T : Told rs held pl segs E EN EB) {m : Nat} {r : List Int} {p x : Int} (hr : rs[m]? = some r) (hp : p ∈ r) (he : (p, x) ∈ E) : x ∈ held ∨ ∃ e ∈ pl, e.x = x ∧ ∃ k q, m ≤ k ∧ rs[k + 1]? = some q ∧ x ∈ q := by
  have one : ∀ e ∈ pl, e.x = x → (p ∈ e.os ∨ p = e.b) → ∃ e ∈ pl, e.x = x ∧ ∃ k q, m ≤ k ∧ rs[k + 1]? = some q ∧ x ∈ q := fun e he hx ho => by
    obtain ⟨k, q, q', es, a, h1, h2, h3, h4, h5⟩ := T.loc he
    obtain ⟨f1, f2, _⟩ := h5.facts
    have hm : e.x ∈ q' := by rw [← f1]; exact List.mem_map_of_mem h4
    obtain ⟨i, g1, _, g3⟩ := f2 e h4
    refine ⟨e, he, hx, k, q', ?_, h2, hx ▸ hm⟩
    have hpq : p ∈ (rs.take k).flatten ∨ p ∈ q := by
      rcases ho with ho | ho
      · rcases List.mem_append.mp (g3 p ho) with z | z
        · exact .inl z
        · exact .inr (List.mem_of_mem_take z)
      · rw [ho]; exact .inr (List.mem_of_getElem? g1)
    rcases hpq with z | z
    · obtain ⟨i, ri, h6, h7, h8⟩ := mem_takeF.mp z
      have := rnd_inj T.nd hr h7 hp h8; omega
    · have := rnd_inj T.nd hr h1 hp z; omega
  rw [T.hE, List.mem_append] at he
  rcases he with he | he
  · rcases T.hN p x he with ⟨e, h1, h2, h3⟩ | ⟨h, _⟩
    · exact .inr (one e h1 h2 (.inl h3))
    · exact .inl h
  · obtain ⟨e, h1, h2, h3, _⟩ := T.mB.mp he
    exact .inr (one e h1 h2 (.inr h3.symm))
end
end Mine

namespace Mine
section
variable {rs : List (List Int)} {held : List Int} {pl : List PE} {segs : List (List PE)} {E EN EB : Eds}

theorem flat_split {m : Nat} {r : List Int} (hr : rs[m]? = some r) : (rs.take (m + 1)).flatten = (rs.take m).flatten ++ r := by
  rw [List.take_add_one, hr, List.flatten_append]; simp
theorem Told.rnd (T : Told rs held pl segs E EN EB) {m : Nat} {r : List Int} (hr : rs[m]? = some r) : r.Nodup := (List.pairwise_flatten.mp T.nd).1 r (List.mem_of_getElem? hr)
theorem Told.off (T : Told rs held pl segs E EN EB) {k m : Nat} {r : List Int} {x : Int} (hr : rs[k]? = some r) (hx : x ∈ r) (hk : m ≤ k) : x ∉ (rs.take m).flatten := fun z => by
  obtain ⟨i, ri, h6, h7, h8⟩ := mem_takeF.mp z
  have := rnd_inj T.nd hr h7 hx h8; omega
theorem Told.heldOff (T : Told rs held pl segs E EN EB) {m : Nat} {x : Int} (hx : x ∈ held) : x ∉ (rs.take m).flatten := fun z => by
  obtain ⟨i, ri, _, h7, h8⟩ := mem_takeF.mp z
  exact T.apart x hx (List.mem_flatten.mpr ⟨ri, List.mem_of_getElem? h7, h8⟩)
/-- a later node has its last predecessor -/
theorem Told.last (T : Told rs held pl segs E EN EB) {e : PE} (he : e ∈ pl) : (e.b, e.x) ∈ E := by
  rw [T.hE, List.mem_append]
  obtain ⟨k, q, q', es, a, h1, h2, h3, h4, h5⟩ := T.loc he
  refine .inr (T.mB.mpr ⟨e, he, rfl, rfl, q', ?_, ?_⟩)
  · have : rs.tail[k]? = some q' := by rw [List.getElem?_tail]; exact h2
    exact List.mem_of_getElem? this
  · rw [← h5.facts.1]; exact List.mem_map_of_mem h4

theorem Told.step (T : Told rs held pl segs E EN EB) {m : Nat} {r : List Int} (hr : rs[m]? = some r) : zs (fun x => (inE E (rs.take m).flatten x : Int)) (r.flatMap (outE E)) = (rs.drop (m + 1)).headD [] := by
  have hrn := T.rnd hr
  have hdis : ∀ v ∈ r, v ∉ (rs.take m).flatten := fun v hv => T.off hr hv (Nat.le_refl _)
  have hfm : r.flatMap (outE E) = (r.map fun v => (outE EN v, outE EB v)).flatMap fun b => b.1 ++ b.2 := by
    rw [List.flatMap_map]
    congr 1
    funext v
    rw [T.hE, outE_append]
  have hB2 : (r.map fun v => (outE EN v, outE EB v)).flatMap (·.2) = r.flatMap (outE EB) := by
    rw [List.flatMap_map]
  have hBs : r.flatMap (outE EB) = (rs.drop (m + 1)).headD [] := by
    cases hn : rs[m + 1]? with
    | none =>
      have : rs.drop (m + 1) = [] := List.drop_eq_nil_of_le (List.getElem?_eq_none_iff.mp hn)
      rw [this]
      exact List.flatMap_eq_nil_iff.mpr fun v hv => (T.out hr hv).2 hn
    | some r' =>
      obtain ⟨es, a, h1, h2⟩ := T.seg m r r' hr hn
      have hd : (rs.drop (m + 1)).headD [] = r' := by
        obtain ⟨hl, e⟩ := List.getElem?_eq_some_iff.mp hn
        rw [List.drop_eq_getElem_cons hl, List.headD_cons, e]
      rw [hd, ← h2.facts.1]
      conv => rhs; rw [← h2.facts.2.2 hrn]
      rw [List.map_flatMap, List.flatMap_def, List.flatMap_def]
      congr 1
      exact List.map_congr_left fun v hv => (T.out hr hv).1 r' es hn h1
  have hnext : ∀ x, x ∈ r.flatMap (outE EB) → ∃ r', rs[m + 1]? = some r' ∧ x ∈ r' := fun x hx => by
    rw [hBs] at hx
    cases hn : rs[m + 1]? with
    | none =>
      have : rs.drop (m + 1) = [] := List.drop_eq_nil_of_le (List.getElem?_eq_none_iff.mp hn)
      rw [this] at hx; cases hx
    | some r' =>
      obtain ⟨hl, e⟩ := List.getElem?_eq_some_iff.mp hn
      rw [List.drop_eq_getElem_cons hl, List.headD_cons, e] at hx
      exact ⟨r', rfl, hx⟩
  rw [hfm, ← hBs, ← hB2]
  refine zs_blocks (fun x hx => ⟨fun hb => ?_, fun hb => ?_⟩) fun bl1 b bl2 hsp => ?_
  · rw [hB2] at hb
    rw [← hfm, inE_split hrn hdis]
    obtain ⟨r', hr', hxr⟩ := hnext x hb
    have : inE E ((rs.take m).flatten ++ r) x = 0 := by
      unfold inE
      rw [List.countP_eq_zero]
      intro q hq
      simp only [Bool.and_eq_true, decide_eq_true_eq, not_and, Classical.not_not]
      intro hqx
      obtain ⟨p, y⟩ := q
      dsimp only at hqx ⊢
      subst hqx
      have one : ∀ e ∈ pl, e.x = y → (p ∈ e.os ∨ p = e.b) → p ∈ (rs.take m).flatten ++ r := fun e he hxe ho => by
        obtain ⟨es, a, i, _, _, _, h4, h5⟩ := T.at_ he hr hr' (by rw [hxe]; exact hxr)
        rcases ho with ho | ho
        · rcases List.mem_append.mp (h5 p ho) with z | z
          · exact List.mem_append_left _ z
          · exact List.mem_append_right _ (List.mem_of_mem_take z)
        · rw [ho]; exact List.mem_append_right _ (List.mem_of_getElem? h4)
      rw [T.hE, List.mem_append] at hq
      rcases hq with hq | hq
      · rcases T.hN p y hq with ⟨e, h1, h2, h3⟩ | ⟨hh, _⟩
        · exact one e h1 h2 (.inl h3)
        · exact absurd (List.mem_flatten.mpr ⟨r', List.mem_of_getElem? hr', hxr⟩) (T.apart y hh)
      · obtain ⟨e, h1, h2, h3, _⟩ := T.mB.mp hq
        exact one e h1 h2 (.inr h3.symm)
    rw [this]; omega
  · rw [hB2] at hb
    rw [← hfm] at hx ⊢
    rw [inE_split hrn hdis]
    have : 0 < inE E ((rs.take m).flatten ++ r) x := by
      unfold inE
      rw [List.countP_pos_iff]
      obtain ⟨v, hv, hxo⟩ := List.mem_flatMap.mp hx
      have hvx := mem_outE.mp hxo
      rw [← flat_split hr]
      rcases T.fwd hr hv hvx with hh | ⟨e, he, hex, k, q, hk, hq, hxq⟩
      · have : ∃ h', h' ∈ held ∧ (h', x) ∈ E := by
          rw [T.hE, List.mem_append] at hvx
          rcases hvx with hvx | hvx
          · rcases T.hN v x hvx with ⟨e, h1, h2, _⟩ | ⟨_, h', h1, h2⟩
            · obtain ⟨k, _, q', es, a, _, g2, _, g4, g5⟩ := T.loc h1
              exact absurd (List.mem_flatten.mpr ⟨q', List.mem_of_getElem? g2, by rw [← g5.facts.1, ← h2]; exact List.mem_map_of_mem g4⟩) (T.apart x hh)
            · exact ⟨h', h1, by rw [T.hE]; exact List.mem_append_left _ h2⟩
          · obtain ⟨e, h1, h2, _⟩ := T.mB.mp hvx
            obtain ⟨k, _, q', es, a, _, g2, _, g4, g5⟩ := T.loc h1
            exact absurd (List.mem_flatten.mpr ⟨q', List.mem_of_getElem? g2, by rw [← g5.facts.1, ← h2]; exact List.mem_map_of_mem g4⟩) (T.apart x hh)
        obtain ⟨h', h1, h2⟩ := this
        exact ⟨(h', x), h2, by simp only [Bool.and_eq_true, decide_eq_true_eq]; exact ⟨trivial, T.heldOff h1⟩⟩
      · have hkm : m + 1 ≤ k := by
          by_cases z : k = m
          · exfalso
            subst z
            apply hb
            rw [hBs]
            obtain ⟨hl, e⟩ := List.getElem?_eq_some_iff.mp hq
            rw [List.drop_eq_getElem_cons hl, List.headD_cons, e]; exact hxq
          · omega
        have hkl : k + 1 < rs.length := (List.getElem?_eq_some_iff.mp hq).1
        obtain ⟨es, a, i, _, _, _, h4, _⟩ := T.at_ he (k := k) (List.getElem?_eq_getElem (by omega)) hq (by rw [hex]; exact hxq)
        refine ⟨(e.b, e.x), T.last he, ?_⟩
        simp only [Bool.and_eq_true, decide_eq_true_eq]
        exact ⟨hex, T.off (List.getElem?_eq_getElem (by omega)) (List.mem_of_getElem? h4) hkm⟩
    omega
  · obtain ⟨r1, r23, h1, h2, h3⟩ := List.map_eq_append_iff.mp hsp
    obtain ⟨v, r2, rfl, h4, h5⟩ := List.map_eq_cons_iff.mp h3
    subst h4
    have hv : v ∈ r := by rw [h1]; simp
    have hnd := hrn
    rw [h1] at hnd
    have hv2 : v ∉ r2 := (List.nodup_cons.mp (List.nodup_append.mp hnd).2.1).1
    have hfm2 : bl2.flatMap (fun b => b.1 ++ b.2) = r2.flatMap (outE E) := by
      rw [← h5, List.flatMap_map]
      congr 1
      funext v
      rw [T.hE, outE_append]
    cases hn : rs[m + 1]? with
    | none => rw [(T.out hr hv).2 hn]; exact ⟨.nil, fun x hx => by cases hx⟩
    | some r' =>
      obtain ⟨es, a, g1, g2⟩ := T.seg m r r' hr hn
      have hxs := g2.facts.1
      have hr'n := T.rnd hn
      rw [(T.out hr hv).1 r' es hn g1]
      refine ⟨?_, fun x hx hm => ?_⟩
      · have : ((es.filter fun e => decide (e.b = v)).map (·.x)).Sublist r' := by rw [← hxs]; exact List.Sublist.map _ (List.filter_sublist ..)
        exact hr'n.sublist this
      · obtain ⟨e, he, rfl⟩ := List.mem_map.mp hx
        rw [List.mem_filter, decide_eq_true_eq] at he
        have hxr : e.x ∈ r' := by rw [← hxs]; exact List.mem_map_of_mem he.1
        rw [hfm2] at hm
        obtain ⟨v', hv', hm⟩ := List.mem_flatMap.mp hm
        have hed := mem_outE.mp hm
        have hv'r : v' ∈ r := by rw [h1]; simp [hv']
        have uniq : ∀ e' ∈ pl, e'.x = e.x → ∃ i, e' = e ∧ r[i]? = some e.b ∧ ∀ o ∈ e.os, o ∈ (rs.take m).flatten ++ r.take (i + 1) := fun e' he' hx' => by
          obtain ⟨es', a', i, k1, k2, _, k4, k5⟩ := T.at_ he' hr hn (by rw [hx']; exact hxr)
          rw [g1] at k1; cases k1
          have : e' = e := nodup_inj (f := (·.x)) (by rw [hxs]; exact hr'n) k2 he.1 hx'
          subst this
          exact ⟨i, rfl, k4, k5⟩
        rw [T.hE, List.mem_append] at hed
        rcases hed with hed | hed
        · rcases T.hN v' e.x hed with ⟨e', k1, k2, k3⟩ | ⟨hh, _⟩
          · obtain ⟨i, rfl, k4, k5⟩ := uniq e' k1 k2
            rcases List.mem_append.mp (k5 v' k3) with z | z
            · exact hdis v' hv'r z
            · obtain ⟨j, hj, hje⟩ := List.mem_take_iff_getElem.mp z
              have q1 : r[j]? = some v' := by rw [List.getElem?_eq_getElem (by omega), hje]
              have q2 : r[r1.length]? = some v := by rw [h1]; simp
              rw [he.2] at k4
              have hi := nodup_idx' hrn k4 q2
              obtain ⟨b, hb, hbe⟩ := List.mem_iff_getElem.mp hv'
              have q3 : r[r1.length + 1 + b]? = some v' := by
                rw [h1, List.getElem?_append_right (by omega), show r1.length + 1 + b - r1.length = b + 1 by omega, List.getElem?_cons_succ, List.getElem?_eq_getElem hb, hbe]
              have := nodup_idx' hrn q1 q3
              omega
          · exact T.apart e.x hh (List.mem_flatten.mpr ⟨r', List.mem_of_getElem? hn, hxr⟩)
        · obtain ⟨e', k1, k2, k3, _⟩ := T.mB.mp hed
          obtain ⟨i, rfl, _, _⟩ := uniq e' k1 k2
          rw [he.2] at k3
          exact hv2 (k3 ▸ hv')

theorem Told.rc (T : Told rs held pl segs E EN EB) : ∀ (n m : Nat), n + m = rs.length → RC E (rs.take m).flatten (rs.drop m)
  | 0, m, h => by
    rw [List.drop_eq_nil_of_le (by omega)]; exact trivial
  | n + 1, m, h => by
    have hm : m < rs.length := by omega
    have hr : rs[m]? = some rs[m] := List.getElem?_eq_getElem hm
    rw [List.drop_eq_getElem_cons hm]
    refine ⟨T.ne _ (List.getElem_mem hm), T.rnd hr, fun v hv => T.off hr hv (Nat.le_refl _), T.small _ (List.getElem_mem hm), fun e he h1 => ?_, T.step hr, ?_⟩
    · rw [← flat_split hr]
      obtain ⟨p, x⟩ := e
      rcases T.fwd hr h1 he with hh | ⟨e, _, _, k, q, hk, hq, hxq⟩
      · exact T.heldOff hh
      · exact T.off hq hxq (by omega)
    · rw [← flat_split hr]
      exact T.rc n (m + 1) (by omega)
end
end Mine

namespace Mine

theorem eds_pairs : ∀ {l : List (Int × Int)}, eds (l.map fun p => (p.1, [p.2])) = l.map fun p => (p.2, p.1)
  | [] => rfl
  | q :: l => by
    have := eds_pairs (l := l)
    unfold eds at this ⊢
    rw [List.map_cons, List.flatMap_cons, this]; rfl
theorem eds_head {hd : List Int} {tn : Nat} : eds (holdHead hd tn) = ((hd.tail.zip hd).map fun p => (p.2, p.1)) ++ [(hd.getLastD 0, hd.getD tn 0), (hd.getLastD 0, hd.headD 0)] := by
  unfold holdHead
  rw [List.cons_append, show ∀ l, eds ((hd.headD 0, []) :: l) = eds l from fun l => by unfold eds; simp, eds_append, eds_pairs]
  rfl
theorem chain_at {hd : List Int} {i : Nat} (hi : i + 1 < hd.length) : ((hd.tail.zip hd).map fun p => (p.2, p.1))[i]? = some (hd[i]'(Nat.lt_of_succ_lt hi), hd[i + 1]) := by
  have hz : (hd.tail.zip hd)[i]? = some (hd[i + 1], hd[i]'(Nat.lt_of_succ_lt hi)) := by
    rw [List.getElem?_zip_eq_some]
    exact ⟨by rw [List.getElem?_tail, List.getElem?_eq_getElem hi], List.getElem?_eq_getElem (Nat.lt_of_succ_lt hi)⟩
  rw [List.getElem?_map, hz]; rfl
theorem chain_len {hd : List Int} : ((hd.tail.zip hd).map fun p => (p.2, p.1)).length = hd.length - 1 := by simp
/-- the chain's step from a place -/
theorem chain_out {hd : List Int} (hnd : hd.Nodup) {j : Nat} (hj : j < hd.length) :
    ((h : j + 1 < hd.length) → outE ((hd.tail.zip hd).map fun p => (p.2, p.1)) hd[j] = [hd[j + 1]]) ∧ (j + 1 = hd.length → outE ((hd.tail.zip hd).map fun p => (p.2, p.1)) hd[j] = []) := by
  have inj : ∀ {a b : Nat} (ha : a < hd.length) (hb : b < hd.length), hd[a] = hd[b] → a = b := fun ha hb e => (List.getElem_inj hnd).mp e
  have hfl : ∀ {l : Eds} {v : Int}, outE l v = l.flatMap fun e => if e.1 = v then [e.2] else [] := fun {l v} => by
    induction l with
    | nil => rfl
    | cons e l ih =>
      rw [List.flatMap_cons, ← ih]
      unfold outE
      rw [List.filter_cons]
      by_cases q : e.1 = v <;> simp [q]
  constructor
  · intro h
    rw [hfl, (flatMap_single (F := fun e : Int × Int => if e.1 = hd[j] then [e.2] else []) (i := j) (chain_at h) fun i g hg hij => ?_).1, if_pos rfl]
    have hil : i + 1 < hd.length := by have := (List.getElem?_eq_some_iff.mp hg).1; rw [chain_len] at this; omega
    rw [chain_at hil] at hg
    cases hg
    rw [if_neg (fun z => hij (inj _ _ z))]
  · intro h
    rw [hfl]
    refine List.flatMap_eq_nil_iff.mpr fun g hg => ?_
    obtain ⟨i, hi, e⟩ := List.mem_iff_getElem.mp hg
    have hil : i + 1 < hd.length := by rw [chain_len] at hi; omega
    have := chain_at hil
    rw [List.getElem?_eq_getElem hi, e] at this
    cases this
    rw [if_neg (fun z => by have := inj _ _ z; omega)]

theorem nm_fresh : ∀ {ns ks : List AV}, (ks ++ ns).Nodup → nm ks ns = ks ++ ns
  | [], ks, _ => by simp [nm]
  | n :: ns, ks, h => by
    have hn : n ∉ ks := fun z => (List.nodup_append.mp h).2.2 n z n (by simp) rfl
    show nm (if n ∈ ks then ks else ks ++ [n]) ns = _
    rw [if_neg hn, nm_fresh (by simpa using h)]; simp
theorem adI_fin : ∀ {l : Adds} {st : SS}, (st.adI l).nfin = st.nfin ∧ (st.adI l).npass = st.npass
  | [], _ => ⟨rfl, rfl⟩
  | q :: l, st => by
    have h := adI_fin (l := l) (st := st.add (.int q.1) (I2 q.2))
    have : ∀ {ps : List AV} {k : AV} {s : SS}, (ps.foldl (fun (s : SS) p => s.succ k p) s).nfin = s.nfin ∧ (ps.foldl (fun (s : SS) p => s.succ k p) s).npass = s.npass := by
      intro ps
      induction ps with
      | nil => intro k s; exact ⟨rfl, rfl⟩
      | cons p ps ih => intro k s; exact ih
    exact ⟨h.1.trans this.1, h.2.trans this.2⟩

theorem holdHead_names {hd : List Int} {tn : Nat} (htn : tn < hd.length) : (∀ x ∈ nms (holdHead hd tn), x ∈ hd) ∧ ∃ t, nms (holdHead hd tn) = (hd[0]'(by omega)) :: t := by
  have h0 : hd.headD 0 = hd[0] := by cases hd with | nil => simp at htn | cons a b => rfl
  have hl : hd.getLastD 0 ∈ hd := by
    rw [List.getLastD_eq_getLast?, List.getLast?_eq_some_getLast (by intro z; rw [z] at htn; simp at htn)]
    exact List.getLast_mem _
  have ht : hd.getD tn 0 ∈ hd := by
    rw [List.getD_eq_getElem?_getD, List.getElem?_eq_getElem htn]; exact List.getElem_mem _
  refine ⟨fun x hx => ?_, ?_⟩
  · unfold nms at hx
    obtain ⟨q, hq, hx⟩ := List.mem_flatMap.mp hx
    unfold holdHead at hq
    rcases List.mem_append.mp hq with hq | hq
    · rcases List.mem_cons.mp hq with rfl | hq
      · simp only [List.mem_cons, List.not_mem_nil, or_false] at hx
        rw [hx, h0]; exact List.getElem_mem _
      · obtain ⟨p, hp, rfl⟩ := List.mem_map.mp hq
        have := List.of_mem_zip hp
        simp only [List.mem_cons, List.not_mem_nil, or_false] at hx
        rcases hx with rfl | rfl
        · exact List.mem_of_mem_tail this.1
        · exact this.2
    · simp only [List.mem_cons, List.not_mem_nil, or_false] at hq
      rcases hq with rfl | rfl
      · simp only [List.mem_cons, List.not_mem_nil, or_false] at hx
        rcases hx with rfl | rfl
        · exact ht
        · exact hl
      · simp only [List.mem_cons, List.not_mem_nil, or_false] at hx
        rcases hx with rfl | rfl
        · rw [h0]; exact List.getElem_mem _
        · exact hl
  · unfold nms holdHead
    rw [List.cons_append, List.flatMap_cons, h0]
    exact ⟨_, rfl⟩
end Mine

namespace Mine

/-- the edges that the held row's adds tell -/
theorem hold_edges {hd fl : List Int} {tn : Nat} {tl : Adds} (htn : tn < hd.length) (ht : HoldTail hd fl tn tl) :
    (∀ p x, (p, x) ∈ eds (holdHead hd tn ++ tl) → x ∈ hd ∧ (p ∈ hd ∨ (p ∈ fl ∧ x ∈ hd.take (tn + 1)))) ∧ (∀ x ∈ hd, ∃ h', h' ∈ hd ∧ (h', x) ∈ eds (holdHead hd tn ++ tl)) := by
  have h0 : hd.headD 0 = hd[0] := by cases hd with | nil => simp at htn | cons a b => rfl
  have hl : hd.getLastD 0 ∈ hd := by
    rw [List.getLastD_eq_getLast?, List.getLast?_eq_some_getLast (by intro z; rw [z] at htn; simp at htn)]
    exact List.getLast_mem _
  have htt : hd.getD tn 0 ∈ hd := by
    rw [List.getD_eq_getElem?_getD, List.getElem?_eq_getElem htn]; exact List.getElem_mem _
  refine ⟨fun p x h => ?_, fun x hx => ?_⟩
  · rw [eds_append, eds_head, List.mem_append, List.mem_append] at h
    rcases h with (h | h) | h
    · obtain ⟨q, hq, e⟩ := List.mem_map.mp h
      cases e
      have := List.of_mem_zip hq
      exact ⟨List.mem_of_mem_tail this.1, .inl this.2⟩
    · simp only [List.mem_cons, List.not_mem_nil, or_false, Prod.mk.injEq] at h
      rcases h with ⟨rfl, rfl⟩ | ⟨rfl, rfl⟩
      · exact ⟨htt, .inl hl⟩
      · exact ⟨by rw [h0]; exact List.getElem_mem _, .inl hl⟩
    · obtain ⟨ps, h1, h2⟩ := mem_eds.mp h
      obtain ⟨n, q, e, h3, h4⟩ := ht _ h1
      cases e
      rw [List.mem_singleton.mp h2]
      exact ⟨h3, h4⟩
  · obtain ⟨j, hj, rfl⟩ := List.mem_iff_getElem.mp hx
    cases j with
    | zero =>
      refine ⟨hd.getLastD 0, hl, ?_⟩
      rw [eds_append, eds_head, ← h0]; simp
    | succ j =>
      refine ⟨hd[j], List.getElem_mem _, ?_⟩
      rw [eds_append, eds_head]
      have := List.mem_of_getElem? (chain_at hj)
      exact List.mem_append_left _ (List.mem_append_left _ this)

theorem inE_pos {E : Eds} {p x : Int} (h : (p, x) ∈ E) : 0 < inE E [] x := by
  unfold inE
  rw [List.countP_pos_iff]
  exact ⟨(p, x), h, by simp⟩

theorem pure_law {is : List Int} (hl : is.length ≤ 63) : PureLaw (DS.of (is.take 40 ++ [1, 3, 7, 4, 9])) := by
  have hxs : (is.take 40 ++ [1, 3, 7, 4, 9]).length ≤ 45 := by simp; omega
  have hm1 : (1 : Int) ∈ is.take 40 ++ [1, 3, 7, 4, 9] := by simp
  have hm4 : (4 : Int) ∈ is.take 40 ++ [1, 3, 7, 4, 9] := by simp
  generalize is.take 40 ++ [1, 3, 7, 4, 9] = xs at *
  have I : (DS.of xs).Inv := DS.Inv.fold (xs := xs) ⟨.nil, rfl, rfl, fun r hr => by cases hr⟩
  have hLe0 := DS.Le.init.fold (xs := xs)
  have r1 : (1 : Int) ∈ (DS.of xs).row := DS.mem_row (.inl hm1)
  have r4 : (4 : Int) ∈ (DS.of xs).row := DS.mem_row (.inl hm4)
  have hflat : (DS.of xs).rounds.flatten.length ≤ 45 := Nat.le_trans hLe0.flat (by omega)
  have hheld : (DS.of xs).held.length ≤ 45 := Nat.le_trans hLe0.held (by omega)
  have heach : ∀ r ∈ (DS.of xs).rounds, r.length ≤ 45 := fun r hr => Nat.le_trans (hLe0.each r hr) (by omega)
  have hrl : (DS.of xs).rounds.length ≤ 45 := Nat.le_trans hLe0.rounds (by omega)
  generalize DS.of xs = D at *
  have h1f : (1 : Int) ∈ D.rounds.flatten := by rw [I.flat, List.mem_filter]; exact ⟨r1, by decide⟩
  have h4h : (4 : Int) ∈ D.held := by rw [I.held, List.mem_filter]; exact ⟨r4, by decide⟩
  have hfnd : D.rounds.flatten.Nodup := by rw [I.flat]; exact I.nd.sublist (List.filter_sublist ..)
  have hhnd : D.held.Nodup := by rw [I.held]; exact I.nd.sublist (List.filter_sublist ..)
  have apart : ∀ x ∈ D.held, x ∉ D.rounds.flatten := fun x hx hx' => by
    rw [I.held, List.mem_filter, decide_eq_true_eq] at hx
    rw [I.flat, List.mem_filter] at hx'
    have := hx'.2
    simp [hx.2] at this
  have hne : D.rounds ≠ [] := fun z => by rw [z] at h1f; cases h1f
  refine ⟨hne, I.ne, fun z => (by rw [z] at h4h; cases h4h), fun pl H ring st hpl hH hst => ?_⟩
  obtain ⟨segs, hp1, hp2, hp3⟩ := hpl.segs
  obtain ⟨r0, rt, hrs⟩ : ∃ r0 rt, D.rounds = r0 :: rt := by
    cases q : D.rounds with
    | nil => exact absurd q hne
    | cons a b => exact ⟨a, b, rfl⟩
  -- the edges
  have hEH : (∀ p x, (p, x) ∈ eds H → x ∈ D.held ∧ (p ∈ D.held ∨ p ∈ D.rounds.flatten) ∧ ∃ h', h' ∈ D.held ∧ (h', x) ∈ eds H) ∧ (∀ x ∈ nms H, x ∈ D.rounds.flatten ∨ (x ∈ D.held ∧ ∃ h', (h', x) ∈ eds H)) ∧ wt H ≤ 4300 := by
    cases hH with
    | no _ => exact ⟨(fun p x h => by cases h), (fun x h => by cases h), Nat.zero_le _⟩
    | @yes tn tl _ htn htail hwt =>
      obtain ⟨e1, e2⟩ := hold_edges htn htail
      refine ⟨fun p x h => ?_, fun x hx => ?_, ?_⟩
      · obtain ⟨a, b⟩ := e1 p x h
        exact ⟨a, b.imp id And.left, e2 x a⟩
      · rw [nms_append, List.mem_append] at hx
        rcases hx with hx | hx
        · have := (holdHead_names htn).1 x hx
          exact .inr ⟨this, (e2 x this).imp fun _ z => z.2⟩
        · unfold nms at hx
          obtain ⟨q, hq, hx⟩ := List.mem_flatMap.mp hx
          obtain ⟨n, p, rfl, h1, h2⟩ := htail q hq
          simp only [List.mem_cons, List.not_mem_nil, or_false] at hx
          rcases hx with rfl | rfl
          · exact .inr ⟨h1, (e2 _ h1).imp fun _ z => z.2⟩
          · exact h2.elim (fun z => .inr ⟨z, (e2 _ z).imp fun _ z => z.2⟩) fun z => .inl z.1
      · have h1 := wt_le (n := 1) (l := holdHead D.held tn) fun p hp => by
          unfold holdHead at hp
          rcases List.mem_append.mp hp with hp | hp
          · rcases List.mem_cons.mp hp with rfl | hp
            · exact Nat.zero_le _
            · obtain ⟨q, _, rfl⟩ := List.mem_map.mp hp; exact Nat.le_refl _
          · simp only [List.mem_cons, List.not_mem_nil, or_false] at hp
            rcases hp with rfl | rfl <;> exact Nat.le_refl _
        have h2 : (holdHead D.held tn).length ≤ 100 := by unfold holdHead; simp; omega
        rw [wt_append]; omega
  have hEA : ∀ p x, (p, x) ∈ eds (adA D.rounds pl) → ∃ e ∈ pl, e.x = x ∧ p ∈ e.os := fun p x h => by
    obtain ⟨ps, h1, h2⟩ := mem_eds.mp h
    unfold adA at h1
    rcases List.mem_append.mp h1 with h1 | h1
    · obtain ⟨n, _, q⟩ := List.mem_map.mp h1
      cases q; cases h2
    · obtain ⟨e, he, q⟩ := List.mem_map.mp h1
      cases q
      exact ⟨e, List.mem_reverse.mp he, rfl, h2⟩
  have T : Told D.rounds D.held pl segs (eds (adA D.rounds pl) ++ eds H ++ eds (adB D.rounds pl)) (eds (adA D.rounds pl) ++ eds H) (eds (adB D.rounds pl)) := by
    refine ⟨hfnd, apart, I.ne, fun r hr => Nat.le_trans (heach r hr) (by decide), hp1, hp2, hp3, rfl, rfl, fun p x h => ?_⟩
    rcases List.mem_append.mp h with h | h
    · exact .inl (hEA p x h)
    · obtain ⟨a, _, h', b, c⟩ := hEH.1 p x h
      exact .inr ⟨a, h', b, List.mem_append_right _ c⟩
  have hsu : ∀ p, st.su (.int p) = I2 (outE (eds (adA D.rounds pl) ++ eds H ++ eds (adB D.rounds pl)) p) := fun p => by
    rw [hst, adI_su, ← eds_append, ← eds_append]; rfl
  have hsuo : ∀ k, (∀ p, k ≠ .int p) → st.su k = [] := fun k hk => by rw [hst, adI_su_other hk]; rfl
  have hnp : ∀ x, st.np (.int x) = (inE (eds (adA D.rounds pl) ++ eds H ++ eds (adB D.rounds pl)) [] x : Int) := fun x => by
    rw [hst, adI_np, ← eds_append, ← eds_append]
    show (0 : Int) + _ = _
    omega
  have hkeys : st.keys = nm [] (I2 (nms (adA D.rounds pl) ++ nms H ++ nms (adB D.rounds pl))) := by
    rw [hst, adI_keys, nms_append, nms_append]; rfl
  have plx : ∀ e ∈ pl, e.x ∈ D.rounds.flatten ∧ e.b ∈ D.rounds.flatten ∧ ∀ o ∈ e.os, o ∈ D.rounds.flatten := fun e he => by
    obtain ⟨k, q, q', es, a, h1, h2, h3, h4, h5⟩ := T.loc he
    obtain ⟨f1, f2, _⟩ := h5.facts
    obtain ⟨p, g1, _, g3⟩ := f2 e h4
    refine ⟨List.mem_flatten.mpr ⟨q', List.mem_of_getElem? h2, by rw [← f1]; exact List.mem_map_of_mem h4⟩, List.mem_flatten.mpr ⟨q, List.mem_of_getElem? h1, List.mem_of_getElem? g1⟩, fun o ho => ?_⟩
    rcases List.mem_append.mp (g3 o ho) with z | z
    · obtain ⟨i, ri, _, h7, h8⟩ := mem_takeF.mp z
      exact List.mem_flatten.mpr ⟨ri, List.mem_of_getElem? h7, h8⟩
    · exact List.mem_flatten.mpr ⟨q, List.mem_of_getElem? h1, List.mem_of_mem_take z⟩
  have hnA : ∀ x ∈ nms (adA D.rounds pl), x ∈ D.rounds.flatten := fun x hx => by
    unfold nms at hx
    obtain ⟨q, hq, hx⟩ := List.mem_flatMap.mp hx
    unfold adA at hq
    rcases List.mem_append.mp hq with hq | hq
    · obtain ⟨n, hn, rfl⟩ := List.mem_map.mp hq
      simp only [List.mem_cons, List.not_mem_nil, or_false] at hx
      subst hx
      rw [hrs] at hn ⊢
      exact List.mem_flatten.mpr ⟨r0, by simp, hn⟩
    · obtain ⟨e, he, rfl⟩ := List.mem_map.mp hq
      have := plx e (List.mem_reverse.mp he)
      rcases List.mem_cons.mp hx with rfl | hx
      · exact this.1
      · exact this.2.2 x hx
  have hnB : ∀ x ∈ nms (adB D.rounds pl), x ∈ D.rounds.flatten := fun x hx => by
    unfold nms at hx
    obtain ⟨q, hq, hx⟩ := List.mem_flatMap.mp hx
    unfold adB grpB at hq
    obtain ⟨g, _, hq⟩ := List.mem_flatMap.mp hq
    obtain ⟨e, he, rfl⟩ := List.mem_map.mp hq
    have := plx e (List.mem_filter.mp he).1
    simp only [List.mem_cons, List.not_mem_nil, or_false] at hx
    rcases hx with rfl | rfl
    · exact this.1
    · exact this.2.1
  have hknd : st.keys.Nodup := by rw [hkeys]; exact nm_nodup .nil
  have hkm : ∀ k ∈ st.keys, ∃ x, k = .int x ∧ (x ∈ D.rounds.flatten ∨ (x ∈ D.held ∧ ∃ h', (h', x) ∈ eds H)) := fun k hk => by
    rw [hkeys, nm_mem] at hk
    obtain ⟨x, hx, rfl⟩ := List.mem_map.mp (hk.resolve_left (by simp))
    refine ⟨x, rfl, ?_⟩
    rcases List.mem_append.mp hx with hx | hx
    · rcases List.mem_append.mp hx with hx | hx
      · exact .inl (hnA x hx)
      · exact hEH.2.1 x hx
    · exact .inl (hnB x hx)
  have hfk : ∀ x ∈ D.rounds.flatten, AV.int x ∈ st.keys := fun x hx => by
    obtain ⟨r, hr, hxr⟩ := List.mem_flatten.mp hx
    obtain ⟨i, hi, e⟩ := List.mem_iff_getElem.mp hr
    rw [hkeys, nm_mem]
    refine .inr (List.mem_map.mpr ⟨x, ?_, rfl⟩)
    refine List.mem_append_left _ (List.mem_append_left _ ?_)
    unfold nms
    rw [List.mem_flatMap]
    cases i with
    | zero =>
      refine ⟨(x, []), List.mem_append_left _ (List.mem_map.mpr ⟨x, ?_, rfl⟩), by simp⟩
      have : r0 = r := by rw [← e]; simp [hrs]
      rw [hrs, List.headD_cons, this]; exact hxr
    | succ i =>
      obtain ⟨es, a, h1, h2⟩ := hp3 i D.rounds[i] r (List.getElem?_eq_getElem (by omega)) (by rw [List.getElem?_eq_getElem hi, e])
      rw [← h2.facts.1] at hxr
      obtain ⟨en, he, rfl⟩ := List.mem_map.mp hxr
      exact ⟨(en.x, en.os), List.mem_append_right _ (List.mem_map.mpr ⟨en, List.mem_reverse.mpr (by rw [hp1]; exact List.mem_flatten.mpr ⟨es, List.mem_of_getElem? h1, he⟩), rfl⟩), by simp⟩
  have hpll := plan_len hpl
  have hN : ∀ k, (st.su k).length ≤ 10000 := by
    intro k
    have F := adI_fit (l := adA D.rounds pl ++ H ++ adB D.rounds pl) nil_fit
    rw [← hst] at F
    have hw : wt (adA D.rounds pl ++ H ++ adB D.rounds pl) ≤ 10000 := by
      have h1 := wt_le (n := 0) (l := r0.map fun n => (n, [])) fun p hp => by obtain ⟨m, _, rfl⟩ := List.mem_map.mp hp; exact Nat.le_refl _
      have h2 := wt_le (n := 3) (l := pl.reverse.map fun e => (e.x, e.os)) fun p hp => by
        obtain ⟨m, hm, rfl⟩ := List.mem_map.mp hp
        exact hpll.2 m (List.mem_reverse.mp hm)
      have h3 := grpB_wt (pl := pl) (l := D.rounds.tail.reverse)
      have h4 : D.rounds.tail.reverse.length * pl.length ≤ 45 * 45 := Nat.mul_le_mul (by simp; omega) (Nat.le_trans hpll.1 hflat)
      have h5 : wt (adA D.rounds pl) = wt (r0.map fun n => (n, [])) + wt (pl.reverse.map fun e => (e.x, e.os)) := by unfold adA; rw [hrs, wt_append]; rfl
      have h6 : r0.length ≤ 45 := heach r0 (by rw [hrs]; simp)
      have h7 := hpll.1
      rw [List.length_map] at h1 h2
      rw [List.length_reverse] at h2
      have h8 : wt (adB D.rounds pl) ≤ 2 * (45 * 45) := Nat.le_trans h3 (Nat.mul_le_mul_left 2 h4)
      have h9 := hEH.2.2
      rw [wt_append, wt_append, h5]; omega
    have := F.su k
    omega
  -- the rank of a node: its round
  have rk : ∀ {i : Nat} {r : List Int} {x : Int}, D.rounds[i]? = some r → x ∈ r → D.rounds.findIdx (fun r => decide (x ∈ r)) = i := fun {i r x} hr hx => by
    have hlt : D.rounds.findIdx (fun r => decide (x ∈ r)) < D.rounds.length := List.findIdx_lt_length_of_exists ⟨r, List.mem_of_getElem? hr, by simpa using hx⟩
    have hg := List.findIdx_getElem (w := hlt)
    exact rnd_inj hfnd (List.getElem?_eq_getElem hlt) hr (by simpa using hg) hx
  have edge : ∀ p x, (p, x) ∈ eds (adA D.rounds pl) ∨ (p, x) ∈ eds (adB D.rounds pl) → x ∈ D.rounds.flatten ∧ p ∈ D.rounds.flatten ∧ D.rounds.findIdx (fun r => decide (p ∈ r)) < D.rounds.findIdx (fun r => decide (x ∈ r)) := fun p x h => by
    have : ∃ e ∈ pl, e.x = x ∧ (p ∈ e.os ∨ p = e.b) := by
      rcases h with h | h
      · obtain ⟨e, a, b, c⟩ := hEA p x h; exact ⟨e, a, b, .inl c⟩
      · obtain ⟨e, a, b, c, _⟩ := T.mB.mp h; exact ⟨e, a, b, .inr c.symm⟩
    obtain ⟨e, he, rfl, ho⟩ := this
    have q := plx e he
    refine ⟨q.1, ho.elim (q.2.2 p) fun z => z ▸ q.2.1, ?_⟩
    obtain ⟨k, q, q', es, a, h1, h2, h3, h4, h5⟩ := T.loc he
    obtain ⟨f1, f2, _⟩ := h5.facts
    obtain ⟨i, g1, _, g3⟩ := f2 e h4
    rw [rk h2 (x := e.x) (by rw [← f1]; exact List.mem_map_of_mem h4)]
    rcases ho with ho | rfl
    · rcases List.mem_append.mp (g3 p ho) with z | z
      · obtain ⟨j, rj, h6, h7, h8⟩ := mem_takeF.mp z
        rw [rk h7 h8]; omega
      · rw [rk h1 (List.mem_of_mem_take z)]; omega
    · rw [rk h1 (List.mem_of_getElem? g1)]; omega
  refine ⟨fun k s hs => ?_, ?_, ?_, ?_, ?_⟩
  · by_cases hk : ∃ p, k = .int p
    · obtain ⟨p, rfl⟩ := hk
      rw [hsu p] at hs
      obtain ⟨x, hx, rfl⟩ := List.mem_map.mp hs
      have := mem_outE.mp hx
      rw [← eds_append, ← eds_append] at this
      obtain ⟨ps, h1, _⟩ := mem_eds.mp this
      rw [hkeys, nm_mem, ← nms_append, ← nms_append]
      exact .inr (List.mem_map.mpr ⟨x, List.mem_flatMap.mpr ⟨_, h1, by simp⟩, rfl⟩)
    · rw [hsuo k (fun p z => hk ⟨p, z⟩)] at hs; cases hs
  · have := nodup_len (m := I2 (D.rounds.flatten ++ D.held)) hknd fun k hk => by
      obtain ⟨x, rfl, hx⟩ := hkm k hk
      exact List.mem_map.mpr ⟨x, List.mem_append.mpr (hx.imp id And.left), rfl⟩
    simp only [I2, List.length_map, List.length_append] at this
    omega
  · exact hN
  · cases hH with
    | no _ =>
      refine fun res hr => no_ring (rank := fun k => match k with | .int x => D.rounds.findIdx (fun r => decide (x ∈ r)) | _ => 0) (M := D.rounds.length) (fun k w hw => ?_) res hr
      by_cases hk : ∃ p, k = .int p
      · obtain ⟨p, rfl⟩ := hk
        rw [hsu p] at hw
        obtain ⟨x, hx, rfl⟩ := List.mem_map.mp hw
        have := mem_outE.mp hx
        have hE : (p, x) ∈ eds (adA D.rounds pl) ∨ (p, x) ∈ eds (adB D.rounds pl) := by
          rcases List.mem_append.mp this with z | z
          · rcases List.mem_append.mp z with z | z
            · exact .inl z
            · cases z
          · exact .inr z
        exact ⟨(edge p x hE).2.2, List.findIdx_le_length⟩
      · rw [hsuo k (fun p z => hk ⟨p, z⟩)] at hw; cases hw
    | @yes tn tl _ htn htail hwt =>
      obtain ⟨e1, e2⟩ := hold_edges htn htail
      have hi : ∀ {j : Nat} (hj : j < D.held.length), (I2 D.held)[j]'(by simpa using hj) = .int D.held[j] := fun hj => by simp [I2]
      have hlen : (I2 D.held).length = D.held.length := by simp
      have hA0 : ∀ x ∈ D.held, outE (eds (adA D.rounds pl)) x = [] := fun x hx => List.eq_nil_iff_forall_not_mem.mpr fun y hy => apart x hx (edge x y (.inl (mem_outE.mp hy))).2.1
      have hlst : D.held.getLastD 0 = D.held[D.held.length - 1] := by
        rw [List.getLastD_eq_getLast?, List.getLast?_eq_getElem?, List.getElem?_eq_getElem (by omega)]; rfl
      have hgtn : D.held.getD tn 0 = D.held[tn] := by rw [List.getD_eq_getElem?_getD, List.getElem?_eq_getElem htn]; rfl
      have hout : ∀ {j : Nat} (hj : j < D.held.length), ∃ t, outE (eds (adA D.rounds pl) ++ eds (holdHead D.held tn ++ tl) ++ eds (adB D.rounds pl)) D.held[j] = outE ((D.held.tail.zip D.held).map fun p => (p.2, p.1)) D.held[j] ++ (outE [(D.held.getLastD 0, D.held.getD tn 0), (D.held.getLastD 0, D.held.headD 0)] D.held[j] ++ t) := fun {j} hj => by
        refine ⟨outE (eds tl) D.held[j] ++ outE (eds (adB D.rounds pl)) D.held[j], ?_⟩
        rw [outE_append, outE_append, hA0 _ (List.getElem_mem hj), eds_append, outE_append, eds_head, outE_append]
        simp
      have key := ring_unique (su := st.su) (keys := st.keys) (fl := []) (hd := I2 D.held) (tn := tn) (by omega) (I2_nodup hhnd) (fun j hj => ?_) ?_
        (fun k => match k with | .int x => D.rounds.findIdx (fun r => decide (x ∈ r)) | _ => 0) (fun k hk w hw => ?_) ?_
      · intro res hr
        rw [key res hr, hi htn, hgtn]
        simp [I2]
      · rw [hlen] at hj
        obtain ⟨t, ht⟩ := hout (j := j) (by omega)
        rw [(chain_out hhnd (show j < D.held.length by omega)).1 hj] at ht
        rw [hi (by omega), hi hj, hsu, ht]
        exact ⟨_, rfl⟩
      · obtain ⟨t, ht⟩ := hout (j := D.held.length - 1) (by omega)
        rw [(chain_out hhnd (show D.held.length - 1 < D.held.length by omega)).2 (by omega), hlst, hgtn] at ht
        have : (I2 D.held)[(I2 D.held).length - 1]'(by omega) = .int D.held[D.held.length - 1] := by
          rw [← hi (show D.held.length - 1 < D.held.length by omega)]; congr 1; omega
        rw [this, hi htn, hsu, ht]
        exact ⟨I2 (D.held.headD 0 :: t), by simp [outE, I2]⟩
      · by_cases hk2 : ∃ p, k = .int p
        · obtain ⟨p, rfl⟩ := hk2
          rw [hsu p] at hw
          obtain ⟨x, hx, rfl⟩ := List.mem_map.mp hw
          have hph : p ∉ D.held := fun z => hk (I2_mem.mpr z)
          have fin : (p, x) ∈ eds (adA D.rounds pl) ∨ (p, x) ∈ eds (adB D.rounds pl) → (AV.int x ∉ I2 D.held → D.rounds.findIdx (fun r => decide (p ∈ r)) < D.rounds.findIdx (fun r => decide (x ∈ r))) ∧ (AV.int x ∈ I2 D.held → AV.int x ∈ (I2 D.held).take (tn + 1)) := fun z =>
            ⟨fun _ => (edge p x z).2.2, fun q => absurd (edge p x z).1 (apart x (I2_mem.mp q))⟩
          rcases List.mem_append.mp (mem_outE.mp hx) with z | z
          · rcases List.mem_append.mp z with z | z
            · exact fin (.inl z)
            · obtain ⟨a, b⟩ := e1 p x z
              refine ⟨fun q => absurd (I2_mem.mpr a) q, fun _ => ?_⟩
              have := (b.resolve_left hph).2
              rw [show (I2 D.held).take (tn + 1) = I2 (D.held.take (tn + 1)) from (List.map_take ..).symm]
              exact I2_mem.mpr this
          · exact fin (.inr z)
        · rw [hsuo k (fun p z => hk2 ⟨p, z⟩)] at hw; cases hw
      · obtain ⟨t, ht⟩ := (holdHead_names htn).2
        have hka : ∀ k ∈ nm [] (I2 (nms (adA D.rounds pl))), k ∉ I2 D.held := fun k hk z => by
          rw [nm_mem] at hk
          obtain ⟨x, hx, rfl⟩ := List.mem_map.mp (hk.resolve_left (by simp))
          exact apart x (I2_mem.mp z) (hnA x hx)
        have h0m : AV.int D.held[0] ∉ nm [] (I2 (nms (adA D.rounds pl))) := fun z => hka _ z (I2_mem.mpr (List.getElem_mem _))
        obtain ⟨t2, ht2⟩ := nm_pre (ns := I2 (t ++ nms tl ++ nms (adB D.rounds pl))) (ks := nm [] (I2 (nms (adA D.rounds pl))) ++ [AV.int D.held[0]])
        refine ⟨nm [] (I2 (nms (adA D.rounds pl))), t2, ?_, hka⟩
        rw [hkeys, hi (by omega)]
        have : I2 (nms (adA D.rounds pl) ++ nms (holdHead D.held tn ++ tl) ++ nms (adB D.rounds pl)) = I2 (nms (adA D.rounds pl)) ++ (AV.int D.held[0] :: I2 (t ++ nms tl ++ nms (adB D.rounds pl))) := by
          rw [nms_append, ht]; simp [I2]
        rw [this, nm_append]
        show nm (if AV.int D.held[0] ∈ _ then _ else _) _ = _
        rw [if_neg h0m, ht2]; simp
  · have hrc := T.rc D.rounds.length 0 (by omega)
    rw [List.take_zero, List.drop_zero] at hrc
    refine runs_of (dn := []) hrc hsu (fun x _ => hnp x) ?_ (fun r hr x hx => hfk x (List.mem_flatten.mpr ⟨r, hr, hx⟩)) hN ?_
    · show st.nfin = st.npass
      rw [hst, adI_fin.1, adI_fin.2]; rfl
    · show some (st.keys.filter fun k => decide (st.np k = 0)) = _
      have hr0n : r0.Nodup := T.rnd (m := 0) (by rw [hrs]; rfl)
      have hnr0 : nms (adA D.rounds pl) = r0 ++ nms (pl.reverse.map fun e => (e.x, e.os)) := by
        unfold adA
        rw [hrs, List.headD_cons, nms_append]
        congr 1
        unfold nms
        rw [List.flatMap_map]
        simp
      obtain ⟨t, ht⟩ := nm_pre (ns := I2 (nms (pl.reverse.map fun e => (e.x, e.os)) ++ nms H ++ nms (adB D.rounds pl))) (ks := I2 r0)
      have hk0 : st.keys = I2 r0 ++ t := by
        rw [hkeys, hnr0]
        have : I2 (r0 ++ nms (pl.reverse.map fun e => (e.x, e.os)) ++ nms H ++ nms (adB D.rounds pl)) = I2 r0 ++ I2 (nms (pl.reverse.map fun e => (e.x, e.os)) ++ nms H ++ nms (adB D.rounds pl)) := by simp [I2]
        rw [this, nm_append, nm_fresh (ks := []) (by simpa using I2_nodup hr0n), List.nil_append, ht]
      rw [hk0, hrs, List.headD_cons, List.filter_append]
      have f1 : (I2 r0).filter (fun k => decide (st.np k = 0)) = I2 r0 := by
        rw [List.filter_eq_self]
        intro k hk
        obtain ⟨x, hx, rfl⟩ := List.mem_map.mp hk
        rw [decide_eq_true_eq, hnp x]
        have : inE (eds (adA D.rounds pl) ++ eds H ++ eds (adB D.rounds pl)) [] x = 0 := by
          unfold inE
          rw [List.countP_eq_zero]
          intro q hq
          simp only [Bool.and_eq_true, decide_eq_true_eq, not_and]
          intro hqx
          exfalso
          obtain ⟨p, y⟩ := q
          dsimp only at hqx
          subst hqx
          have hx0 : D.rounds[0]? = some r0 := by rw [hrs]; rfl
          have bad : (p, y) ∈ eds (adA D.rounds pl) ∨ (p, y) ∈ eds (adB D.rounds pl) → False := fun z => by
            have := (edge p y z).2.2
            rw [rk hx0 hx] at this; omega
          rcases List.mem_append.mp hq with z | z
          · rcases List.mem_append.mp z with z | z
            · exact bad (.inl z)
            · exact apart y (hEH.1 p y z).1 (List.mem_flatten.mpr ⟨r0, by rw [hrs]; simp, hx⟩)
          · exact bad (.inr z)
        rw [this]; rfl
      have f2 : t.filter (fun k => decide (st.np k = 0)) = [] := by
        rw [List.filter_eq_nil_iff]
        intro k hk
        obtain ⟨x, rfl, hx⟩ := hkm k (by rw [hk0]; exact List.mem_append_right _ hk)
        simp only [decide_eq_true_eq]
        rw [hnp x]
        have hx0 : x ∉ r0 := fun z => by
          have := hknd
          rw [hk0] at this
          exact (List.nodup_append.mp this).2.2 _ (I2_mem.mpr z) _ hk rfl
        have : 0 < inE (eds (adA D.rounds pl) ++ eds H ++ eds (adB D.rounds pl)) [] x := by
          rcases hx with hx | ⟨_, h', hx⟩
          · obtain ⟨r, hr, hxr⟩ := List.mem_flatten.mp hx
            obtain ⟨i, hi, e⟩ := List.mem_iff_getElem.mp hr
            cases i with
            | zero => exact absurd (by have : r0 = r := by rw [← e]; simp [hrs]
                                       rw [this]; exact hxr) hx0
            | succ i =>
              obtain ⟨es, a, h1, h2⟩ := hp3 i D.rounds[i] r (List.getElem?_eq_getElem (by omega)) (by rw [List.getElem?_eq_getElem hi, e])
              rw [← h2.facts.1] at hxr
              obtain ⟨en, he, rfl⟩ := List.mem_map.mp hxr
              exact inE_pos (T.last (e := en) (by rw [hp1]; exact List.mem_flatten.mpr ⟨es, List.mem_of_getElem? h1, he⟩))
          · exact inE_pos (List.mem_append_left _ (List.mem_append_right _ hx))
        omega
      rw [f1, f2, List.append_nil]
end Mine

namespace Mine
open PySem PySem.W PyProof.Rows PySem.Calls

noncomputable def tokOf (K : Frag) (x : Str) : Tok := match nsIn K mainGlobals x with
  | some (some (.int _ t)) => t
  | _ => default
theorem g_out {w : World} : nsIn (KK w) mainGlobals "_NODE_OUT" = some (some (.int (-1) (tokOf (KK w) "_NODE_OUT"))) := by kernel_rfl
theorem g_done {w : World} : nsIn (KK w) mainGlobals "_NODE_DONE" = some (some (.int (-2) (tokOf (KK w) "_NODE_DONE"))) := by kernel_rfl

theorem mkLv {c : Cx} {mg mb : Str → Option Value} (hK : c.K = KK c.w) (hg : c.base.Ns mainGlobals mg) (hb : c.base.Ns builtinsNs mb) (hbb : ∀ x : Str, x ≠ "__name__" → mb x = bootBuiltins x) : Lv c := by
  have gm : ∀ {x : Str} {v : Value}, nsIn (KK c.w) mainGlobals x = some (some v) → Glob c x v := fun e => .inl ⟨mg, hg, mg_of c.inK hg (hK ▸ e)⟩
  have gb : ∀ {x : Str} {v : Value}, nsIn (KK c.w) mainGlobals x = some none ∧ bootBuiltins x = some v ∧ codeOf x ≠ codeOf "__name__" → Glob c x v := fun {x v} e =>
    .inr ⟨mg, mb, hg, mg_none_of c.inK hg (hK ▸ e.1), hb, (hbb x fun z => e.2.2 (by rw [z])).trans e.2.1⟩
  exact ⟨⟨hK, gb ⟨by kernel_rfl, by kernel_rfl, by decide +kernel⟩, gb ⟨by kernel_rfl, by kernel_rfl, by decide +kernel⟩, gb ⟨by kernel_rfl, by kernel_rfl, by decide +kernel⟩, gb ⟨by kernel_rfl, by kernel_rfl, by decide +kernel⟩, gm (by kernel_rfl), gb ⟨by kernel_rfl, by kernel_rfl, by decide +kernel⟩, gb ⟨by kernel_rfl, by kernel_rfl, by decide +kernel⟩, gb ⟨by kernel_rfl, by kernel_rfl, by decide +kernel⟩, ⟨_, gm g_out⟩, ⟨_, gm g_done⟩⟩, gm (by kernel_rfl), gm (by kernel_rfl), gb ⟨by kernel_rfl, by kernel_rfl, by decide +kernel⟩, gb ⟨by kernel_rfl, by kernel_rfl, by decide +kernel⟩, gb ⟨by kernel_rfl, by kernel_rfl, by decide +kernel⟩, gb ⟨by kernel_rfl, by kernel_rfl, by decide +kernel⟩, gm (by kernel_rfl), gm (by kernel_rfl), gm (by kernel_rfl), gm (by kernel_rfl), gm (by kernel_rfl), gm (by kernel_rfl)⟩

theorem caller_ok {d : Nat} (h : d ≤ 40) : AOk callerA [] d :=
  ⟨by show 1 + claimMargin + 8 * d ≤ 900; unfold claimMargin; omega, by show 4 + 200 * d ≤ 9000; omega, ⟨[], rfl, fun e he => by cases he⟩, rfl, rfl⟩

/-- the law called from outside -/
theorem law_run {prog : Program} {w : World} {s : Shared} {mg mb : Str → Option Value} {fa l : Addr} {us : List Value} {is : List Int} {R : Result → Shared → Prop} (X : (KK w).In s.heap) (hg : s.heap.Ns mainGlobals mg) (hb : s.heap.Ns builtinsNs mb) (hbb : ∀ x : Str, x ≠ "__name__" → mb x = bootBuiltins x) (hn : s.heap.NoLimit) (hs : s.heap.NoSeer) (hgen : s.gens = #[])
    (hfa : mg "law" = some (.ref fa)) (hl : s.heap.IsList l us.toArray) (hi : IntsAre us is) (h63 : is.length ≤ 63)
    (h : ∀ s', (∀ b o, s.heap.get? b = some o → s'.heap.get? b = some o) → s'.os = s.os → s'.gens = #[] → R (.ok (.ret (.bool true))) s') :
    codeAny (model prog w) callerA (.call (.ref fa) ⟨[.ref l], []⟩) R s := by
  have hsys : (s.heap.get? sysModules).isSome = true := by
    obtain ⟨mm, ⟨o, _, _, ho, _⟩, _⟩ := hs.mods
    rw [ho]; rfl
  let c : Cx := ⟨prog, w, s.heap, s.os, KK w, X, hn, hsys⟩
  have hfa2 : fa = 188 := by
    have := mg_of X hg (show nsIn (KK w) mainGlobals "law" = some (some (.ref 188)) by kernel_rfl)
    rw [hfa] at this
    cases this; rfl
  subst hfa2
  have lv : Lv c := mkLv (c := c) rfl hg hb hbb
  have St0 : St c ⟨[], fun _ => none, #[]⟩ s := ⟨(fun _ _ e => e), (fun f hf => by cases hf), (fun f hf => by cases hf), .nil, (fun x k cl e => by cases e), rfl, hgen⟩
  have hbl : BL c l (I2 is) := by
    refine ⟨us.toArray, hl, ?_⟩
    show us.map er = I2 is
    clear hl h63
    induction hi with
    | nil => rfl
    | cons n t _ ih => rw [List.map_cons, ih]; rfl
  have := law_spec (c := c) (A := callerA) (fs := []) (σ := fun _ => none) (g := #[]) (d := 0) (s := l) (is := is) (R := fun r a => r = .ok (.ret (.bool true)) ∧ a.gens = #[]) lv (caller_ok (by decide)) hbl h63 (pure_law h63) (fun σ' => ⟨rfl, rfl⟩)
  exact codeAny_mono (this s St0) fun r s' ⟨a, h1, q1, q2⟩ => by
    subst q1
    exact h s' h1.keep h1.os (h1.gens.trans q2)
end Mine

open PySem PySem.W PyProof.Rows
set_option maxRecDepth 100000
set_option maxHeartbeats 4000000 in
theorem PySem.Challenge.cw_du0008_03_holds : PySem.Challenge.rw_du0008_03.Holds := by
  refine Mine.head ?_
  intro w s₀ s₁ mg mb G Y fa o pm cd doc dV kV ho hd hcd hD hmg hg args vals as hpre hlay hrd hwl hlo
  have KX := kIn_of Y
  have X := (Ground.X G).1
  have V := (Ground.X G).2
  refine Ground.open G ?_
  intro T B D TE TW
  try (refine guard_noD D (by decide +kernel) ?_; clear D)
  wrow_args hpre hlay hrd hwl hlo
  all_goals (
    first | refine callC_kw (enter_call ?_) | refine enter_call ?_ | refine callC_kw (enter_callW ?_) | refine enter_callW ?_ | w_how
    w_top on
    try refine codeAny_mono ?_ (fun _ _ g => GoodW.toG g)
    refine Mine.law_run KX T.g T.b T.builtins T.nolimit (T.seer (by decide +kernel)) hg hmg (by assumption) (by assumption) (by omega) fun s' h1 h2 h3 => ?_
    refine ⟨.inl ⟨.bool true, .bool true, [], rfl, fun cls => ?_, ?_, ?_, fun _ => ⟨.nil, fun a ha => by cases ha⟩⟩, h1, h2, h3⟩
    · rfl
    · exact .bool true
    · first | kernel_rfl | with_unfolding_all rfl | decide +kernel)

