import PyProof.Rows.All
import Wide.All
import OpenK.AllK
import Wide.FinOn
import PyProof.CallFns
import PyProof.ExcStrCall
import PyProof.IsiPairs
import PyProof.Rows.Chain
import KE.KItem
import PyProof.NsDelKeeps
import KE.KSortAsk
import PySem.Challenge.RW_du0008_04
set_option Elab.async false
set_option compiler.extract_closed false
set_option linter.unusedSimpArgs false
set_option linter.unusedVariables false
namespace Mine.Internal
open PySem PySem.W PyProof.Rows PySem.Calls
inductive AV where
  | none | bool (b : Bool) | int (i : Int) | str (s : Str) | ref (a : Addr) | other (v : Value)
  deriving DecidableEq
@[reducible] noncomputable def er : Value → AV
  | .none => .none
  | .bool b => .bool b
  | .int i _ => .int i
  | .str s _ => .str s
  | .ref a => .ref a
  | v => .other v
theorem er_int {v : Value} {i : Int} (h : er v = .int i) : ∃ t, v = .int i t := by
  cases v <;> simp_all [er]
theorem er_str {v : Value} {x : Str} (h : er v = .str x) : ∃ t, v = .str x t := by
  cases v <;> simp_all [er]
theorem er_ref {v : Value} {a : Addr} (h : er v = .ref a) : v = .ref a := by
  cases v <;> simp_all [er]
theorem er_none {v : Value} (h : er v = .none) : v = .none := by
  cases v <;> simp_all [er]
theorem er_bool {v : Value} {b : Bool} (h : er v = .bool b) : v = .bool b := by
  cases v <;> simp_all [er]
noncomputable def AV.isKey : AV → Bool
  | .int _ => true
  | .str _ => true
  | _ => false
theorem isKey_cases {k : AV} (h : k.isKey = true) : (∃ i, k = .int i) ∨ ∃ x, k = .str x := by
  cases k <;> simp_all [AV.isKey]
noncomputable def avHash (w : World) : AV → Int
  | .int i => hashInt i
  | .str s => hashStr w s
  | _ => 0
section
variable {prog : Program} {w : World} {A : Around} {E : Value → Shared → Prop} {s : Shared}
theorem eqBool_int_str {a : Int} {b : Str} {t u : Tok} {Q : Bool → Shared → Prop} (h : Q false s) :
    wpAny (model prog w) A (eqBool (.int a t) (.str b u)) Q E s := by
  unfold eqBool
  refine wpAny_holding ?_
  rw [if_neg (by simp)]
  refine wpAny_bind ?_
  exact PySem.EqMixed.eq_int_str (by exact fun _ _ _ => h)
theorem eqBool_str_int {a : Str} {b : Int} {t u : Tok} {Q : Bool → Shared → Prop} (h : Q false s) :
    wpAny (model prog w) A (eqBool (.str a t) (.int b u)) Q E s := by
  unfold eqBool
  refine wpAny_holding ?_
  rw [if_neg (by simp)]
  refine wpAny_bind ?_
  exact PySem.EqMixed.eq_str_int (by exact fun _ _ _ => h)
end
noncomputable def avKind (prog : Program) (w : World) : KeyKind prog w AV where
  is k v := decide (er v = k) && k.isKey
  hash := avHash w
  inj := fun v a b ha hb => by
    simp only [Bool.and_eq_true, decide_eq_true_eq] at ha hb
    exact ha.1.symm.trans hb.1
  byValue := fun k v h => by
    simp only [Bool.and_eq_true, decide_eq_true_eq] at h
    obtain ⟨h, hk⟩ := h
    rcases isKey_cases hk with ⟨i, rfl⟩ | ⟨x, rfl⟩
    · obtain ⟨t, rfl⟩ := er_int h; rfl
    · obtain ⟨t, rfl⟩ := er_str h; rfl
  pyHash := fun {A E s k v Q} hv h => by
    simp only [Bool.and_eq_true, decide_eq_true_eq] at hv
    obtain ⟨e, hk⟩ := hv
    rcases isKey_cases hk with ⟨i, rfl⟩ | ⟨x, rfl⟩
    · obtain ⟨t, rfl⟩ := er_int e; exact wpAny_pyHash_int h
    · obtain ⟨t, rfl⟩ := er_str e; exact wpAny_pyHash_str h
  eqBool := fun {A E s a b u v Q} hu hv h => by
    simp only [Bool.and_eq_true, decide_eq_true_eq] at hu hv
    obtain ⟨eu, ku⟩ := hu
    obtain ⟨ev, kv⟩ := hv
    rcases isKey_cases ku with ⟨i, rfl⟩ | ⟨x, rfl⟩ <;> rcases isKey_cases kv with ⟨j, rfl⟩ | ⟨y, rfl⟩
    · obtain ⟨t, rfl⟩ := er_int eu; obtain ⟨t', rfl⟩ := er_int ev
      refine wpAny_eqBool_int ?_
      have : (i == j) = decide (AV.int i = AV.int j) := by rw [Bool.eq_iff_iff]; simp
      rw [this]; exact h
    · obtain ⟨t, rfl⟩ := er_int eu; obtain ⟨t', rfl⟩ := er_str ev
      exact eqBool_int_str (by simpa using h)
    · obtain ⟨t, rfl⟩ := er_str eu; obtain ⟨t', rfl⟩ := er_int ev
      exact eqBool_str_int (by simpa using h)
    · obtain ⟨t, rfl⟩ := er_str eu; obtain ⟨t', rfl⟩ := er_str ev
      refine wpAny_eqBool_str ?_
      have : decide (x = y) = decide (AV.str x = AV.str y) := by simp
      rw [this]; exact h
  «strs» := fun k x t v h => by
    simp only [Bool.and_eq_true] at h
    obtain ⟨h, hk⟩ := h
    have h : AV.str x = k := of_decide_eq_true h
    subst h
    cases v <;> simp [er, Value.isStr, AV.isKey]
    rename_i y _
    rw [Bool.eq_iff_iff]; simp
theorem avKind_is {prog : Program} {w : World} {k : AV} {v : Value} : (avKind prog w).is k v = true ↔ er v = k ∧ k.isKey = true := by
  simp [avKind]
theorem scannable_of_key {k : AV} {v : Value} (h : er v = k) (hk : k.isKey = true) : v.scannable = true := by
  rcases isKey_cases hk with ⟨i, rfl⟩ | ⟨x, rfl⟩
  · obtain ⟨t, rfl⟩ := er_int h; rfl
  · obtain ⟨t, rfl⟩ := er_str h; rfl
inductive Cell where
  | list (vs : List AV)
  | tuple (vs : List AV)
  | dict (kvs : List (AV × AV)) (ep : Nat)
  | set (S : AV → Bool) (n : Nat)
  | inst (C dx : Addr) (sl : List (Option AV))
  | attrs (kvs : List (Str × AV))
  | raw (P : Obj → Prop)
structure Frm where
  L : Addr
  cl : List (Str × Addr)
  ns : List Str
  vs : List (Option AV)
noncomputable def Frm.as (f : Frm) : List Addr := f.L :: f.cl.map (·.2)
structure AS where
  fs : List Frm
  σ : Addr → Option (Nat × Cell)
  gens : Array GenState
structure Cx where
  prog : Program
  w : World
  base : Heap
  os : OsState
  K : Frag
  inK : K.In base
  nolim : base.NoLimit
  sysm : (base.get? sysModules).isSome = true
noncomputable def gv : List Str → List (Option AV) → Str → Option AV
  | n :: ns, v :: vs, x => if n = x then v else gv ns vs x
  | _, _, _ => none
theorem gv_cons {n x : Str} {ns : List Str} {v : Option AV} {vs : List (Option AV)} : gv (n :: ns) (v :: vs) x = if n = x then v else gv ns vs x := rfl
end Mine.Internal
set_option genInjectivity false
set_option genSizeOf false
namespace Mine.Internal
open PySem PySem.W PyProof.Rows PySem.Calls
inductive F2 {α β : Type} (R : α → β → Prop) : List α → List β → Prop
  | nil : F2 R [] []
  | cons {a b l m} : R a b → F2 R l m → F2 R (a :: l) (b :: m)
noncomputable def Cell.ok (c : Cx) : Cell → Obj → Prop
  | .list vs, o => ∃ us n, o = listOf us n ∧ us.toList.map er = vs
  | .tuple vs, o => ∃ us n, o = { cls := .type "tuple", data := .seq us n } ∧ us.toList.map er = vs
  | .dict kvs ep, o => o.ExactDict ∧ ∃ es kvs', o.data = .dict es ep ∧ KeysOf (avKind c.prog c.w) es ∧ Pairs (avKind c.prog c.w) es.toList kvs' ∧ kvs = kvs'.map (fun p => (p.1, er p.2)) ∧ (kvs.map (·.1)).Nodup
  | .set S n, o => o.SetObjOf (avKind c.prog c.w) S n
  | .inst C dx sl, o => o.cls = .ref C ∧ o.dict = some dx ∧ o.data = .plain ∧ o.slots.toList.map (·.map er) = sl
  | .attrs kvs, o => ∃ es n, o = dictOf es n ∧ F2 (fun (e : DictEntry) (p : Str × AV) => (∃ t, e.key = .str p.1 t) ∧ er e.val = p.2) es kvs
  | .raw P, o => P o
noncomputable def FrmOk (h : Heap) (f : Frm) : Prop :=
  ∃ m, h.Ns f.L m ∧ (∀ x, f.cl.lookup x = none → (m x).map er = gv f.ns f.vs x) ∧
    ∀ p ∈ f.cl, ∃ ov : Option Value, h.IsCell p.2 ov ∧ ov.map er = gv f.ns f.vs p.1
structure St (c : Cx) (a : AS) (s : Shared) : Prop where
  keep : ∀ b o, c.base.get? b = some o → s.heap.get? b = some o
  fr : ∀ f ∈ a.fs, FrmOk s.heap f
  nb : ∀ f ∈ a.fs, ∀ x ∈ f.as, c.base.get? x = none
  nd : (a.fs.flatMap Frm.as).Nodup
  own : ∀ x k cl, a.σ x = some (k, cl) → (∃ o, s.heap.get? x = some o ∧ cl.ok c o) ∧ c.base.get? x = none ∧ x ∉ a.fs.flatMap Frm.as
  os : s.os = c.os
  gens : s.gens = a.gens
theorem St.of_eq {c : Cx} {a : AS} {s s' : Shared} (h : St c a s) (e1 : s'.heap = s.heap := by rfl) (e2 : s'.os = s.os := by rfl) (e3 : s'.gens = s.gens := by rfl) : St c a s' :=
  ⟨by rw [e1]; exact h.keep, by rw [e1]; exact h.fr, h.nb, h.nd, by rw [e1]; exact h.own, e2.trans h.os, e3.trans h.gens⟩
theorem lookup_mem {x : Str} {ca : Addr} : ∀ {l : List (Str × Addr)}, l.lookup x = some ca → (x, ca) ∈ l
  | [], h => by simp at h
  | (y, b) :: l, h => by
    rw [List.lookup_cons] at h
    by_cases e : x == y
    · simp only [e] at h; cases h; simp [beq_iff_eq.mp e]
    · simp only [e] at h; exact List.mem_cons_of_mem _ (lookup_mem h)
theorem FrmOk.keeps {h h' : Heap} {f : Frm} (x : FrmOk h f) (k : ∀ b ∈ f.as, ∀ o, h.get? b = some o → h'.get? b = some o) : FrmOk h' f := by
  obtain ⟨m, ⟨o, es, ep, ho, r⟩, h2, h3⟩ := x
  refine ⟨m, ⟨o, es, ep, k _ (by simp [Frm.as]) _ ho, r⟩, h2, fun p hp => ?_⟩
  obtain ⟨ov, ⟨oc, hc, hd⟩, q⟩ := h3 p hp
  exact ⟨ov, ⟨oc, k _ (by simp only [Frm.as, List.mem_cons]; exact .inr (List.mem_map_of_mem hp)) _ hc, hd⟩, q⟩
noncomputable def upd (σ : Addr → Option (Nat × Cell)) (l : Addr) (x : Option (Nat × Cell)) : Addr → Option (Nat × Cell) := fun y => if y = l then x else σ y
@[simp] theorem upd_self {σ : Addr → Option (Nat × Cell)} {l : Addr} {x} : upd σ l x l = x := by simp [upd]
theorem upd_ne {σ : Addr → Option (Nat × Cell)} {l y : Addr} {x} (h : y ≠ l) : upd σ l x y = σ y := by simp [upd, h]
noncomputable def Ext (C : List Nat) (σ σ' : Addr → Option (Nat × Cell)) : Prop := ∀ x k cl, σ x = some (k, cl) → k ∉ C → σ' x = some (k, cl)
theorem Ext.refl {C : List Nat} {σ} : Ext C σ σ := fun _ _ _ h _ => h
theorem Ext.trans {C : List Nat} {σ σ' σ''} (h : Ext C σ σ') (h' : Ext C σ' σ'') : Ext C σ σ'' := fun x k cl e n => h' x k cl (h x k cl e n) n
theorem Ext.mono {C D : List Nat} {σ σ'} (h : Ext C σ σ') (s : ∀ k ∈ C, k ∈ D) : Ext D σ σ' := fun x k cl e n => h x k cl e fun q => n (s k q)
theorem Ext.nil {C : List Nat} {σ σ'} (h : Ext [] σ σ') : Ext C σ σ' := h.mono (by simp)
theorem Ext.upd_new {C : List Nat} {σ : Addr → Option (Nat × Cell)} {l : Addr} {x} (h : σ l = none) : Ext C σ (upd σ l x) := fun y k cl e _ => by
  rw [upd_ne (fun q => by rw [q, h] at e; cases e)]; exact e
theorem Ext.upd_own {C : List Nat} {σ : Addr → Option (Nat × Cell)} {l : Addr} {k cl x} (h : σ l = some (k, cl)) (hk : k ∈ C) : Ext C σ (upd σ l x) := fun y k' cl' e n => by
  rw [upd_ne (fun q => by rw [q, h] at e; cases e; exact n hk)]; exact e
theorem ne_new {α β : Type} {f : α → Option β} {y l : α} {q : β} (h : f y = some q) (h0 : f l = none) : y ≠ l := fun z => by rw [z, h0] at h; cases h
theorem put_ne {σ σ' : Addr → Option (Nat × Cell)} {l y : Addr} {x} (e : σ' = upd σ l x) (h : y ≠ l) : σ' y = σ y := by rw [e]; exact upd_ne h
theorem at_upd {σ σ' : Addr → Option (Nat × Cell)} {l : Addr} {x} (e : σ' = upd σ l x) : σ' l = x := by rw [e]; exact upd_self
theorem Ext.new_eq {C : List Nat} {σ σ' : Addr → Option (Nat × Cell)} {l : Addr} {x} (e : σ' = upd σ l x) (h : σ l = none) : Ext C σ σ' := by rw [e]; exact Ext.upd_new h
theorem Ext.own_eq {C : List Nat} {σ σ' : Addr → Option (Nat × Cell)} {l : Addr} {k cl x} (e : σ' = upd σ l x) (h : σ l = some (k, cl)) (hk : k ∈ C) : Ext C σ σ' := by rw [e]; exact Ext.upd_own h hk
theorem St.fresh {c : Cx} {a : AS} {s : Shared} (h : St c a s) : a.σ s.heap.objs.size = none ∧ s.heap.objs.size ∉ a.fs.flatMap Frm.as ∧ c.base.get? s.heap.objs.size = none := by
  refine ⟨?_, fun hm => ?_, ?_⟩
  · cases e : a.σ s.heap.objs.size with
    | none => rfl
    | some p =>
      obtain ⟨⟨o, ho, _⟩, _⟩ := h.own _ p.1 p.2 e
      exact absurd (Heap.lt_size ho) (Nat.lt_irrefl _)
  · obtain ⟨f, hf, hx⟩ := List.mem_flatMap.mp hm
    obtain ⟨m, hn, _, h3⟩ := h.fr f hf
    simp only [Frm.as, List.mem_cons, List.mem_map] at hx
    rcases hx with e | ⟨p, hp, e⟩
    · exact absurd (e ▸ hn.lt) (Nat.lt_irrefl _)
    · obtain ⟨ov, ⟨oc, hc, _⟩, _⟩ := h3 p hp
      exact absurd (e ▸ Heap.lt_size hc) (Nat.lt_irrefl _)
  · cases e : c.base.get? s.heap.objs.size with
    | none => rfl
    | some o => exact absurd (Heap.lt_size (h.keep _ _ e)) (Nat.lt_irrefl _)
end Mine.Internal
namespace Mine.Internal
open PySem PySem.W PyProof.Rows PySem.Calls
theorem St.drop {c : Cx} {a : AS} {s : Shared} {h' : Heap} {x : Addr} {p : Nat × Cell} (h : St c a s) (hx : a.σ x = some p)
    (hs : ∀ b o, b ≠ x → s.heap.get? b = some o → h'.get? b = some o) : St c { a with σ := upd a.σ x none } { s with heap := h' } := by
  have hxo := h.own x p.1 p.2 hx
  refine ⟨fun b o e => hs b o (ne_new e hxo.2.1) (h.keep b o e), fun f hf => (h.fr f hf).keeps fun b hb o e => hs b o (fun q => ?_) e, h.nb, h.nd, fun y k cl e => ?_, h.os, h.gens⟩
  · exact hxo.2.2 (List.mem_flatMap.mpr ⟨f, hf, q ▸ hb⟩)
  · by_cases q : y = x
    · subst q; simp [upd] at e
    · simp only [upd_ne q] at e
      obtain ⟨⟨o, ho, ok⟩, r⟩ := h.own y k cl e
      exact ⟨⟨o, hs y o q ho, ok⟩, r⟩
theorem St.put {c : Cx} {a : AS} {s : Shared} {h' : Heap} {x : Addr} {p : Nat × Cell} {k' : Nat} {cl' : Cell} {o' : Obj} (h : St c a s) (hx : a.σ x = some p)
    (hs : ∀ b o, b ≠ x → s.heap.get? b = some o → h'.get? b = some o) (ho : h'.get? x = some o') (hk : cl'.ok c o') :
    St c { a with σ := upd a.σ x (some (k', cl')) } { s with heap := h' } := by
  have hxo := h.own x p.1 p.2 hx
  have D := h.drop hx hs
  refine ⟨D.keep, D.fr, D.nb, D.nd, fun y k cl e => ?_, D.os, D.gens⟩
  by_cases q : y = x
  · subst q
    simp only [upd_self, Option.some.injEq, Prod.mk.injEq] at e
    obtain ⟨rfl, rfl⟩ := e
    exact ⟨⟨o', ho, hk⟩, hxo.2⟩
  · simp only [upd_ne q] at e
    exact D.own y k cl (by simp only [upd_ne q]; exact e)
theorem St.alloc {c : Cx} {a : AS} {s : Shared} {k : Nat} {cl : Cell} {o : Obj} (h : St c a s) (hk : cl.ok c o) (hf : o.isFreed = false) :
    St c { a with σ := upd a.σ s.heap.objs.size (some (k, cl)) } { s with heap := s.heap.push o } := by
  obtain ⟨f1, f2, f3⟩ := h.fresh
  have hs : ∀ b o', s.heap.get? b = some o' → (s.heap.push o).get? b = some o' := fun b o' e => Heap.get?_push_of_some _ e
  refine ⟨fun b o e => hs b o (h.keep b o e), fun f hf => (h.fr f hf).keeps fun b _ o e => hs b o e, h.nb, h.nd, fun y k' cl' e => ?_, h.os, h.gens⟩
  by_cases q : y = s.heap.objs.size
  · subst q
    simp only [upd_self, Option.some.injEq, Prod.mk.injEq] at e
    obtain ⟨rfl, rfl⟩ := e
    exact ⟨⟨o, Heap.get?_push_size _ hf, hk⟩, f3, f2⟩
  · simp only [upd_ne q] at e
    obtain ⟨⟨o', ho, ok⟩, r⟩ := h.own y k' cl' e
    exact ⟨⟨o', hs y o' ho, ok⟩, r⟩
theorem St.grow {c : Cx} {a : AS} {s : Shared} {h' : Heap} (h : St c a s) (hs : ∀ b o, s.heap.get? b = some o → h'.get? b = some o) : St c a { s with heap := h' } :=
  ⟨fun b o e => hs b o (h.keep b o e), fun f hf => (h.fr f hf).keeps fun b _ o e => hs b o e, h.nb, h.nd,
    fun y k cl e => let ⟨⟨o, ho, ok⟩, r⟩ := h.own y k cl e; ⟨⟨o, hs y o ho, ok⟩, r⟩, h.os, h.gens⟩
noncomputable def W (c : Cx) {α : Type} (A : Around) (t : Sem α) (Q : α → AS → Prop) (E : Value → AS → Prop) (a : AS) : Prop :=
  ∀ s, St c a s → wpAny (model c.prog c.w) A t (fun v s' => ∃ a', St c a' s' ∧ Q v a') (fun e s' => ∃ a', St c a' s' ∧ E e a') s
noncomputable def Wk (c : Cx) (A : Around) (k : Code) (R : Result → AS → Prop) (a : AS) : Prop :=
  ∀ s, St c a s → codeAny (model c.prog c.w) A k (fun r s' => ∃ a', St c a' s' ∧ R r a') s
section
variable {c : Cx} {α β : Type} {A : Around} {E : Value → AS → Prop} {a : AS} {env : Env}
theorem W_pure {v : α} {Q : α → AS → Prop} (h : Q v a) : W c A (pure v) Q E a := fun s hs => wpAny_pure ⟨a, hs, h⟩
theorem noE {c : Cx} {s : Shared} (h : ∃ a', St c a' s ∧ False) : False := h.elim fun _ q => q.2
theorem W_mono {t : Sem α} {Q Q' : α → AS → Prop} {E' : Value → AS → Prop} (h : W c A t Q E a) (hQ : ∀ v a, Q v a → Q' v a) (hE : ∀ e a, E e a → E' e a) : W c A t Q' E' a :=
  fun s hs => wpAny_mono (h s hs) (fun v s' pz1 => pz1.elim fun a' pz2 => pz2.elim fun h1 q => ⟨a', h1, hQ _ _ q⟩) fun e s' pz3 => pz3.elim fun a' pz4 => pz4.elim fun h1 q => ⟨a', h1, hE _ _ q⟩
theorem W_bind {t : Sem α} {f : α → Sem β} {Q : β → AS → Prop} (h : W c A t (fun v a' => W c A (f v) Q E a') E a) : W c A (t >>= f) Q E a :=
  fun s hs => wpAny_bind (wpAny_mono (h s hs) (fun v s' pz5 => pz5.elim fun a' pz6 => pz6.elim fun h1 q => q s' h1) fun _ _ x => x)
theorem W_holding {vs : List Value} {t : Sem α} {Q : α → AS → Prop} (h : W c A t Q E a) : W c A (holding vs t) Q E a := fun s hs => wpAny_holding (h s hs)
theorem W_standAt {p : Pos} {Q : Unit → AS → Prop} (h : Q () a) : W c A (standAt p) Q E a := fun s hs => wpAny_standAt ⟨a, hs, h⟩
theorem W_of1 {t : Sem β} {t1 : Sem α} {k : α → Sem β} {Q : β → AS → Prop}
    (R : ∀ (Q : β → Shared → Prop) (E : Value → Shared → Prop) (s : Shared), wpAny (model c.prog c.w) A t1 (fun v s1 => wpAny (model c.prog c.w) A (k v) Q E s1) E s → wpAny (model c.prog c.w) A t Q E s)
    (h : W c A t1 (fun v a1 => W c A (k v) Q E a1) E a) : W c A t Q E a := fun s hs => R _ _ _ (wpAny_mono (h s hs) (fun v s1 pz7 => pz7.elim fun a1 pz8 => pz8.elim fun h1 q => q s1 h1) fun _ _ x => x)
theorem W_nil {Q : Flow → AS → Prop} (h : Q .next a) : W c A (execs [] env) Q E a := fun s hs => wpAny_execs_nil ⟨a, hs, h⟩
theorem W_cons {st : Stmt} {rest : List Stmt} {Q : Flow → AS → Prop}
    (h : W c A (exec st env) (fun f a' => match f with | .next => W c A (execs rest env) Q E a' | f => Q f a') E a) : W c A (execs (st :: rest) env) Q E a := fun s hs =>
  wpAny_execs_cons (wpAny_mono (h s hs) (fun f s' pz9 => pz9.elim fun a' pz10 => pz10.elim fun h1 q => by cases f <;> first | exact q s' h1 | exact ⟨a', h1, q⟩) fun _ _ x => x)
theorem W_Expr {e : Expr} {pos : Pos} {Q : Flow → AS → Prop} (h : W c A (eval e env) (fun _ a' => Q .next a') E a)
    (hi : interactive env = false := by with_unfolding_all rfl) (hs : swapsWith e none pos.line env = pure false := by with_unfolding_all rfl) : W c A (exec (.Expr e pos) env) Q E a := fun s hs' =>
  wpAny_Expr_any (h s hs') hi hs
theorem W_Assign_Name {x : Str} {pos' : Pos} {value : Expr} {pos : Pos} {Q : Flow → AS → Prop}
    (h : W c A (eval value env) (fun v a₁ => W c A (storeName env x v) (fun _ => Q .next) E a₁) E a)
    (hs : swapsWith value (some (.Name x pos')) pos.line env = pure false := by with_unfolding_all rfl) : W c A (exec (.Assign [.Name x pos'] value pos) env) Q E a := fun s hs' =>
  wpAny_Assign_Name (wpAny_mono (h s hs') (fun v s₁ pz11 => pz11.elim fun a1 pz12 => pz12.elim fun h1 q => q s₁ h1) fun _ _ x => x) hs
theorem W_If {test : Expr} {body orelse : List Stmt} {pos : Pos} {Q : Flow → AS → Prop}
    (h : W c A (isTrue test env (eval test env)) (fun b a₂ => if b then W c A (execs body env) Q E a₂ else W c A (execs orelse env) Q E a₂) E a) : W c A (exec (.If test body orelse pos) env) Q E a := fun s hs =>
  wpAny_If (wpAny_mono (h s hs) (fun b s₂ pz13 => pz13.elim fun a₂ pz14 => pz14.elim fun h2 q => by cases b <;> exact q s₂ h2) fun _ _ x => x)
theorem W_Return_some {e : Expr} {pos : Pos} {Q : Flow → AS → Prop} (h : W c A (eval e env) (fun v a' => Q (.ret v) a') E a) : W c A (exec (.Return (some e) pos) env) Q E a := fun s hs =>
  wpAny_Return_some (h s hs)
theorem W_Break {pos : Pos} {Q : Flow → AS → Prop} (h : Q .brk a) : W c A (exec (.Break pos) env) Q E a := fun s hs => wpAny_Break ⟨a, hs, h⟩
theorem W_Continue {pos : Pos} {Q : Flow → AS → Prop} (h : Q .cont a) : W c A (exec (.Continue pos) env) Q E a := fun s hs => wpAny_Continue ⟨a, hs, h⟩
theorem W_BinOp {l : Expr} {op : Operator} {r : Expr} {pos : Pos} {Q : Value → AS → Prop}
    (h : W c A (eval l env) (fun u a₁ => W c A (eval r env) (fun v a₂ => W c A (binaryOp op u v) Q E a₂) E a₁) E a) : W c A (eval (.BinOp l op r pos) env) Q E a := fun s hs =>
  wpAny_BinOp (wpAny_mono (h s hs) (fun u s₁ pz15 => pz15.elim fun a₁ pz16 => pz16.elim fun h1 q => wpAny_mono (q s₁ h1) (fun v s₂ pz17 => pz17.elim fun a₂ pz18 => pz18.elim fun h2 q => q s₂ h2) fun _ _ x => x) fun _ _ x => x)
theorem W_Compare1 {l : Expr} {op : CmpOp} {r : Expr} {pos : Pos} {Q : Value → AS → Prop}
    (h : W c A (eval l env) (fun u a₁ => W c A (eval r env) (fun v a₂ => W c A (compareOp op u v) Q E a₂) E a₁) E a)
    (hm : behindInMarks op r = false := by with_unfolding_all rfl) : W c A (eval (.Compare l [op] [r] pos) env) Q E a := fun s hs =>
  wpAny_Compare1 (wpAny_mono (h s hs) (fun u s₁ pz19 => pz19.elim fun a₁ pz20 => pz20.elim fun h1 q => wpAny_mono (q s₁ h1) (fun v s₂ pz21 => pz21.elim fun a₂ pz22 => pz22.elim fun h2 q => q s₂ h2) fun _ _ x => x) fun _ _ x => x) hm
theorem W_isTrue_Compare1 {l : Expr} {op : CmpOp} {r : Expr} {pos : Pos} {whole : Sem Value} {Q : Bool → AS → Prop}
    (h : W c A (eval l env) (fun u a₁ => W c A (eval r env) (fun v a₂ => W c A (compareOp op u v) (fun t a₃ => W c A (truthy t) Q E a₃) E a₂) E a₁) E a)
    (hm : behindInMarks op r = false := by with_unfolding_all rfl) : W c A (isTrue (.Compare l [op] [r] pos) env whole) Q E a := fun s hs =>
  wpAny_isTrue_Compare1 (wpAny_mono (h s hs) (fun u s₁ pz23 => pz23.elim fun a₁ pz24 => pz24.elim fun h1 q => wpAny_mono (q s₁ h1) (fun v s₂ pz25 => pz25.elim fun a₂ pz26 => pz26.elim fun h2 q => wpAny_mono (q s₂ h2) (fun t s₃ pz27 => pz27.elim fun a₃ pz28 => pz28.elim fun h3 q => q s₃ h3) fun _ _ x => x) fun _ _ x => x) fun _ _ x => x) hm
theorem W_truthy_bool {b : Bool} {Q : Bool → AS → Prop} (h : Q b a) : W c A (truthy (.bool b)) Q E a := fun s hs => wpAny_truthy_bool ⟨a, hs, h⟩
theorem W_UnaryOp {op : UnaryOp} {x : Expr} {pos : Pos} {Q : Value → AS → Prop} (h : W c A (eval x env) (fun v a₁ => W c A (unaryOp op v) Q E a₁) E a) : W c A (eval (.UnaryOp op x pos) env) Q E a :=
  W_of1 (fun _ _ _ => wpAny_UnaryOp) h
theorem W_isTrue_Not {x : Expr} {pos : Pos} {whole : Sem Value} {Q : Bool → AS → Prop} (h : W c A (isTrue x env (eval x env)) (fun b a₁ => Q (!b) a₁) E a) : W c A (isTrue (.UnaryOp .Not x pos) env whole) Q E a :=
  fun s hs => wpAny_isTrue_Not (h s hs)
theorem W_Or2 {x y : Expr} {pos : Pos} {Q : Value → AS → Prop}
    (h : W c A (eval x env) (fun v a₁ => W c A (truthy v) (fun t a₂ => if t then Q v a₂ else W c A (eval y env) Q E a₂) E a₁) E a) : W c A (eval (.BoolOp .Or [x, y] pos) env) Q E a := fun s hs =>
  wpAny_Or2 (wpAny_mono (h s hs) (fun v s₁ pz35 => pz35.elim fun a₁ pz36 => pz36.elim fun h1 q => wpAny_mono (q s₁ h1) (fun t s₂ pz37 => pz37.elim fun a₂ pz38 => pz38.elim fun h2 q => by cases t; exact q s₂ h2; exact ⟨a₂, h2, q⟩) fun _ _ x => x) fun _ _ x => x)
theorem W_allTrue_nil {op : BoolOp} {Q : Bool → AS → Prop} (h : Q (op == .And) a) : W c A (allTrue op [] env) Q E a := W_pure h
theorem W_allTrue_and {x : Expr} {rest : List Expr} {Q : Bool → AS → Prop}
    (h : W c A (isTrue x env (eval x env)) (fun b a₁ => if b then W c A (allTrue .And rest env) Q E a₁ else Q false a₁) E a) : W c A (allTrue .And (x :: rest) env) Q E a := by
  show W c A (isTrue x env (eval x env) >>= _) Q E a
  refine W_bind (W_mono h (fun b a₁ q => ?_) fun _ _ x => x)
  cases b
  · exact W_pure q
  · exact q
theorem W_allTrue_or {x : Expr} {rest : List Expr} {Q : Bool → AS → Prop}
    (h : W c A (isTrue x env (eval x env)) (fun b a₁ => if b then Q true a₁ else W c A (allTrue .Or rest env) Q E a₁) E a) : W c A (allTrue .Or (x :: rest) env) Q E a := by
  show W c A (isTrue x env (eval x env) >>= _) Q E a
  refine W_bind (W_mono h (fun b a₁ q => ?_) fun _ _ x => x)
  cases b
  · exact q
  · exact W_pure q
theorem W_isTrue_BoolOp {op : BoolOp} {vs : List Expr} {pos : Pos} {whole : Sem Value} {Q : Bool → AS → Prop} (h : W c A (allTrue op vs env) Q E a) : W c A (isTrue (.BoolOp op vs pos) env whole) Q E a := h
theorem W_isTrue_any {e : Expr} {whole : Sem Value} {Q : Bool → AS → Prop}
    (h : W c A whole (fun v a₁ => W c A (truthy v) Q E a₁) E a) (he : isTrue e env whole = (do let v ← whole; standAt e.pos; holding [v] (truthy v)) := by with_unfolding_all rfl) : W c A (isTrue e env whole) Q E a := by
  rw [he]
  exact W_bind (W_mono h (fun v a₁ q => W_bind (W_standAt (W_holding q))) fun _ _ x => x)
theorem W_NamedExpr {x : Str} {p pos : Pos} {value : Expr} {Q : Value → AS → Prop}
    (h : W c A (eval value env) (fun v a₁ => W c A (storeName env x v) (fun _ a₂ => Q v a₂) E a₁) E a) : W c A (eval (.NamedExpr (.Name x p) value pos) env) Q E a := by
  show W c A (eval value env >>= _) Q E a
  refine W_bind (W_mono h (fun v a₁ q => W_bind (W_holding (W_bind (W_standAt ?_)))) fun _ _ x => x)
  exact fun s hs => wpAny_bindName (wpAny_mono (q s hs) (fun _ s' pz39 => pz39.elim fun a' pz40 => pz40.elim fun h1 q => ⟨a', h1, W_pure q⟩) fun _ _ x => x)
end
end Mine.Internal
namespace Mine.Internal
open PySem PySem.W PyProof.Rows PySem.Calls
@[reducible] noncomputable def All (v : AV) (P : Value → Prop) : Prop :=
  match v with
  | .none => P .none
  | .bool b => P (.bool b)
  | .int i => ∀ t, P (.int i t)
  | .str s => ∀ t, P (.str s t)
  | .ref a => P (.ref a)
  | .other v => P v
theorem All.at {v : AV} {P : Value → Prop} (h : All v P) {u : Value} (e : er u = v) : P u := by
  subst e
  cases u <;> first | exact h | exact h _
theorem All.of {v : AV} {P : Value → Prop} (h : ∀ u, er u = v → P u) (hv : ∀ u, v = .other u → er u = .other u := by intro u e; cases e) : All v P := by
  cases v <;> first | exact h _ rfl | exact fun t => h _ rfl | skip
  exact h _ (hv _ rfl)
inductive VarAt : List Str → List (Option AV) → Str → Option AV → Prop
  | here {x ns v vs} : VarAt (x :: ns) (v :: vs) x v
  | there {n ns w vs x v} : VarAt ns vs x v → VarAt (n :: ns) (w :: vs) x v
inductive NameAt : List Str → Str → Nat → Prop
  | here {x ns} : NameAt (x :: ns) x 0
  | there {n ns x k} : NameAt ns x k → NameAt (n :: ns) x (k + 1)
theorem VarAt.nth {ns : List Str} {x : Str} {k : Nat} (h : NameAt ns x k) : ∀ {vs : List (Option AV)} {v : Option AV}, vs[k]? = some v → VarAt ns vs x v := by
  induction h with
  | here => intro vs v hv; cases vs with
    | nil => cases hv
    | cons w vs => cases hv; exact .here
  | there _ ih => intro vs v hv; cases vs with
    | nil => cases hv
    | cons w vs => exact .there (ih hv)
inductive SetVar : List Str → List (Option AV) → Str → Option AV → List (Option AV) → Prop
  | here {x ns w vs v} : SetVar (x :: ns) (w :: vs) x v (v :: vs)
  | there {n ns w vs x v vs'} : SetVar ns vs x v vs' → SetVar (n :: ns) (w :: vs) x v (w :: vs')
theorem VarAt.gv {ns : List Str} {vs : List (Option AV)} {x : Str} {v : Option AV} (h : VarAt ns vs x v) (hd : ns.Nodup) : gv ns vs x = v ∧ x ∈ ns := by
  induction h with
  | here => exact ⟨(gv_cons).trans (if_pos rfl), List.mem_cons_self⟩
  | @there n ns w vs x v h ih =>
    obtain ⟨e, hm⟩ := ih (List.nodup_cons.mp hd).2
    have hne : n ≠ x := fun q => (List.nodup_cons.mp hd).1 (q ▸ hm)
    exact ⟨(gv_cons.trans (if_neg hne)).trans e, List.mem_cons_of_mem _ hm⟩
theorem SetVar.gv {ns : List Str} {vs vs' : List (Option AV)} {x : Str} {v : Option AV} (h : SetVar ns vs x v vs') (hd : ns.Nodup) : (∀ y, gv ns vs' y = if y = x then v else gv ns vs y) ∧ x ∈ ns := by
  induction h with
  | @here x ns w vs v =>
    refine ⟨fun y => ?_, by simp⟩
    rw [gv_cons, gv_cons]
    by_cases e : x = y
    · subst e; rw [if_pos rfl, if_pos rfl]
    · rw [if_neg e, if_neg e, if_neg (Ne.symm e)]
  | @there n ns w vs x v vs' h ih =>
    obtain ⟨e, hm⟩ := ih (List.nodup_cons.mp hd).2
    have hne : n ≠ x := fun q => (List.nodup_cons.mp hd).1 (q ▸ hm)
    refine ⟨fun y => ?_, List.mem_cons_of_mem _ hm⟩
    rw [gv_cons, gv_cons, e y]
    by_cases q : n = y
    · subst q; rw [if_pos rfl, if_pos rfl, if_neg hne]
    · rw [if_neg q, if_neg q]
noncomputable def Glob (c : Cx) (x : Str) (v : Value) : Prop :=
  (∃ mg, c.base.Ns mainGlobals mg ∧ mg x = some v) ∨ ∃ mg mb, c.base.Ns mainGlobals mg ∧ mg x = none ∧ c.base.Ns builtinsNs mb ∧ mb x = some v
structure EnvOk (c : Cx) (env : Env) (L : Addr) (cl : List (Str × Addr)) (ns : List Str) (gs : List (Str × Value)) : Prop where
  kind : env.scope.kind = .function
  loc : env.locals = L
  nd : ns.Nodup
  cn : (cl.map (·.1)).Nodup
  var : ∀ x ∈ ns, (x == ("__debug__" : Str)) = false ∧ ((cl.lookup x = none ∧ env.kindOf x = some .local) ∨ ∃ ca, cl.lookup x = some ca ∧ env.kindOf x = some .cell ∧ env.cells.lookup x = some ca)
  glo : ∀ p ∈ gs, (p.1 == ("__debug__" : Str)) = false ∧ env.kindOf p.1 = some .globalImplicit ∧ Glob c p.1 p.2
  gl : env.globals = mainGlobals
  bl : env.builtins = builtinsNs
section
variable {c : Cx} {A : Around} {E : Value → AS → Prop} {env : Env} {L : Addr} {cl : List (Str × Addr)} {ns : List Str} {gs : List (Str × Value)} {vs vs' : List (Option AV)} {fs : List Frm} {σ : Addr → Option (Nat × Cell)} {g : Array GenState} {x : Str}
theorem map_some_of {α β : Type} {f : α → β} {o : Option α} {b : β} (h : o.map f = some b) : ∃ a, o = some a ∧ f a = b := by
  cases o with
  | none => cases h
  | some a => exact ⟨a, rfl, Option.some.inj h⟩
theorem W_loadName {v : AV} {Q : Value → AS → Prop} (he : EnvOk c env L cl ns gs) (hv : VarAt ns vs x (some v)) (h : All v (fun u => Q u ⟨⟨L, cl, ns, vs⟩ :: fs, σ, g⟩)) :
    W c A (loadName env x) Q E ⟨⟨L, cl, ns, vs⟩ :: fs, σ, g⟩ := by
  intro s hs
  obtain ⟨e, hm⟩ := hv.gv he.nd
  obtain ⟨m, hn, h2, h3⟩ := hs.fr _ (List.mem_cons_self ..)
  rcases (he.var x hm).2 with ⟨hc, hk⟩ | ⟨ca, hc, hk, hcell⟩
  · obtain ⟨u, hu, eu⟩ := map_some_of ((h2 x hc).trans e)
    refine wpAny_loadName_local he.kind hk (by rw [he.loc]; exact hn) hu ⟨_, hs, h.at eu⟩
  · obtain ⟨ov, hov, eo⟩ := h3 _ (lookup_mem hc)
    obtain ⟨u, rfl, eu⟩ := map_some_of (eo.trans e)
    exact wpAny_loadName_cell he.kind hk hcell hov ⟨_, hs, h.at eu⟩
theorem W_Name {pos : Pos} {v : AV} {Q : Value → AS → Prop} (he : EnvOk c env L cl ns gs) (hv : VarAt ns vs x (some v)) (h : All v (fun u => Q u ⟨⟨L, cl, ns, vs⟩ :: fs, σ, g⟩)) :
    W c A (eval (.Name x pos) env) Q E ⟨⟨L, cl, ns, vs⟩ :: fs, σ, g⟩ := by
  intro s hs
  exact wpAny_Name (W_loadName he hv h s hs) (he.var x (hv.gv he.nd).2).1
theorem W_Glob {pos : Pos} {v : Value} {a : AS} {Q : Value → AS → Prop} (he : EnvOk c env L cl ns gs) (hv : (x, v) ∈ gs) (h : Q v a) : W c A (eval (.Name x pos) env) Q E a := by
  intro s hs
  obtain ⟨h1, h2, h3⟩ := he.glo _ hv
  refine Name_function_global he.kind h2 ?_ h1
  rcases h3 with ⟨mg, n1, n2⟩ | ⟨mg, mb, n1, n2, n3, n4⟩
  · exact loadGlobal_global (by rw [he.gl]; exact n1.keeps hs.keep) n2 ⟨a, hs, h⟩
  · exact loadGlobal_builtin (by rw [he.gl]; exact n1.keeps hs.keep) n2 (by rw [he.bl]; exact n3.keeps hs.keep) n4 ⟨a, hs, h⟩
theorem mem_as_ne {fs : List Frm} {f f' : Frm} (hnd : ((f :: fs).flatMap Frm.as).Nodup) {b b' : Addr} (hb : b ∈ f.as) (hf : f' ∈ fs) (hb' : b' ∈ f'.as) : b' ≠ b := fun e => by
  rw [List.flatMap_cons] at hnd
  exact (List.nodup_append.mp hnd).2.2 b hb b' (List.mem_flatMap.mpr ⟨f', hf, hb'⟩) e.symm
theorem nodup_inj {α β : Type} {f : α → β} : ∀ {l : List α}, (l.map f).Nodup → ∀ {p q : α}, p ∈ l → q ∈ l → f p = f q → p = q
  | [], _, _, _, hp, _, _ => by cases hp
  | r :: l, hd, p, q, hp, hq, e => by
    simp only [List.map_cons, List.nodup_cons] at hd
    rcases List.mem_cons.mp hp with hp' | hp' <;> rcases List.mem_cons.mp hq with hq' | hq'
    · rw [hp', hq']
    · exact absurd (by rw [← hp', e]; exact List.mem_map_of_mem hq') hd.1
    · exact absurd (by rw [← hq', ← e]; exact List.mem_map_of_mem hp') hd.1
    · exact nodup_inj hd.2 hp' hq' e
theorem W_storeName {u : Value} {Q : Unit → AS → Prop} (he : EnvOk c env L cl ns gs) (hv : SetVar ns vs x (some (er u)) vs') (h : Q () ⟨⟨L, cl, ns, vs'⟩ :: fs, σ, g⟩) :
    W c A (storeName env x u) Q E ⟨⟨L, cl, ns, vs⟩ :: fs, σ, g⟩ := by
  intro s hs
  obtain ⟨e, hm⟩ := hv.gv he.nd
  obtain ⟨m, hn, h2, h3⟩ := hs.fr _ (List.mem_cons_self ..)
  dsimp only at hn h2 h3
  have hnd := hs.nd
  rw [List.flatMap_cons] at hnd
  have hndh : (L :: cl.map (·.2)).Nodup := (List.nodup_append.mp hnd).1
  -- what both arms share: a heap that keeps all but one address of this frame
  have fin : ∀ (b : Addr) (h' : Heap) (tk : Nat), b ∈ (L :: cl.map (·.2)) → (∀ b' o, b' ≠ b → s.heap.get? b' = some o → h'.get? b' = some o) → FrmOk h' ⟨L, cl, ns, vs'⟩ →
      St c ⟨⟨L, cl, ns, vs'⟩ :: fs, σ, g⟩ { s with heap := h', toks := tk } := by
    intro b h' tk hb hk hfr
    have hbb := hs.nb _ (List.mem_cons_self ..) b hb
    refine ⟨fun b' o q => hk b' o (ne_new q hbb) (hs.keep b' o q), fun f hf => ?_, fun f hf => ?_, hs.nd, fun y k cl' q => ?_, hs.os, hs.gens⟩
    · rcases List.mem_cons.mp hf with rfl | hf
      · exact hfr
      · exact (hs.fr f (List.mem_cons_of_mem _ hf)).keeps fun b' hb' o q => hk b' o (mem_as_ne hs.nd hb hf hb') q
    · rcases List.mem_cons.mp hf with rfl | hf
      · exact hs.nb ⟨L, cl, ns, vs⟩ (List.mem_cons_self ..)
      · exact hs.nb f (List.mem_cons_of_mem _ hf)
    · obtain ⟨⟨o, ho, ok⟩, r1, r2⟩ := hs.own y k cl' q
      refine ⟨⟨o, hk y o (fun z => r2 ?_) ho, ok⟩, r1, r2⟩
      rw [List.flatMap_cons]
      exact List.mem_append_left _ (z ▸ hb)
  rcases (he.var x hm).2 with ⟨hc, hk⟩ | ⟨ca, hc, hk, hcell⟩
  · refine wpAny_storeName_local hk (by rw [he.loc]; exact hn) (fun h' hn' hsb => ⟨_, fin L h' _ (by first | decide | simp) (fun b' o q z => ?_) ⟨_, by rw [← he.loc]; exact hn', fun y hy => ?_, fun p hp => ?_⟩, h⟩) (by rw [he.kind]; rfl)
    · rw [he.loc] at hsb; exact (hsb.2 b' q).trans z
    · dsimp only; rw [e y]
      by_cases q : y = x
      · simp [q]
      · simp only [if_neg q]; exact h2 y hy
    · obtain ⟨ov, ⟨oc, hoc, hod⟩, eo⟩ := h3 p hp
      have hne : p.2 ≠ L := fun z => (List.nodup_cons.mp hndh).1 (z ▸ List.mem_map_of_mem hp)
      have hpx : p.1 ≠ x := fun z => by
        have : ∀ l : List (Str × Addr), p ∈ l → l.lookup x ≠ none := by
          intro l hl q
          induction l with
          | nil => cases hl
          | cons r l ih =>
            rw [List.lookup_cons] at q
            by_cases w : x == r.1
            · simp [w] at q
            · simp only [w] at q
              rcases List.mem_cons.mp hl with rfl | hl
              · exact w (by simp [z])
              · exact ih hl q
        exact this cl hp hc
      refine ⟨ov, ⟨oc, (by rw [he.loc] at hsb; exact (hsb.2 _ hne).trans hoc), hod⟩, ?_⟩
      dsimp only; rw [e, if_neg hpx]; exact eo
  · obtain ⟨ov, hov, eo⟩ := h3 _ (lookup_mem hc)
    have hcam : ca ∈ cl.map (·.2) := List.mem_map_of_mem (lookup_mem hc)
    have hne : ca ≠ L := fun z => (List.nodup_cons.mp hndh).1 (z ▸ hcam)
    refine wpAny_storeName_cell he.kind hk hcell hov (fun h' hc' hsb => ⟨_, fin ca h' _ (List.mem_cons_of_mem _ hcam) (fun b' o q z => (hsb.2 b' q).trans z) ⟨m, hn.sameBut hsb (Ne.symm hne), fun y hy => ?_, fun p hp => ?_⟩, h⟩)
    · dsimp only; rw [e y, if_neg (fun z => by subst z; rw [hc] at hy; cases hy)]; exact h2 y hy
    · dsimp only; rw [e]
      by_cases q : p.2 = ca
      · have : p = (x, ca) := nodup_inj (f := (·.2)) (List.nodup_cons.mp hndh).2 hp (lookup_mem hc) q
        subst this
        exact ⟨_, hc', by simp⟩
      · obtain ⟨ov', ⟨oc, hoc, hod⟩, eo'⟩ := h3 p hp
        have hpx : p.1 ≠ x := fun z => q (congrArg (·.2) (nodup_inj (f := (·.1)) he.cn hp (lookup_mem hc) z))
        exact ⟨ov', ⟨oc, (hsb.2 _ q).trans hoc, hod⟩, by rw [if_neg hpx]; exact eo'⟩
end
end Mine.Internal
namespace Mine.Internal
open PySem PySem.W PyProof.Rows PySem.Calls
noncomputable def Link (A : Around) (fs : List Frm) : Prop := ∃ envs, A.frames = some envs ∧ ∀ e ∈ envs, e.scope.kind = .function ∧ ∃ f ∈ fs, e.frame = some f.L
structure AOk (A : Around) (fs : List Frm) (d : Nat) : Prop where
  depth : A.depth + 8 * d ≤ 900
  units : A.units + 200 * d ≤ 9000
  link : Link A fs
  guards : A.guards = some []
  handled : A.handled = none
theorem AOk.le {A : Around} {fs : List Frm} {d d' : Nat} (h : AOk A fs d) (hd : d' ≤ d) : AOk A fs d' :=
  ⟨by have := h.depth; lia, by have := h.units; lia, h.link, h.guards, h.handled⟩
theorem AOk.room {A : Around} {fs : List Frm} {d : Nat} (h : AOk A fs d) : A.depth < recursionLimit := by
  have := h.depth; unfold recursionLimit; lia
theorem AOk.deeper {A : Around} {fs : List Frm} {d : Nat} {env : Env} {f : Frm} (h : AOk A fs (d + 1)) (hk : env.scope.kind = .function) (hf : env.frame = some f.L) : AOk (A.deeper env) (f :: fs) d := by
  refine ⟨by have := h.depth; simp only [Around.deeper]; lia, by have := h.units; simp only [Around.deeper]; lia, ?_, h.guards, h.handled⟩
  obtain ⟨envs, e, r⟩ := h.link
  refine ⟨env :: envs, by simp [Around.deeper, e], fun e' he => ?_⟩
  rcases List.mem_cons.mp he with rfl | he
  · exact ⟨hk, f, List.mem_cons_self .., hf⟩
  · obtain ⟨k, f', hf', q⟩ := r e' he
    exact ⟨k, f', List.mem_cons_of_mem _ hf', q⟩
theorem AOk.push {A : Around} {fs : List Frm} {d : Nat} {f : Frm} (h : AOk A fs d) : AOk A (f :: fs) d := by
  refine ⟨h.depth, h.units, ?_, h.guards, h.handled⟩
  obtain ⟨envs, e, r⟩ := h.link
  exact ⟨envs, e, fun e' he => let ⟨k, f', hf', q⟩ := r e' he; ⟨k, f', List.mem_cons_of_mem _ hf', q⟩⟩
theorem AOk.pop {A : Around} {fs fs' : List Frm} {d : Nat} (h : AOk A fs d) (hs : ∀ f ∈ fs, ∃ f' ∈ fs', f'.L = f.L) : AOk A fs' d := by
  refine ⟨h.depth, h.units, ?_, h.guards, h.handled⟩
  obtain ⟨envs, e, r⟩ := h.link
  refine ⟨envs, e, fun e' he => ?_⟩
  obtain ⟨k, f, hf, q⟩ := r e' he
  obtain ⟨f', hf', q'⟩ := hs f hf
  exact ⟨k, f', hf', q' ▸ q⟩
theorem AOk.vs {A : Around} {fs : List Frm} {d : Nat} {L : Addr} {cl ns vs vs'} (h : AOk A (⟨L, cl, ns, vs⟩ :: fs) d) : AOk A (⟨L, cl, ns, vs'⟩ :: fs) d :=
  h.pop fun f hf => by
    rcases List.mem_cons.mp hf with rfl | hf
    · exact ⟨_, List.mem_cons_self .., rfl⟩
    · exact ⟨f, List.mem_cons_of_mem _ hf, rfl⟩
theorem AOk.under {A : Around} {fs : List Frm} {d : Nat} {k : Code} (h : AOk A fs (d + 1)) (hw : k.weight ≤ 8) (hu : k.cUnits ≤ 200) (he : k.envs = []) (hg : k.guards = []) : AOk (A.under k) fs d := by
  refine ⟨by have := h.depth; simp only [Around.under]; lia, by have := h.units; simp only [Around.under]; lia, ?_, ?_, h.handled⟩
  · obtain ⟨envs, e, r⟩ := h.link
    exact ⟨envs, by simp [Around.under, he, pushEnvs, e], r⟩
  · simp [Around.under, hg, pushGuards, h.guards]
theorem AOk.in1 {A : Around} {fs : List Frm} {d : Nat} (h : AOk A fs (d + 1)) : AOk A.in1 fs d :=
  ⟨by have := h.depth; simp only [Around.in1]; lia, by have := h.units; simp only [Around.in1]; lia, h.link, h.guards, h.handled⟩
theorem AOk.lt {A : Around} {fs : List Frm} {d : Nat} (h : AOk A fs d) : A.units < cLine := by have := h.units; unfold cLine; lia
theorem St.pop {c : Cx} {f : Frm} {fs : List Frm} {σ g} {s : Shared} (h : St c ⟨f :: fs, σ, g⟩ s) : St c ⟨fs, σ, g⟩ s := by
  refine ⟨h.keep, fun f' hf => h.fr f' (List.mem_cons_of_mem _ hf), fun f' hf => h.nb f' (List.mem_cons_of_mem _ hf), ?_, fun x k cl e => ?_, h.os, h.gens⟩
  · have := h.nd; rw [List.flatMap_cons] at this; exact (List.nodup_append.mp this).2.1
  · obtain ⟨h1, h2, h3⟩ := h.own x k cl e
    exact ⟨h1, h2, fun q => h3 (by rw [List.flatMap_cons]; exact List.mem_append_right _ q)⟩
inductive Init : List Str → List AV → List Str → List (Option AV) → Prop
  | nil : Init [] [] [] []
  | rest {r rs vs} : Init [] [] rs vs → Init [] [] (r :: rs) (none :: vs)
  | cons {p ps u us rs vs} : Init ps us rs vs → Init (p :: ps) (u :: us) rs (some u :: vs)
theorem Init.none {us : List AV} {rs : List Str} {vs : List (Option AV)} : Init [] us rs vs → ∀ x, gv rs vs x = none := by
  intro h x
  generalize hp : ([] : List Str) = ps at h
  induction h with
  | nil => rfl
  | rest _ ih => rw [gv_cons, ih rfl]; exact ite_self _
  | cons _ _ => cases hp
theorem Init.gv {ps rs : List Str} {us : List AV} {vs : List (Option AV)} (h : Init ps us rs vs) : ∀ args : List Value, args.map er = us → ∀ x, ((ps.zip args).lookup x).map er = gv (ps ++ rs) vs x := by
  induction h with
  | nil => intro args e x; rfl
  | @rest r rs vs h ih =>
    intro args e x
    have := (Init.rest h (r := r)).none x
    simp only [List.nil_append] at this ⊢
    rw [this]; simp
  | @cons p ps u us rs vs h ih =>
    intro args e x
    cases args with
    | nil => cases e
    | cons v args =>
      simp only [List.map_cons, List.cons.injEq] at e
      simp only [List.zip_cons_cons, List.cons_append, gv_cons, List.lookup_cons]
      by_cases q : p = x
      · subst q; simp [e.1]
      · have : (x == p) = false := beq_eq_false_iff_ne.mpr (Ne.symm q)
        simp only [this, if_neg q]
        exact ih args e.2 x
theorem lookup_reverse {l : List (Str × Value)} (hd : (l.map (·.1)).Nodup) (x : Str) : l.reverse.lookup x = l.lookup x := by
  induction l with
  | nil => rfl
  | cons p l ih =>
    simp only [List.map_cons, List.nodup_cons] at hd
    obtain ⟨y, v⟩ := p
    rw [List.reverse_cons, List.lookup_append, ih hd.2]
    simp only [List.lookup_cons, List.lookup_nil]
    dsimp only at hd
    by_cases e : x == y
    · have : l.lookup x = none := by
        cases q : l.lookup x with
        | none => rfl
        | some v =>
          exfalso
          apply hd.1
          rw [← beq_iff_eq.mp e]
          clear ih hd e
          induction l with
          | nil => cases q
          | cons r l ih =>
            rw [List.lookup_cons] at q
            by_cases w : x == r.1
            · simp [beq_iff_eq.mp w]
            · simp only [w] at q
              exact List.mem_cons_of_mem _ (ih q)
      rw [this]; simp [e]
    · simp only [e]
      cases l.lookup x <;> simp
noncomputable def Pop (fs : List Frm) (P : AS → Prop) (a : AS) : Prop := ∃ f', a.fs = f' :: fs ∧ P ⟨fs, a.σ, a.gens⟩
theorem zip_fst {ps : List Str} {args : List Value} : ∀ p ∈ (ps.zip args).map (·.1), p ∈ ps := by
  intro p hp
  obtain ⟨q, hq, rfl⟩ := List.mem_map.mp hp
  exact (List.of_mem_zip hq).1
theorem zip_nodup {ps : List Str} {args : List Value} (h : ps.Nodup) : ((ps.zip args).map (·.1)).Nodup := by
  induction ps generalizing args with
  | nil => simp
  | cons p ps ih =>
    cases args with
    | nil => simp
    | cons v args =>
      simp only [List.zip_cons_cons, List.map_cons, List.nodup_cons] at h ⊢
      exact ⟨fun q => h.1 (zip_fst _ q), ih h.2⟩
@[reducible] noncomputable def retOf : Flow → Value
  | .ret v => v
  | _ => .none
section
variable {c : Cx} {A : Around} {E : Value → AS → Prop} {fs : List Frm} {σ : Addr → Option (Nat × Cell)} {g : Array GenState} {d : Nat}
theorem Wk_call_fn {fd : FuncData} {f : Addr} {o : Obj} {body : List Stmt} {args vals : List Value} {us : List AV} {ps rs : List Str} {vs : List (Option AV)} {R : Result → AS → Prop}
    (ho : c.K.lookup f = some o) (hdata : o.data = .func fd) (hcd : codeIn c.K fd.code fd.qualname = true) (hbody : fd.body = .stmts body)
    (hbind : ∀ s : Shared, c.K.In s.heap → BindsTo s fd ⟨args, []⟩ (ps.zip vals)) (hu : vals.map er = us) (hi : Init ps us rs vs) (hnd : (ps ++ rs).Nodup)
    (hcell : ∀ x ∈ fd.scope.names, x.2 ≠ .cell) (hloc : ∀ x ∈ ps, fd.scope.names.lookup x = some .local) (hA : AOk A fs (d + 1))
    (h : ∀ L, σ L = none → AOk (A.deeper (callEnv fd L f)) (⟨L, [], ps ++ rs, vs⟩ :: fs) d →
      W c (A.deeper (callEnv fd L f)) (execs body (callEnv fd L f)) (fun fl a' => Pop fs (R (.ok (.ret (retOf fl)))) a')
        (fun e a' => W c (A.deeper (callEnv fd L f)) (leaving (callEnv fd L f) e) (fun _ a'' => Pop fs (R (.error e)) a'') (fun _ _ => False) a') ⟨⟨L, [], ps ++ rs, vs⟩ :: fs, σ, g⟩)
    (hco : fd.scope.isCoroutine = false := by rfl) (hgen : fd.scope.isGenerator = false := by rfl) (hk : fd.scope.kind = .function := by rfl) :
    Wk c A (.call (.ref f) ⟨args, []⟩) R ⟨fs, σ, g⟩ := by
  intro s hs
  obtain ⟨f1, f2, f3⟩ := hs.fresh
  have X : c.K.In s.heap := c.inK.keeps hs.keep
  refine codeAny_call_def hA.room (X _ _ ho) hdata (c.nolim.keeps hs.keep) (codeRec_of X hcd) hbody (hbind s X) hcell (fun x hx => hloc _ (List.of_mem_zip hx).1) (fun h₀ hns hk₀ => ?_) hco hgen hk
  have S : St c ⟨⟨s.heap.objs.size, [], ps ++ rs, vs⟩ :: fs, σ, g⟩ { s with heap := h₀, toks := s.toks + (ps.zip vals).length } := by
    refine ⟨fun b o e => hk₀ b o (hs.keep b o e), fun f' hf => ?_, fun f' hf => ?_, ?_, fun x k cl e => ?_, hs.os, hs.gens⟩
    · rcases List.mem_cons.mp hf with rfl | hf
      · refine ⟨_, hns, fun x _ => ?_, fun p hp => by cases hp⟩
        dsimp only
        rw [lookup_reverse (zip_nodup (List.nodup_append.mp hnd).1)]
        exact hi.gv vals hu x
      · exact (hs.fr f' hf).keeps fun b _ o e => hk₀ b o e
    · rcases List.mem_cons.mp hf with rfl | hf
      · intro x hx
        simp only [Frm.as, List.map_nil, List.mem_singleton] at hx
        rw [hx]; exact f3
      · exact hs.nb f' hf
    · rw [List.flatMap_cons]
      refine List.nodup_append.mpr ⟨by simp [Frm.as], hs.nd, fun x hx y hy e => ?_⟩
      simp only [Frm.as, List.map_nil, List.mem_singleton] at hx
      exact f2 (by rw [← hx, e]; exact hy)
    · obtain ⟨⟨o', ho', ok⟩, r1, r2⟩ := hs.own x k cl e
      refine ⟨⟨o', hk₀ _ _ ho', ok⟩, r1, fun q => ?_⟩
      rw [List.flatMap_cons] at q
      rcases List.mem_append.mp q with q | q
      · simp only [Frm.as, List.map_nil, List.mem_singleton] at q
        rw [q] at e; dsimp only at e f1; rw [f1] at e; cases e
      · exact r2 q
  refine wpAny_mono (h _ f1 (hA.deeper hk rfl) _ S) (fun fl s' pq => ?_) (fun e s' pz41 => pz41.elim fun a' pz42 => pz42.elim fun h1 q => ?_)
  obtain ⟨a', h1, f', e1, q⟩ := pq
  · obtain ⟨fs', σ', g'⟩ := a'
    dsimp only at e1 q; subst e1
    exact ⟨_, h1.pop, by cases fl <;> exact q⟩
  · refine wpAny_mono (q s' h1) (fun _ s'' pq => ?_) fun _ _ pz43 => pz43.elim fun _ pz44 => pz44.elim fun _ x => x.elim
    obtain ⟨a'', h2, f', e1, q⟩ := pq
    obtain ⟨fs', σ', g'⟩ := a''
    dsimp only at e1 q; subst e1
    exact ⟨_, h2.pop, q⟩
theorem W_call {f : Value} {args : List Value} {kw : List (Str × Value)} {a : AS} {Q : Value → AS → Prop}
    (h : Wk c A (.call f ⟨args, kw⟩) (fun r a' => match r with | .ok (.ret v) => Q v a' | .ok _ => False | .error e => E e a') a) : W c A (call f args kw) Q E a := fun s hs =>
  wpAny_call (codeAny_mono (h s hs) fun r s' pz45 => pz45.elim fun a' pz46 => pz46.elim fun h1 q => by
    rcases r with e | (_ | _ | _ | v) <;> first | exact ⟨a', h1, q⟩ | exact q.elim)
end
end Mine.Internal
namespace Mine.Internal
open PySem PySem.W PyProof.Rows PySem.Calls
theorem wpAny_keep' {M : Model} {A : Around} {α : Type} {vs : List Value} {m : Sem α} {Q : α → Shared → Prop} {E : Value → Shared → Prop} {s : Shared} (h : wpAny M A m Q E s) : wpAny M A (m.keep vs) Q E s :=
  fun Γ p hΓ => by rw [Sem.wp_keep]; exact h Γ p hΓ
theorem wpAny_operate' {M : Model} {A : Around} {vs : List Value} {m : Sem Value} {Q : Value → Shared → Prop} {E : Value → Shared → Prop} {s : Shared} (h : wpAny M A m Q E s) : wpAny M A (operate vs m) Q E s :=
  fun Γ p hΓ => by rw [Sem.wp_operate]; exact h Γ p hΓ
theorem wpAny_point' {M : Model} {A : Around} {Q : Unit → Shared → Prop} {E : Value → Shared → Prop} {s : Shared} (h : Q () s) : wpAny M A point Q E s :=
  fun Γ p hΓ => h
noncomputable def Kp (c : Cx) (f : Value) (a : AS) : Prop := ∀ s, St c a s → ∃ k, Looks (model c.prog c.w) s.heap (keeperOf f) k
section
variable {c : Cx} {A : Around} {E : Value → AS → Prop} {a : AS} {env : Env}
theorem Kp.builtin {id : String} : Kp c (.builtin id) a := fun s hs => ⟨_, Looks.of_pure rfl⟩
theorem Kp.type {id : String} : Kp c (.type id) a := fun s hs => ⟨_, Looks.of_pure rfl⟩
theorem W_callWith {f : Value} {first : List Value} {pos : Pos} {args : List (Bool × Sem Value)} {kws : List (Option Str × Sem Value)} {Q : Value → AS → Prop}
    (h : W c A (evalArgs f true args kws) (fun x a₁ => Kp c f a₁ ∧ W c A (call f (first ++ x.pos) x.kw) Q E a₁) E a) : W c A (callWith pos f first args kws) Q E a := by
  intro s hs
  unfold callWith
  refine wpAny_bind (wpAny_holding (wpAny_mono (h s hs) (fun x s₁ pz47 => pz47.elim fun a₁ pz48 => pz48.elim fun h1 pz49 => pz49.elim fun kp q => wpAny_bind (wpAny_standAt ?_)) fun _ _ x => x))
  obtain ⟨k, hk⟩ := kp s₁ h1
  have main := q s₁ h1
  refine wpAny_bind (hk.here ?_)
  have fin : ∀ (v : Value) (s₂ : Shared), (∃ a', St c a' s₂ ∧ Q v a') → wpAny (model c.prog c.w) A (do holding [v] point; pure v) (fun v s' => ∃ a', St c a' s' ∧ Q v a') (fun e s' => ∃ a', St c a' s' ∧ E e a') s₂ := fun v s₂ x =>
    wpAny_bind (wpAny_holding (wpAny_point' (wpAny_pure x)))
  have main' := wpAny_mono main fin (fun _ _ x => x)
  cases k <;> cases hst : (args.any (·.1) || kws.any (·.1.isNone)) <;> dsimp only <;> (try split) <;> first
    | exact wpAny_bind main'
    | exact wpAny_bind (wpAny_keep' main')
    | exact wpAny_bind (wpAny_operate' main')
theorem W_evalArgs {f : Value} {x : Sem Value} {rest : List (Bool × Sem Value)} {Q : Args → AS → Prop}
    (h : W c A (spliced ((false, x) :: rest)) (fun vs a₁ => Q ⟨vs, []⟩ a₁) E a) : W c A (evalArgs f true ((false, x) :: rest) []) Q E a := by
  intro s hs
  refine evalArgs_kw rfl (wpAny_mono (h s hs) (fun vs s₁ q => ?_) fun _ _ x => x)
  exact wpAny_evalAll_nil q
theorem W_evalArgs_nil {f : Value} {Q : Args → AS → Prop} (h : Q ⟨[], []⟩ a) : W c A (evalArgs f true [] []) Q E a := by
  intro s hs
  exact evalArgs_kw_nil rfl (wpAny_evalAll_nil ⟨a, hs, h⟩)
theorem W_spliced_nil {Q : List Value → AS → Prop} (h : Q [] a) : W c A (spliced []) Q E a := fun s hs => spliced_nil ⟨a, hs, h⟩
theorem W_spliced_cons {x : Sem Value} {rest : List (Bool × Sem Value)} {Q : List Value → AS → Prop}
    (h : W c A x (fun v a₁ => W c A (spliced rest) (fun vs a₂ => Q (v :: vs) a₂) E a₁) E a) : W c A (spliced ((false, x) :: rest)) Q E a := by
  show W c A (x >>= _) Q E a
  refine W_bind (W_mono h (fun v a₁ q => ?_) fun _ _ x => x)
  refine W_bind (W_pure ?_)
  exact W_bind (W_holding (W_mono q (fun vs a₂ q => W_pure q) fun _ _ x => x))
theorem W_Call_Name {x : Str} {np pos : Pos} {args : List Expr} {Q : Value → AS → Prop}
    (h : W c A (eval (.Name x np) env) (fun f a₁ => W c A (callWith pos f [] (backTo pos (starEach args env)) []) Q E a₁) E a) : W c A (eval (.Call (.Name x np) args [] pos) env) Q E a := fun s hs =>
  wpAny_Call_NameR (wpAny_mono (h s hs) (fun f s₁ pz50 => pz50.elim fun a₁ pz51 => pz51.elim fun h1 q => q s₁ h1) fun _ _ x => x)
theorem W_List {elts : List Expr} {pos : Pos} {Q : Value → AS → Prop}
    (h : W c A (spliced (backTo pos (starEach elts env))) (fun vs a₁ => W c A (newList vs) Q E a₁) E a) : W c A (eval (.List elts pos) env) Q E a := by
  show W c A (do standAt pos; newList (← spliced (backTo pos (starEach elts env)))) Q E a
  exact W_bind (W_standAt (W_bind h))
theorem W_Tuple {elts : List Expr} {k : Nat} {pos : Pos} {Q : Value → AS → Prop}
    (h : W c A (spliced (backTo pos (starEach elts env))) (fun vs a₁ => W c A (newTuple vs) Q E a₁) E a) : W c A (eval (.Tuple elts k pos) env) Q E a := by
  show W c A (do standAt pos; newTuple (← spliced (backTo pos (starEach elts env)))) Q E a
  exact W_bind (W_standAt (W_bind h))
theorem W_Const_int {i : Int} {k : Nat} {pos : Pos} {Q : Value → AS → Prop} (h : ∀ t, Q (.int i t) a) : W c A (eval (.Constant (.int i) k pos) env) Q E a := fun s hs =>
  wpAny_Constant_int ⟨a, hs.of_eq, h _⟩
theorem W_Const_str {x : Str} {k : Nat} {pos : Pos} {Q : Value → AS → Prop} (h : ∀ t, Q (.str x t) a) : W c A (eval (.Constant (.str x) k pos) env) Q E a := fun s hs =>
  wpAny_mkText ⟨a, hs.of_eq, h _⟩
theorem W_Const_none {k : Nat} {pos : Pos} {Q : Value → AS → Prop} (h : Q .none a) : W c A (eval (.Constant .none k pos) env) Q E a := fun s hs => wpAny_pure ⟨a, hs, h⟩
theorem W_Const_bool {b : Bool} {k : Nat} {pos : Pos} {Q : Value → AS → Prop} (h : Q (.bool b) a) : W c A (eval (.Constant (.bool b) k pos) env) Q E a := fun s hs => wpAny_pure ⟨a, hs, h⟩
end
end Mine.Internal
namespace Mine.Internal
open PySem PySem.W PyProof.Rows PySem.Calls
noncomputable def AV.plain : AV → Bool
  | .other _ => false
  | _ => true
theorem handed_plain {u : Value} {v : AV} (e : er u = v) (h : v.plain = true) : handedIn u = true := by
  subst e
  cases u <;> first | rfl | (simp [er, AV.plain] at h)
theorem news_all {s : Shared} {L dx : Addr} {m : Str → Option Value} {od : Obj} (hn : s.heap.Ns L m) (hd : s.heap.get? dx = some od) (ne : dx ≠ L) :
    ∃ others : List (Addr × Obj), Fr {} L s.heap m ∧ News {} L s.heap (others ++ (dx, od) :: []) ∧ (∀ p ∈ others, p.1 ≠ dx) ∧ ∀ b o, b ≠ dx → b ≠ L → s.heap.get? b = some o → (b, o) ∈ others := by
  have emp : ∀ b, (({} : Heap).get? b) = none := fun b => by simp [Heap.get?]
  refine ⟨(List.range s.heap.objs.size).filterMap fun b => if b = dx ∨ b = L then none else (s.heap.get? b).map (b, ·), ⟨hn, (fun b o e => by rw [emp] at e; cases e), (by first | decide | simp)⟩, fun p hp => ?_, fun p hp => ?_, fun b o h1 h2 h3 => ?_⟩
  · rcases List.mem_append.mp hp with hp | hp
    · obtain ⟨b, _, e⟩ := List.mem_filterMap.mp hp
      split at e
      · cases e
      · rename_i h
        obtain ⟨o, ho, rfl⟩ := Option.map_eq_some_iff.mp e
        simp only [not_or] at h
        exact ⟨ho, h.2, emp _⟩
    · obtain rfl := List.mem_singleton.mp hp
      exact ⟨hd, ne, emp _⟩
  · obtain ⟨b, _, e⟩ := List.mem_filterMap.mp hp
    split at e
    · cases e
    · rename_i h
      obtain ⟨o, ho, rfl⟩ := Option.map_eq_some_iff.mp e
      simp only [not_or] at h
      exact h.1
  · refine List.mem_filterMap.mpr ⟨b, List.mem_range.mpr (Heap.lt_size h3), ?_⟩
    rw [if_neg (by simp [h1, h2]), h3]; rfl
theorem St.put' {c : Cx} {L : Addr} {cl ns vs fs σ g} {s : Shared} {h' : Heap} {m : Str → Option Value} {x : Addr} {p : Nat × Cell} {k' : Nat} {cl' : Cell} {o' : Obj} (h : St c ⟨⟨L, cl, ns, vs⟩ :: fs, σ, g⟩ s) (hx : σ x = some p)
    (hm : ∀ m', s.heap.Ns L m' → m' = m) (hm' : h'.Ns L m)
    (hs : ∀ b o, b ≠ x → b ≠ L → s.heap.get? b = some o → h'.get? b = some o) (ho : h'.get? x = some o') (hk : cl'.ok c o') :
    St c ⟨⟨L, cl, ns, vs⟩ :: fs, upd σ x (some (k', cl')), g⟩ { s with heap := h' } := by
  have hxo := h.own x p.1 p.2 hx
  have hLb := h.nb _ (List.mem_cons_self ..) L (by simp [Frm.as])
  have nL : ∀ b ∈ cl.map (·.2), b ≠ L := fun b hb e => by
    have := h.nd; rw [List.flatMap_cons] at this
    exact (List.nodup_cons.mp (List.nodup_append.mp this).1).1 (e ▸ hb)
  refine ⟨fun b o e => hs b o (ne_new e hxo.2.1) (ne_new e hLb) (h.keep b o e), fun f hf => ?_, h.nb, h.nd, fun y k cl e => ?_, h.os, h.gens⟩
  · rcases List.mem_cons.mp hf with rfl | hf
    · obtain ⟨m0, hn0, h2, h3⟩ := h.fr _ (List.mem_cons_self ..)
      have e0 := hm m0 hn0
      subst e0
      refine ⟨_, hm', h2, fun p hp => ?_⟩
      obtain ⟨ov, ⟨oc, hoc, hod⟩, eo⟩ := h3 p hp
      refine ⟨ov, ⟨oc, hs _ _ (fun q => ?_) (nL _ (List.mem_map_of_mem hp)) hoc, hod⟩, eo⟩
      exact hxo.2.2 (by rw [List.flatMap_cons]; exact List.mem_append_left _ (List.mem_cons_of_mem _ (q ▸ List.mem_map_of_mem hp)))
    · refine (h.fr f (List.mem_cons_of_mem _ hf)).keeps fun b hb o e => hs b o (fun q => ?_) (mem_as_ne h.nd (by simp [Frm.as]) hf hb) e
      exact hxo.2.2 (List.mem_flatMap.mpr ⟨f, List.mem_cons_of_mem _ hf, q ▸ hb⟩)
  · by_cases q : y = x
    · subst q
      simp only [upd_self, Option.some.injEq, Prod.mk.injEq] at e
      obtain ⟨rfl, rfl⟩ := e
      exact ⟨⟨o', ho, hk⟩, hxo.2⟩
    · simp only [upd_ne q] at e
      obtain ⟨⟨o, ho1, ok⟩, r1, r2⟩ := h.own y k cl e
      refine ⟨⟨o, hs y o q (fun z => r2 ?_) ho1, ok⟩, r1, r2⟩
      rw [List.flatMap_cons]; exact List.mem_append_left _ (by simp [Frm.as, z])
theorem ns_unique {h : Heap} {L : Addr} {m m' : Str → Option Value} (a : h.Ns L m) (b : h.Ns L m') : m' = m := by
  obtain ⟨o, es, ep, ho, hd, _, hf⟩ := a
  obtain ⟨o', es', ep', ho', hd', _, hf'⟩ := b
  rw [ho] at ho'; cases ho'
  rw [hd] at hd'; cases hd'
  funext x; rw [← hf, ← hf']
inductive PutAt : List (Str × AV) → Str → AV → List (Str × AV) → Prop
  | here {x w v l} : PutAt ((x, w) :: l) x v ((x, v) :: l)
  | there {y w x v l l'} : PutAt l x v l' → PutAt ((y, w) :: l) x v ((y, w) :: l')
  | new {x v} : PutAt [] x v [(x, v)]
theorem getL_of {es : List DictEntry} {kvs : List (Str × AV)} (h : F2 (fun (e : DictEntry) (p : Str × AV) => (∃ t, e.key = .str p.1 t) ∧ er e.val = p.2) es kvs) (hd : (kvs.map (·.1)).Nodup) {name : Str} {v : AV} (hv : (name, v) ∈ kvs) :
    ∃ u, getL name es = some (some u) ∧ er u = v := by
  induction h with
  | nil => cases hv
  | @cons e p es kvs hr _ ih =>
    obtain ⟨⟨t, ek⟩, ev⟩ := hr
    simp only [List.map_cons, List.nodup_cons] at hd
    rcases List.mem_cons.mp hv with q | q
    · subst q
      refine ⟨e.val, ?_, ev⟩
      unfold getL
      rw [List.find?_cons, ek]
      simp [Value.isStr]
    · obtain ⟨u, hu, eu⟩ := ih hd.2 q
      refine ⟨u, ?_, eu⟩
      have hne : p.1 ≠ name := fun z => hd.1 (z ▸ List.mem_map_of_mem q)
      unfold getL at hu ⊢
      rw [List.find?_cons, ek]
      have : (Value.str p.1 t).isStr name = false := by simp [Value.isStr, hne]
      rw [this]
      revert hu
      cases q' : es.find? (fun x => x.key.isStr name) with
      | some e' => exact id
      | none => intro hu; by_cases z : es.any (·.refKey) = true <;> simp [z] at hu
theorem noRef {es : List DictEntry} {kvs : List (Str × AV)} (h : F2 (fun (e : DictEntry) (p : Str × AV) => (∃ t, e.key = .str p.1 t) ∧ er e.val = p.2) es kvs) : es.any (·.refKey) = false := by
  induction h with
  | nil => rfl
  | @cons e p es kvs hr _ ih =>
    obtain ⟨⟨t, ek⟩, ev⟩ := hr
    rw [List.any_cons, ih]
    obtain ⟨eh, ekk, evv⟩ := e
    dsimp only at ek; subst ek; rfl
theorem getL_none {es : List DictEntry} {kvs : List (Str × AV)} (h : F2 (fun (e : DictEntry) (p : Str × AV) => (∃ t, e.key = .str p.1 t) ∧ er e.val = p.2) es kvs) {name : Str} (hv : name ∉ kvs.map (·.1)) :
    getL name es = some none := by
  have h1 : es.find? (fun x => x.key.isStr name) = none ∧ es.any (·.refKey) = false := by
    induction h with
    | nil => exact ⟨rfl, rfl⟩
    | @cons e p es kvs hr _ ih =>
      obtain ⟨⟨t, ek⟩, ev⟩ := hr
      simp only [List.map_cons, List.mem_cons, not_or] at hv
      have : (Value.str p.1 t).isStr name = false := by simp [Value.isStr, Ne.symm hv.1]
      obtain ⟨i1, i2⟩ := ih hv.2
      refine ⟨by rw [List.find?_cons, ek, this]; exact i1, ?_⟩
      rw [List.any_cons, i2]
      obtain ⟨eh, ekk, evv⟩ := e
      dsimp only at ek; subst ek; rfl
  unfold getL; rw [h1.1, h1.2]; rfl
theorem putL_of {w : World} {es : List DictEntry} {kvs kvs' : List (Str × AV)} (h : F2 (fun (e : DictEntry) (p : Str × AV) => (∃ t, e.key = .str p.1 t) ∧ er e.val = p.2) es kvs) {name : Str} {u : Value} {hsh : Int} {t : Tok}
    (hp : PutAt kvs name (er u) kvs') (hd : (kvs'.map (·.1)).Nodup) : F2 (fun (e : DictEntry) (p : Str × AV) => (∃ t, e.key = .str p.1 t) ∧ er e.val = p.2) (putL name hsh (.str name t) u es) kvs' := by
  generalize hv : er u = v at hp
  induction hp generalizing es with
  | @here x w v l =>
    cases h with
    | @cons e p es kvs hr hl =>
      obtain ⟨⟨t', ek⟩, ev⟩ := hr
      unfold putL
      rw [ek]; simp only [Value.isStr, beq_self_eq_true, if_true]
      exact .cons ⟨⟨t', rfl⟩, hv⟩ hl
  | @there y w x v l l' hq ih =>
    cases h with
    | @cons e p es kvs hr hl =>
      obtain ⟨⟨t', ek⟩, ev⟩ := hr
      simp only [List.map_cons, List.nodup_cons] at hd
      have hx : x ∈ l'.map (·.1) := by
        clear ih hd hl hv ev
        induction hq with
        | here => simp
        | there _ ih => exact List.mem_cons_of_mem _ ih
        | new => simp
      have hne : y ≠ x := fun z => hd.1 (z ▸ hx)
      unfold putL
      rw [ek]; simp only [Value.isStr, beq_iff_eq, if_neg hne]
      exact .cons ⟨⟨t', ek⟩, ev⟩ (ih hl hd.2 hv)
  | new =>
    cases h
    exact .cons ⟨⟨t, rfl⟩, hv⟩ .nil
theorem F2.length {α β : Type} {R : α → β → Prop} {l : List α} {m : List β} (h : F2 R l m) : l.length = m.length := by
  induction h with
  | nil => rfl
  | cons _ _ ih => simp [ih]
structure AttrOk (K : Frag) (C : Addr) (name : Str) : Prop where
  get : plainGet K C name = true
  dict : hasDictIn K C = true
  find : ∃ attr, findIn K (.ref C) name = some attr ∧ noGet K attr = true
  set : findIn K (.ref C) "__setattr__" = some (some (.builtin "object.__setattr__"))
  over : plainOver K C = true
  taker : takerIn K C name = some none
section
variable {c : Cx} {A : Around} {E : Value → AS → Prop} {a : AS} {L : Addr} {cl : List (Str × Addr)} {ns : List Str} {vs : List (Option AV)} {fs : List Frm} {σ : Addr → Option (Nat × Cell)} {g : Array GenState}
theorem inst_at {s : Shared} {x C dx : Addr} {sl : List (Option AV)} {k k' : Nat} {kvs : List (Str × AV)} (hs : St c a s) (hx : a.σ x = some (k, .inst C dx sl)) (hd : a.σ dx = some (k', .attrs kvs)) :
    ∃ ox es n, InstAt s.heap x ox C (some (dictOf es n)) ∧ ox.dict = some dx ∧ ox.data = .plain ∧ ox.slots.toList.map (·.map er) = sl ∧
      F2 (fun (e : DictEntry) (p : Str × AV) => (∃ t, e.key = .str p.1 t) ∧ er e.val = p.2) es kvs ∧ s.heap.get? dx = some (dictOf es n) := by
  obtain ⟨⟨ox, ho, hc, hdd, hpl, hsl⟩, _⟩ := hs.own x k _ hx
  obtain ⟨⟨od, hod, es, n, rfl, hf⟩, _⟩ := hs.own dx k' _ hd
  refine ⟨ox, es, n, ⟨ho, hc, ?_, by rw [hdd]; exact hod⟩, hdd, hpl, hsl, hf, hod⟩
  unfold notCls; rw [hpl]
theorem W_getAttr {x C dx : Addr} {sl : List (Option AV)} {k k' : Nat} {kvs : List (Str × AV)} {name : Str} {v : AV} {expr : Bool} {Q : Value → AS → Prop} (hx : a.σ x = some (k, .inst C dx sl)) (hd : a.σ dx = some (k', .attrs kvs))
    (hc : AttrOk c.K C name) (hnd : (kvs.map (·.1)).Nodup) (hv : (name, v) ∈ kvs) (h : All v (fun u => Q u a)) (hp : v.plain = true := by rfl) : W c A (getAttr (.ref x) name expr) Q E a := by
  intro s hs
  obtain ⟨ox, es, n, I, _, _, _, hf, _⟩ := inst_at hs hx hd
  obtain ⟨u, hu, eu⟩ := getL_of hf hnd hv
  obtain ⟨attr, f1, f2⟩ := hc.find
  exact get_value (c.inK.keeps hs.keep) I (plainGet_of hc.get).1 (findObj_own hc.dict f1 f2 (by rw [lookIn_dict]; exact hu)) (handed_plain eu hp) ⟨a, hs.of_eq, h.at eu⟩
theorem W_getMethod {x C dx f : Addr} {sl : List (Option AV)} {k k' : Nat} {kvs : List (Str × AV)} {name : Str} {pl : Sem Bool} {Q : Value × List Value → AS → Prop} (hx : a.σ x = some (k, .inst C dx sl)) (hd : a.σ dx = some (k', .attrs kvs))
    (hg : plainGet c.K C name = true) (hf : findIn c.K (.ref C) name = some (some (.ref f))) (ht : isFn c.K (.ref f) = true) (hv : name ∉ kvs.map (·.1)) (h : Q (.ref f, [.ref x]) a) : W c A (getMethod (.ref x) name pl) Q E a := by
  intro s hs
  obtain ⟨ox, es, n, I, _, _, _, hf', _⟩ := inst_at hs hx hd
  exact method_fn (c.inK.keeps hs.keep) I (plainGet_of hg).1 (plainGet_of hg).2 hf (beq_iff_eq.mp ht) (by show (lookIn name (dictOf es n)).map _ = _; rw [lookIn_dict, getL_none hf' hv]; rfl) ⟨a, hs, h⟩
theorem W_setAttr {x C dx : Addr} {sl : List (Option AV)} {k k' : Nat} {kvs kvs' : List (Str × AV)} {name : Str} {u : Value} {Q : Unit → AS → Prop} (hx : σ x = some (k, .inst C dx sl)) (hd : σ dx = some (k', .attrs kvs))
    (hc : AttrOk c.K C name) (hpt : PutAt kvs name (er u) kvs') (hnd : (kvs'.map (·.1)).Nodup) (hz : kvs'.length ≤ 1000)
    (h : Q () ⟨⟨L, cl, ns, vs⟩ :: fs, upd σ dx (some (k', .attrs kvs')), g⟩) : W c A (setAttr (.ref x) name u) Q E ⟨⟨L, cl, ns, vs⟩ :: fs, σ, g⟩ := by
  intro s hs
  obtain ⟨ox, es, n, I, hdd, _, _, hf, hod⟩ := inst_at hs hx hd
  obtain ⟨m, hn, _, _⟩ := hs.fr _ (List.mem_cons_self ..)
  have ne : dx ≠ L := fun e => (hs.own dx k' _ hd).2.2 (by rw [List.flatMap_cons]; exact List.mem_append_left _ (by simp [Frm.as, e]))
  obtain ⟨others, F, N, h1, h2⟩ := news_all hn hod ne
  have hnew := putL_of (w := c.w) hf (hsh := PyData.keyHash c.w.params name) (t := s.toks + 1) hpt hnd
  have hl : (lookIn name (dictOf es n)).isSome = true := by
    rw [lookIn_dict]
    have := noRef hf
    unfold getL; split <;> simp_all
  refine set_plain (c.inK.keeps hs.keep) I hc.set (osa_dict (s := { s with toks := s.toks + 1 }) (post := []) F N (c.inK.keeps hs.keep) I hdd hc.over hc.taker hc.dict hl h1 (by first | decide | simp)
    (by rw [putName_dict]) rfl (by rw [F2.length hnew]; exact hz) fun h' F' N' => ?_)
  refine ⟨_, St.of_eq (hs.put' (h' := h') (m := m) (cl' := .attrs kvs') hd (fun m' e => ns_unique hn e) F'.ns (fun b o q1 q2 q3 => (N' (b, o) (List.mem_append_left _ (h2 b o q1 q2 q3))).1) (N' _ (List.mem_append_right _ (List.mem_singleton.mpr rfl))).1 ⟨_, _, rfl, hnew⟩), h⟩
end
end Mine.Internal
namespace Mine.Internal
open PySem PySem.W PyProof.Rows PySem.Calls
noncomputable def padSet : List (Option AV) → Nat → AV → List (Option AV)
  | [], 0, v => [some v]
  | [], i + 1, v => none :: padSet [] i v
  | _ :: l, 0, v => some v :: l
  | x :: l, i + 1, v => x :: padSet l i v
theorem padSet_eq : ∀ (us : List (Option Value)) (i : Nat) (u : Value),
    ((us ++ List.replicate (i + 1 - us.length) (none : Option Value)).set i (some u)).map (fun o : Option Value => o.map er) = padSet (us.map (fun o : Option Value => o.map er)) i (er u)
  | [], 0, u => rfl
  | [], i + 1, u => by
    have := padSet_eq [] i u
    simp only [List.nil_append, List.length_nil, Nat.sub_zero, List.map_nil] at this ⊢
    rw [List.replicate_succ, List.set_cons_succ, List.map_cons, this]
    simp [padSet]
  | x :: us, 0, u => by rw [show 0 + 1 - (x :: us).length = 0 from Nat.sub_eq_zero_of_le (Nat.succ_le_succ (Nat.zero_le _)), List.replicate_zero, List.append_nil]; rfl
  | x :: us, i + 1, u => by
    have := padSet_eq us i u
    simp only [List.cons_append, List.length_cons, List.set_cons_succ, List.map_cons, padSet]
    rw [show i + 1 + 1 - (us.length + 1) = i + 1 - us.length by lia, this]
structure SlotOk (K : Frag) (C : Addr) (name : Str) (i : Nat) : Prop where
  get : plainGet K C name = true
  cls : isClsIn K C = true
  set : findIn K (.ref C) "__setattr__" = some (some (.builtin "object.__setattr__"))
  over : plainOver K C = true
  ex : ∃ p, findIn K (.ref C) name = some (some (.ref p)) ∧ specialIn K (.ref p) "__get__" = some (some (.builtin "member_descriptor.__get__")) ∧ takesIn K (.ref p) = some true ∧ slotIn K p C = some i ∧
    takerIn K C name = some (some (.ref p)) ∧ typeIn K (.ref p) = some (.type "member_descriptor")
section
variable {c : Cx} {A : Around} {E : Value → AS → Prop} {a : AS} {L : Addr} {cl : List (Str × Addr)} {ns : List Str} {vs : List (Option AV)} {fs : List Frm} {σ : Addr → Option (Nat × Cell)} {g : Array GenState}
theorem W_getSlot {x C dx : Addr} {sl : List (Option AV)} {k k' : Nat} {kvs : List (Str × AV)} {name : Str} {v : AV} {i : Nat} {expr : Bool} {Q : Value → AS → Prop} (hx : a.σ x = some (k, .inst C dx sl)) (hd : a.σ dx = some (k', .attrs kvs))
    (hc : SlotOk c.K C name i) (hv : sl[i]? = some (some v)) (h : All v (fun u => Q u a)) (hp : v.plain = true := by rfl) : W c A (getAttr (.ref x) name expr) Q E a := by
  intro s hs
  obtain ⟨ox, es, n, I, _, _, hsl, hf, _⟩ := inst_at hs hx hd
  have X := c.inK.keeps hs.keep
  obtain ⟨p, f1, f2, f3, f4, _, _⟩ := hc.ex
  have : ∃ u, (ox.slots[i]?).join = some u ∧ er u = v := by
    rw [← hsl, List.getElem?_map, Array.getElem?_toList] at hv
    cases q : ox.slots[i]? with
    | none => rw [q] at hv; cases hv
    | some o =>
      rw [q] at hv
      cases o with
      | none => cases hv
      | some u => exact ⟨u, rfl, Option.some.inj (Option.some.inj hv)⟩
  obtain ⟨u, hu, eu⟩ := this
  exact get_bind X I (plainGet_of hc.get).1 (findObj_data hc.cls f1 f2 f3) (plainGet_of hc.get).2 (wpAny_call (slot_get (s := { s with toks := s.toks + 1 }) X I f4 hu (handed_on (handed_plain eu hp) ⟨a, hs.of_eq, h.at eu⟩)))
theorem W_setSlot {x C dx : Addr} {sl : List (Option AV)} {k k' : Nat} {kvs : List (Str × AV)} {name : Str} {u : Value} {i : Nat} {Q : Unit → AS → Prop} (hx : σ x = some (k, .inst C dx sl)) (hd : σ dx = some (k', .attrs kvs))
    (hc : SlotOk c.K C name i) (hz : i < 1000)
    (h : Q () ⟨⟨L, cl, ns, vs⟩ :: fs, upd σ x (some (k, .inst C dx (padSet sl i (er u)))), g⟩) : W c A (setAttr (.ref x) name u) Q E ⟨⟨L, cl, ns, vs⟩ :: fs, σ, g⟩ := by
  intro s hs
  obtain ⟨ox, es, n, I, hdd, hpl, hsl, hf, hod⟩ := inst_at hs hx hd
  have X := c.inK.keeps hs.keep
  obtain ⟨p, _, _, _, f4, f5, f6⟩ := hc.ex
  obtain ⟨m, hn, _, _⟩ := hs.fr _ (List.mem_cons_self ..)
  have ne : x ≠ L := fun e => (hs.own x k _ hx).2.2 (by rw [List.flatMap_cons]; exact List.mem_append_left _ (by simp [Frm.as, e]))
  obtain ⟨others, F, N, h1, h2⟩ := news_all hn I.at_ ne
  refine set_plain X I hc.set (osa_descr (s := { s with toks := s.toks + 1 }) KF.slot_mset X I hc.over f5 f6 (slot_set (s := { s with toks := s.toks + 1 }) (post := []) F N X I f4 hz h1 (by first | decide | simp) rfl ?_ fun h' F' N' => ?_))
  · obtain ⟨oc, od, oda, osl⟩ := ox
    dsimp only at hpl; subst hpl; rfl
  · refine ⟨_, St.of_eq (hs.put' (h' := h') (m := m) (cl' := .inst C dx (padSet sl i (er u))) hx (fun m' e => ns_unique hn e) F'.ns (fun b o q1 q2 q3 => (N' (b, o) (List.mem_append_left _ (h2 b o q1 q2 q3))).1) (N' _ (List.mem_append_right _ (List.mem_singleton.mpr rfl))).1 ⟨I.cls, hdd, hpl, ?_⟩), h⟩
    rw [← hsl, ← padSet_eq]
    simp
theorem W_Attribute {value : Expr} {attr : Str} {pos : Pos} {env : Env} {Q : Value → AS → Prop} (h : W c A (eval value env) (fun o a₁ => W c A (getAttr o attr true) Q E a₁) E a)
    (hb : attributeBase value attr env (eval value env) = eval value env := by with_unfolding_all rfl) : W c A (eval (.Attribute value attr pos) env) Q E a := by
  show W c A (attributeBase value attr env (eval value env) >>= _) Q E a
  rw [hb]
  refine W_bind (W_mono h (fun o a₁ q => W_bind (W_standAt (W_bind (W_holding (W_mono q (fun r a₂ q => ?_) fun _ _ x => x))))) fun _ _ x => x)
  exact W_bind (fun s hs => wpAny_letTemporaryGo ⟨_, hs, W_pure q⟩)
theorem W_Assign_Attr {o : Expr} {attr : Str} {p : Pos} {value : Expr} {pos : Pos} {env : Env} {Q : Flow → AS → Prop}
    (h : W c A (eval value env) (fun v a₁ => W c A (eval o env) (fun ov a₂ => W c A (setAttr ov attr v) (fun _ => Q .next) E a₂) E a₁) E a)
    (hs : exec (.Assign [.Attribute o attr p] value pos) env = (do standAt pos; let v ← eval value env; assign (.Attribute o attr p) env v; pure .next) := by with_unfolding_all rfl) : W c A (exec (.Assign [.Attribute o attr p] value pos) env) Q E a := by
  rw [hs]
  refine W_bind (W_standAt (W_bind (W_mono h (fun v a₁ q => W_bind ?_) fun _ _ x => x)))
  show W c A (do let ov ← holding [v] (eval o env); standAt p.atName; holding [v, ov] (setAttr ov attr v); release [v, ov] []) _ E a₁
  refine W_bind (W_holding (W_mono q (fun ov a₂ q => W_bind (W_standAt (W_bind (W_holding (W_mono q (fun _ a₃ q => ?_) fun _ _ x => x))))) fun _ _ x => x))
  intro s hs Γ p' hΓ
  rw [Sem.wp_release]
  exact ⟨a₃, hs, W_pure q⟩
end
end Mine.Internal
namespace Mine.Internal
open PySem PySem.W PyProof.Rows PySem.Calls PySem.F PySem.AutoSeq1 PySem.MeetsSeq PySem.MeetsSeq3
theorem sizeLine_big {n : Nat} (h : n ≤ 1000000) : n ≤ sizeLine := by rw [sizeLine_eq]; lia
theorem fits_big {n : Nat} (h : n ≤ 1000000) : (n : Int) < 2 ^ 63 := by lia
section
variable {c : Cx} {A : Around} {E : Value → AS → Prop} {a : AS} {fs : List Frm} {σ : Addr → Option (Nat × Cell)} {g : Array GenState} {k : Nat} {D : Addr} {vs : List AV}
theorem own_list {s : Shared} (hs : St c a s) (h : a.σ D = some (k, .list vs)) : ∃ us n, s.heap.get? D = some (listOf us n) ∧ us.toList.map er = vs := by
  obtain ⟨⟨o, ho, us, n, rfl, e⟩, _⟩ := hs.own D k _ h
  exact ⟨us, n, ho, e⟩
theorem own_tuple {s : Shared} (hs : St c a s) (h : a.σ D = some (k, .tuple vs)) : ∃ us n, s.heap.get? D = some { cls := .type "tuple", data := .seq us n } ∧ us.toList.map er = vs := by
  obtain ⟨⟨o, ho, us, n, rfl, e⟩, _⟩ := hs.own D k _ h
  exact ⟨us, n, ho, e⟩
theorem isList_of {h : Heap} {us : Array Value} {n : Nat} (ho : h.get? D = some (listOf us n)) : h.IsList D us := ⟨_, ho, rfl, n, rfl⟩
theorem size_of {us : Array Value} (e : us.toList.map er = vs) : us.size = vs.length := by rw [← e]; simp
theorem get_of {us : Array Value} (e : us.toList.map er = vs) {i : Nat} {v : AV} (h : vs[i]? = some v) : ∃ u, us[i]? = some u ∧ er u = v := by
  rw [← e, List.getElem?_map, Array.getElem?_toList] at h
  exact map_some_of h
theorem W_newList {us : List Value} {Q : Value → AS → Prop} (k : Nat) (hz : us.length ≤ 1000000)
    (h : ∀ l, σ l = none → ∀ σ', σ' = upd σ l (some (k, .list (us.map er))) → Q (.ref l) ⟨fs, σ', g⟩) : W c A (newList us) Q E ⟨fs, σ, g⟩ := fun s hs =>
  wpAny_newObj_type ⟨_, hs.alloc (k := k) (cl := .list (us.map er)) ⟨_, _, rfl, by simp⟩ rfl, h _ hs.fresh.1 _ rfl⟩ (by show us.toArray.size ≤ sizeLine; rw [List.size_toArray]; exact sizeLine_big hz)
theorem W_newTuple {us : List Value} {Q : Value → AS → Prop} (k : Nat) (hz : us.length ≤ 1000000)
    (h : ∀ l, σ l = none → ∀ σ', σ' = upd σ l (some (k, .tuple (us.map er))) → Q (.ref l) ⟨fs, σ', g⟩) : W c A (newTuple us) Q E ⟨fs, σ, g⟩ := fun s hs =>
  wpAny_newObj_type ⟨_, hs.alloc (k := k) (cl := .tuple (us.map er)) ⟨_, _, rfl, by simp⟩ rfl, h _ hs.fresh.1 _ rfl⟩ (by show us.toArray.size ≤ sizeLine; rw [List.size_toArray]; exact sizeLine_big hz)
theorem upd_keeps {s : Shared} {f : Obj → Obj} : ∀ b o, b ≠ D → s.heap.get? b = some o → (s.heap.update D f).get? b = some o := fun b o q e => ((Heap.SameBut.update s.heap D f).2 b q).trans e
theorem W_meth_list {name : Str} {id : String} {pl : Sem Bool} {Q : Value × List Value → AS → Prop} (slot : Slot "list" name id) (hty : typeOf (.builtin id) = pure (.type "method_descriptor"))
    (hl : a.σ D = some (k, .list vs)) (h : Q (.builtin id, [.ref D]) a) : W c A (getMethod (.ref D) name pl) Q E a := fun s hs => by
  obtain ⟨us, n, ho, e⟩ := own_list hs hl
  exact getMethod_list_of slot hty (isList_of ho) ⟨_, ho, rfl⟩ ⟨a, hs, h⟩
theorem W_append {u : Value} {Q : Value → AS → Prop} (hl : σ D = some (k, .list vs)) (hz : vs.length ≤ 1000000)
    (h : ∀ σ', σ' = upd σ D (some (k, .list (vs ++ [er u]))) → Q .none ⟨fs, σ', g⟩) : W c A (call (.builtin "list.append") [.ref D, u]) Q E ⟨fs, σ, g⟩ := fun s hs => by
  obtain ⟨us, n, ho, e⟩ := own_list hs hl
  refine append_at ho (fun h' hsb ho' => ⟨_, hs.put hl (fun b o q z => (hsb.2 b q).trans z) ho' (cl' := .list (vs ++ [er u])) ⟨_, _, rfl, ?_⟩, h _ rfl⟩) (by rw [size_of e]; exact sizeLine_big hz)
  rw [← e]; simp
theorem W_clear {Q : Value → AS → Prop} (hl : σ D = some (k, .list vs)) (hz : vs.length ≤ 1000000)
    (h : ∀ σ', σ' = upd σ D (some (k, .list [])) → Q .none ⟨fs, σ', g⟩) : W c A (call (.builtin "list.clear") [.ref D]) Q E ⟨fs, σ, g⟩ := fun s hs => by
  obtain ⟨us, n, ho, e⟩ := own_list hs hl
  refine call_meets slot_list_clear ⟨_, ho, rfl⟩ entry_list_clear (args_list_clear_1 _) (list_clear_list_0 D us n (by rw [size_of e]; exact sizeLine_big hz)) ⟨ho, ?_⟩
  exact ⟨_, St.of_eq (hs.put hl upd_keeps (Heap.get?_update_self _ ho rfl) (cl' := .list []) ⟨_, _, rfl, rfl⟩), h _ rfl⟩
theorem W_pop {ws : List AV} {v : AV} {Q : Value → AS → Prop} (hl : σ D = some (k, .list (ws ++ [v]))) (hz : ws.length + 1 ≤ 1000000)
    (h : ∀ σ', σ' = upd σ D (some (k, .list ws)) → All v (fun u => Q u ⟨fs, σ', g⟩)) : W c A (call (.builtin "list.pop") [.ref D]) Q E ⟨fs, σ, g⟩ := fun s hs => by
  obtain ⟨us, n, ho, e⟩ := own_list hs hl
  have hsz := size_of e
  simp only [List.length_append, List.length_singleton] at hsz
  obtain ⟨u, hu, eu⟩ := get_of e (i := ws.length) (v := v) (by first | decide | simp)
  refine call_meets slot_list_pop ⟨_, ho, rfl⟩ entry_list_pop (args_list_pop_1 _) (list_pop_last D us n u (by rw [hsz]; exact hu) (by rw [hsz]; exact sizeLine_big hz)) ⟨ho, ?_⟩
  refine ⟨_, St.of_eq (hs.put hl upd_keeps (Heap.get?_update_self _ ho rfl) (cl' := .list ws) ⟨_, _, rfl, ?_⟩), (h _ rfl).at eu⟩
  rw [hsz]
  have : ws.length < us.size := by lia
  simp only [Nat.add_sub_cancel, Array.eraseIdxIfInBounds, this, dite_true, Array.toList_eraseIdx]
  obtain ⟨l1, l2, q1, q2, q3⟩ := List.map_eq_append_iff.mp e
  have hl1 : ws.length = l1.length := by rw [← q2]; simp
  obtain ⟨u', r, rfl, q4, q5⟩ := List.map_eq_cons_iff.mp q3
  rw [List.map_eq_nil_iff] at q5; subst q5
  rw [q1, hl1, List.eraseIdx_append_of_length_le (Nat.le_refl _)]
  simp [q2]
theorem W_len_list {Q : Value → AS → Prop} (hl : a.σ D = some (k, .list vs)) (hz : vs.length ≤ 1000000) (h : ∀ t, Q (.int vs.length t) a) : W c A (call (.builtin "len") [.ref D]) Q E a := fun s hs => by
  obtain ⟨us, n, ho, e⟩ := own_list hs hl
  have hsz := size_of e
  refine call_len_list (isList_of ho) (by rw [hsz]; exact fits_big hz) ⟨a, hs.of_eq, ?_⟩
  rw [hsz]; exact h _
theorem W_item_list {i : Int} {t : Tok} {v : AV} {Q : Value → AS → Prop} (hl : a.σ D = some (k, .list vs)) (h0 : 0 ≤ i) (hv : vs[i.toNat]? = some v) (hz : vs.length ≤ 1000000) (h : All v (fun u => Q u a)) : W c A (getItem (.ref D) (.int i t)) Q E a := fun s hs => by
  obtain ⟨us, n, ho, e⟩ := own_list hs hl
  obtain ⟨u, hu, eu⟩ := get_of e hv
  have : i.toNat < vs.length := (List.getElem?_eq_some_iff.mp hv).1
  exact wpAny_getItem_list (isList_of ho) h0 (by first | exact Nat.le_trans (by assumption) (by decide) | exact Nat.le_add_right .. | exact Nat.lt_succ_self _ | exact Nat.le_of_lt (by assumption) | lia) hu ⟨a, hs, h.at eu⟩
theorem W_last_list {ws : List AV} {t : Tok} {v : AV} {Q : Value → AS → Prop} (hl : a.σ D = some (k, .list (ws ++ [v]))) (hz : ws.length + 1 ≤ 1000000) (h : All v (fun u => Q u a)) : W c A (getItem (.ref D) (.int (-1) t)) Q E a := fun s hs => by
  obtain ⟨us, n, ho, e⟩ := own_list hs hl
  have hsz := size_of e
  simp only [List.length_append, List.length_singleton] at hsz
  obtain ⟨u, hu, eu⟩ := get_of e (i := ws.length) (v := v) (by first | decide | simp)
  refine wpAny_getItem_list_neg (isList_of ho) (by first | exact Nat.le_trans (by assumption) (by decide) | exact Nat.le_add_right .. | exact Nat.lt_succ_self _ | exact Nat.le_of_lt (by assumption) | lia) (by first | exact Nat.le_trans (by assumption) (by decide) | exact Nat.le_add_right .. | exact Nat.lt_succ_self _ | exact Nat.le_of_lt (by assumption) | lia) (by first | exact Nat.le_trans (by assumption) (by decide) | exact Nat.le_add_right .. | exact Nat.lt_succ_self _ | exact Nat.le_of_lt (by assumption) | lia) ?_ ⟨a, hs, h.at eu⟩
  rw [hsz, show ((-1 : Int) + ((ws.length + 1 : Nat) : Int)).toNat = ws.length by lia]; exact hu
theorem W_truthy_list {Q : Bool → AS → Prop} (hl : a.σ D = some (k, .list vs)) (hz : vs.length ≤ 1000000) (h : Q (!vs.isEmpty) a) : W c A (truthy (.ref D)) Q E a := fun s hs => by
  obtain ⟨us, n, ho, e⟩ := own_list hs hl
  have hsz := size_of e
  refine wpAny_truthy_list (isList_of ho) (by rw [hsz]; exact fits_big hz) ⟨a, hs.of_eq, ?_⟩
  have : us.isEmpty = vs.isEmpty := by
    rw [← e]; cases us with | mk l => cases l <;> simp
  rw [this]; exact h
theorem W_list_add {ws : List AV} {B : Addr} {k' : Nat} {Q : Value → AS → Prop} (r : Nat) (hl : σ D = some (k, .list vs)) (hb : σ B = some (k', .list ws)) (hz : vs.length + ws.length ≤ 1000000)
    (h : ∀ l, σ l = none → ∀ σ', σ' = upd σ l (some (r, .list (vs ++ ws))) → Q (.ref l) ⟨fs, σ', g⟩) : W c A (binaryOp .Add (.ref D) (.ref B)) Q E ⟨fs, σ, g⟩ := fun s hs => by
  obtain ⟨us, n, ho, e⟩ := own_list hs hl
  obtain ⟨us2, n2, ho2, e2⟩ := own_list hs hb
  have h1 := size_of e
  have h2 := size_of e2
  refine concat_meets ⟨_, ho, rfl⟩ ⟨_, ho2, rfl⟩ noFill_list_add seq_list_add slot_list_add entry_list_add (args_list_add_2 _ _) (list___add___list_list_0 D us n B us2 n2 (by rw [h1, h2]; exact sizeLine_big hz)) ⟨ho, ho2, ?_⟩
  refine ⟨_, St.of_eq (hs.alloc (k := r) (cl := .list (vs ++ ws)) ⟨us ++ us2, 0, rfl, ?_⟩ rfl), h _ hs.fresh.1 _ rfl⟩
  rw [← e, ← e2]; simp
theorem eqGives_key {u v : Value} (hu : (er u).isKey = true) (hv : (er v).isKey = true) : EqGives u v (decide (er u = er v)) := fun prog w A E s Q h =>
  (avKind prog w).eqBool (avKind_is.mpr ⟨rfl, hu⟩) (avKind_is.mpr ⟨rfl, hv⟩) h
theorem any_er {us : Array Value} (e : us.toList.map er = vs) (v : AV) : us.any (fun y => decide (er y = v)) = decide (v ∈ vs) := by
  rw [← e, Bool.eq_iff_iff, ← Array.any_toList]
  simp only [List.any_eq_true, decide_eq_true_eq, List.mem_map]
theorem W_in_list {u : Value} {Q : Value → AS → Prop} (hl : a.σ D = some (k, .list vs)) (hu : (er u).isKey = true) (hk : ∀ v ∈ vs, v.isKey = true) (h : Q (.bool (decide (er u ∈ vs))) a) : W c A (compareOp .In u (.ref D)) Q E a := fun s hs => by
  obtain ⟨us, n, ho, e⟩ := own_list hs hl
  have he : ∀ y, y ∈ us → EqGives y u (decide (er y = er u)) := fun y hy => eqGives_key (hk _ (by rw [← e]; exact List.mem_map_of_mem (Array.mem_toList_iff.mpr hy))) hu
  refine SeqAt.in_listAt _ (isList_of ho) (fun y hy => (he y hy).at _ _) ⟨a, hs, ?_⟩
  rw [any_er e]; exact h
theorem W_notin_list {u : Value} {Q : Value → AS → Prop} (hl : a.σ D = some (k, .list vs)) (hu : (er u).isKey = true) (hk : ∀ v ∈ vs, v.isKey = true) (h : Q (.bool (!decide (er u ∈ vs))) a) : W c A (compareOp .NotIn u (.ref D)) Q E a := fun s hs => by
  obtain ⟨us, n, ho, e⟩ := own_list hs hl
  have he : ∀ y, y ∈ us → EqGives y u (decide (er y = er u)) := fun y hy => eqGives_key (hk _ (by rw [← e]; exact List.mem_map_of_mem (Array.mem_toList_iff.mpr hy))) hu
  refine SeqAt.notIn_listAt _ (isList_of ho) (fun y hy => (he y hy).at _ _) ⟨a, hs, ?_⟩
  rw [any_er e]; exact h
end
end Mine.Internal
namespace Mine.Internal
open PySem PySem.W PyProof.Rows PySem.Calls PySem.F PySem.AutoSeq1 PySem.MeetsSeq PySem.MeetsSeq3 PySem.SeqAt
mutual
inductive RdV (σ : Addr → Option (Nat × Cell)) : AV → PyData → Prop
  | none : RdV σ .none .none
  | bool {b} : RdV σ (.bool b) (.bool b)
  | int {i} : RdV σ (.int i) (.int i)
  | str {x} : RdV σ (.str x) (.str x)
  | list {l k vs ds} : σ l = some (k, .list vs) → RdL σ vs ds → RdV σ (.ref l) (.list ds)
  | tuple {l k vs ds} : σ l = some (k, .tuple vs) → RdL σ vs ds → RdV σ (.ref l) (.tuple ds)
  | dict {l k kvs ep ds} : σ l = some (k, .dict kvs ep) → RdL σ (kvs.map (·.1)) (ds.map (·.1)) → RdL σ (kvs.map (·.2)) (ds.map (·.2)) → RdV σ (.ref l) (.dict ds)
inductive RdL (σ : Addr → Option (Nat × Cell)) : List AV → List PyData → Prop
  | nil : RdL σ [] []
  | cons {v vs d ds} : RdV σ v d → RdL σ vs ds → RdL σ (v :: vs) (d :: ds)
end
theorem RdV.ext {σ σ' : Addr → Option (Nat × Cell)} (h : Ext [] σ σ') {v : AV} {d : PyData} (r : RdV σ v d) : RdV σ' v d :=
  RdV.rec (motive_1 := fun v d _ => RdV σ' v d) (motive_2 := fun v d _ => RdL σ' v d) .none .bool .int .str (fun e _ q => .list (h _ _ _ e List.not_mem_nil) q) (fun e _ q => .tuple (h _ _ _ e List.not_mem_nil) q)
    (fun e _ _ q1 q2 => .dict (h _ _ _ e List.not_mem_nil) q1 q2) .nil (fun _ _ q1 q2 => .cons q1 q2) r
theorem pairs_er {prog : Program} {w : World} {es : List DictEntry} {kvs : List (AV × Value)} (h : Pairs (avKind prog w) es kvs) : (es.map (·.key)).map er = kvs.map (·.1) ∧ (es.map (·.val)).map er = kvs.map fun p => er p.2 := by
  induction h with
  | nil => exact ⟨rfl, rfl⟩
  | cons h1 h2 _ ih =>
    simp only [List.map_cons]
    exact ⟨by rw [ih.1, (avKind_is.mp h1).1], by rw [ih.2, h2]⟩
theorem RdV.reads {c : Cx} {a : AS} {s : Shared} (hs : St c a s) {v : AV} {d : PyData} (r : RdV a.σ v d) : ∀ u, er u = v → ∃ as, Reads s.heap u d as := by
  refine RdV.rec (motive_1 := fun v d _ => ∀ u, er u = v → ∃ as, Reads s.heap u d as) (motive_2 := fun vs ds _ => ∀ us : List Value, us.map er = vs → ∃ as, ReadsAll s.heap us ds as) ?_ ?_ ?_ ?_ ?_ ?_ ?_ ?_ ?_ r
  · intro u e; rw [er_none e]; exact ⟨_, .none⟩
  · intro b u e; rw [er_bool e]; exact ⟨_, .bool _⟩
  · intro i u e; obtain ⟨t, rfl⟩ := er_int e; exact ⟨_, .int _ _⟩
  · intro x u e; obtain ⟨t, rfl⟩ := er_str e; exact ⟨_, .str _ _⟩
  · intro l k vs ds h _ ih u e
    rw [er_ref e]
    obtain ⟨us, n, ho, q⟩ := own_list hs h
    obtain ⟨as, ra⟩ := ih us.toList q
    exact ⟨_, .list ho rfl rfl ra⟩
  · intro l k vs ds h _ ih u e
    rw [er_ref e]
    obtain ⟨us, n, ho, q⟩ := own_tuple hs h
    obtain ⟨as, ra⟩ := ih us.toList q
    exact ⟨_, .tuple ho rfl rfl ra⟩
  · intro l k kvs ep ds h _ _ ih1 ih2 u e
    rw [er_ref e]
    obtain ⟨⟨o, ho, hx, es, kvs', hd, _, hp, hk, _⟩, _⟩ := hs.own _ _ _ h
    obtain ⟨p1, p2⟩ := pairs_er hp
    obtain ⟨as, ra⟩ := ih1 (es.toList.map (·.key)) (by rw [p1, hk]; simp)
    obtain ⟨bs, rb⟩ := ih2 (es.toList.map (·.val)) (by rw [p2, hk]; simp)
    exact ⟨_, .dict ho hx.1 hd ra rb⟩
  · intro us e
    rw [List.map_eq_nil_iff] at e; subst e; exact ⟨_, .nil⟩
  · intro v vs d ds _ _ ih1 ih2 us e
    obtain ⟨u, us', rfl, e1, e2⟩ := List.map_eq_cons_iff.mp e
    obtain ⟨as, ra⟩ := ih1 u e1
    obtain ⟨bs, rb⟩ := ih2 us' e2
    exact ⟨_, .cons ra rb⟩
theorem AOk.u64 {A : Around} {fs : List Frm} {d : Nat} (h : AOk A fs d) : A.units + 64 < cLine := by have := h.units; unfold cLine; lia
theorem AOk.u65 {A : Around} {fs : List Frm} {d : Nat} (h : AOk A fs d) : A.units + 65 < cLine := by have := h.units; unfold cLine; lia
section
variable {c : Cx} {A : Around} {E : Value → AS → Prop} {a : AS} {fs : List Frm} {σ : Addr → Option (Nat × Cell)} {g : Array GenState} {k : Nat} {D : Addr} {vs : List AV} {d : Nat} {fs₀ : List Frm}
theorem W_eqD {u v : Value} {p q : PyData} {Q : Value → AS → Prop} (hA : AOk A fs₀ d) (ru : RdV a.σ (er u) p) (rv : RdV a.σ (er v) q) (hp : shaped p = true) (hq : shaped q = true) (h : Q (.bool (PyData.eqv p q)) a) : W c A (compareOp .Eq u v) Q E a := fun s hs => by
  obtain ⟨as, ra⟩ := ru.reads hs u rfl
  obtain ⟨bs, rb⟩ := rv.reads hs v rfl
  exact eq_dataH ra rb hp hq hA.u64 ⟨a, hs, h⟩
theorem W_neD {u v : Value} {p q : PyData} {Q : Value → AS → Prop} (hA : AOk A fs₀ d) (ru : RdV a.σ (er u) p) (rv : RdV a.σ (er v) q) (hp : shaped p = true) (hq : shaped q = true) (h : Q (.bool (!PyData.eqv p q)) a) : W c A (compareOp .NotEq u v) Q E a := fun s hs => by
  obtain ⟨as, ra⟩ := ru.reads hs u rfl
  obtain ⟨bs, rb⟩ := rv.reads hs v rfl
  exact ne_dataH ra rb hp hq hA.u64 ⟨a, hs, h⟩
theorem W_add {i j : Int} {t u : Tok} {Q : Value → AS → Prop} (h : ∀ t, Q (.int (i + j) t) a) : W c A (binaryOp .Add (.int i t) (.int j u)) Q E a := fun s hs => AutoIntOps.add_0 ⟨a, hs.of_eq, h _⟩
theorem W_mod {i j : Int} {t u : Tok} {Q : Value → AS → Prop} (hj : j ≠ 0) (h : ∀ t, Q (.int (i.fmod j) t) a) : W c A (binaryOp .Mod (.int i t) (.int j u)) Q E a := fun s hs =>
  AutoIntOps.mod_1 (by simpa using hj) ⟨a, hs.of_eq, h _⟩
theorem W_eq_int {i j : Int} {t u : Tok} {Q : Value → AS → Prop} (h : Q (.bool (i == j)) a) : W c A (compareOp .Eq (.int i t) (.int j u)) Q E a := fun s hs => P.eq_int ⟨a, hs, h⟩
theorem W_ne_int {i j : Int} {t u : Tok} {Q : Value → AS → Prop} (h : Q (.bool (i != j)) a) : W c A (compareOp .NotEq (.int i t) (.int j u)) Q E a := fun s hs => P.ne_int ⟨a, hs, h⟩
theorem W_lt_int {i j : Int} {t u : Tok} {Q : Value → AS → Prop} (h : Q (.bool (decide (i < j))) a) : W c A (compareOp .Lt (.int i t) (.int j u)) Q E a := fun s hs => P.lt_int ⟨a, hs, h⟩
theorem W_le_int {i j : Int} {t u : Tok} {Q : Value → AS → Prop} (h : Q (.bool (decide (i ≤ j))) a) : W c A (compareOp .LtE (.int i t) (.int j u)) Q E a := fun s hs => P.le_int ⟨a, hs, h⟩
theorem W_ge_int {i j : Int} {t u : Tok} {Q : Value → AS → Prop} (h : Q (.bool (decide (i ≥ j))) a) : W c A (compareOp .GtE (.int i t) (.int j u)) Q E a := fun s hs => P.ge_int ⟨a, hs, h⟩
theorem W_is_none {v : Value} {Q : Value → AS → Prop} (h : Q (.bool (v == .none)) a) : W c A (compareOp .Is v .none) Q E a := fun s hs => is_none_gen ⟨a, hs, h⟩
theorem W_isnot_none {v : Value} {Q : Value → AS → Prop} (h : Q (.bool (!(v == .none))) a) : W c A (compareOp .IsNot v .none) Q E a := fun s hs => isnot_none_gen ⟨a, hs, h⟩
end
end Mine.Internal
namespace Mine.Internal
open PySem PySem.W PyProof.Rows PySem.Calls PySem.F PySem.AutoSeq1 PySem.MeetsSeq PySem.MeetsSeq3 PySem.SeqAt
noncomputable def dget (kvs : List (AV × AV)) (k : AV) : Option AV := (kvs.find? fun p => p.1 = k).map (·.2)
noncomputable def dset (kvs : List (AV × AV)) (k v : AV) : List (AV × AV) := if kvs.any (fun p => p.1 = k) then kvs.map (fun p => if p.1 = k then (p.1, v) else p) else kvs ++ [(k, v)]
noncomputable def ddel (kvs : List (AV × AV)) (k : AV) : List (AV × AV) := kvs.filter fun p => decide (p.1 ≠ k)
noncomputable def erP (p : AV × Value) : AV × AV := (p.1, er p.2)
theorem valueAt_er (kvs : List (AV × Value)) (k : AV) : (valueAt kvs k).map er = dget (kvs.map erP) k := by
  induction kvs with
  | nil => rfl
  | cons p kvs ih =>
    simp only [valueAt, dget, List.map_cons, List.find?_cons] at ih ⊢
    by_cases e : p.1 = k
    · simp [e, erP]
    · simp only [erP, e, decide_false]; exact ih
theorem stored_er (kvs : List (AV × Value)) (k : AV) (u : Value) : (stored kvs k u).map erP = dset (kvs.map erP) k (er u) := by
  unfold stored dset
  have h1 : (kvs.map erP).any (fun p => p.1 = k) = kvs.any (fun p => p.1 = k) := by
    rw [List.any_map]; rfl
  rw [h1]
  split
  · simp only [List.map_map]
    apply List.map_congr_left
    intro p _
    by_cases q : p.1 = k <;> simp [Function.comp_apply, erP, q]
  · simp [erP]
theorem without_er (kvs : List (AV × Value)) (k : AV) : (without kvs k).map erP = ddel (kvs.map erP) k := by
  unfold without ddel
  rw [List.filter_map]; rfl
section
variable {c : Cx} {A : Around} {E : Value → AS → Prop} {a : AS} {fs : List Frm} {σ : Addr → Option (Nat × Cell)} {g : Array GenState} {k : Nat} {D : Addr} {kvs : List (AV × AV)} {ep : Nat} {u v : Value}
theorem own_dict {ep : Nat} {s : Shared} (hs : St c a s) (h : a.σ D = some (k, .dict kvs ep)) : ∃ kvs', s.heap.DictAt (avKind c.prog c.w) D kvs' ep ∧ kvs = kvs'.map erP := by
  obtain ⟨⟨o, ho, ex, es, kvs', hd, hk, hp, e, hn⟩, _⟩ := hs.own D k _ h
  refine ⟨kvs', ⟨o, es, ho, ex, hd, hk, hp, ?_⟩, e⟩
  rw [e, List.map_map] at hn; exact hn
theorem notSys {s : Shared} {p : Nat × Cell} (hs : St c a s) (h : a.σ D = some p) : (D == sysModules) = false := by
  obtain ⟨_, hb, _⟩ := hs.own D p.1 p.2 h
  rw [beq_eq_false_iff_ne]
  intro e
  have := c.sysm
  rw [← e, hb] at this; cases this
theorem ok_dict {s : Shared} {h' : Heap} {kvs' : List (AV × Value)} (hd : h'.DictOf (avKind c.prog c.w) D kvs') : ∃ o ep, h'.get? D = some o ∧ Cell.ok c (.dict (kvs'.map erP) ep) o := by
  obtain ⟨o, es, ep, ho, ex, hd, hk, hp, hn⟩ := hd
  exact ⟨o, ep, ho, ex, es, kvs', hd, hk, hp, rfl, by rw [List.map_map]; exact hn⟩
theorem W_newDict {Q : Value → AS → Prop} (k : Nat) (h : ∀ l, σ l = none → ∀ σ', σ' = upd σ l (some (k, .dict [] 0)) → Q (.ref l) ⟨fs, σ', g⟩) : W c A (newDict #[]) Q E ⟨fs, σ, g⟩ := fun s hs =>
  wpAny_newObj_type ⟨_, hs.alloc (k := k) (cl := .dict [] 0) ⟨⟨rfl, rfl, rfl⟩, #[], [], rfl, fun _ he => by simp at he, .nil, rfl, .nil⟩ rfl, h _ hs.fresh.1 _ rfl⟩
theorem W_Dict_nil {pos : Pos} {env : Env} {Q : Value → AS → Prop} (h : W c A (newDict #[]) Q E a) : W c A (eval (.Dict [] [] pos) env) Q E a := by
  show W c A (do standAt pos; newDict #[]) Q E a
  exact W_bind (W_standAt h)
theorem W_meth_dict {name : Str} {id : String} {pl : Sem Bool} {Q : Value × List Value → AS → Prop} (slot : Slot "dict" name id) (hty : typeOf (.builtin id) = pure (.type "method_descriptor"))
    (hl : a.σ D = some (k, .dict kvs ep)) (h : Q (.builtin id, [.ref D]) a) : W c A (getMethod (.ref D) name pl) Q E a := fun s hs => by
  obtain ⟨⟨o, ho, ex, _⟩, _⟩ := hs.own D k _ hl
  exact getMethod_builtin ⟨o, ho, ex.1⟩ plainAttrs_dict slot hty (fun b e => by injection e with e; subst e; exact ⟨o, ho, ex.2.1⟩) ⟨a, hs, h⟩
theorem W_dict_get {Q : Value → AS → Prop} (hl : a.σ D = some (k, .dict kvs ep)) (hk : (er u).isKey = true) (h : All ((dget kvs (er u)).getD .none) (fun v => Q v a)) : W c A (call (.builtin "dict.get") [.ref D, u]) Q E a := fun s hs => by
  obtain ⟨kvs', hd, e⟩ := own_dict hs hl
  have hm := hd.dictOf.mapOf
  refine call_meetsIn slot_dict_get hm.typeIs entry_dict_get (args_dict_get_2 _ _) (meets_dict_get (avKind c.prog c.w) D (avKind_is.mpr ⟨rfl, hk⟩) (notSys hs hl)) ⟨_, hm, ?_⟩
  refine ⟨a, hs.of_eq, h.at ?_⟩
  rw [e, ← valueAt_er]
  cases valueAt kvs' (er u) <;> rfl
theorem W_dict_item {x : AV} {Q : Value → AS → Prop} (hl : a.σ D = some (k, .dict kvs ep)) (hk : (er u).isKey = true) (hx : dget kvs (er u) = some x) (h : All x (fun v => Q v a)) : W c A (getItem (.ref D) u) Q E a := fun s hs => by
  obtain ⟨kvs', hd, e⟩ := own_dict hs hl
  have hm := hd.dictOf.mapOf
  rw [e, ← valueAt_er] at hx
  obtain ⟨v, hv, ev⟩ := map_some_of hx
  exact wpAny_getItem_of (avKind_is.mpr ⟨rfl, hk⟩) hm hv ⟨a, hs.of_eq, h.at ev⟩
theorem W_in_dict {Q : Value → AS → Prop} (hl : a.σ D = some (k, .dict kvs ep)) (hk : (er u).isKey = true) (h : Q (.bool (dget kvs (er u)).isSome) a) : W c A (compareOp .In u (.ref D)) Q E a := fun s hs => by
  obtain ⟨kvs', hd, e⟩ := own_dict hs hl
  refine wpAny_in_of (avKind_is.mpr ⟨rfl, hk⟩) (notSys hs hl) hd.dictOf.mapOf ⟨a, hs.of_eq, ?_⟩
  rw [e, ← valueAt_er] at h
  simpa using h
theorem W_dict_set {Q : Unit → AS → Prop} (hl : σ D = some (k, .dict kvs ep)) (hk : (er u).isKey = true) (hz : kvs.length ≤ 1000000) (h : ∀ ep' σ', σ' = upd σ D (some (k, .dict (dset kvs (er u) (er v)) ep')) → Q () ⟨fs, σ', g⟩) : W c A (setItem (.ref D) u v) Q E ⟨fs, σ, g⟩ := fun s hs => by
  obtain ⟨kvs', hd, e⟩ := own_dict hs hl
  refine wpAny_setItem_pairs (avKind_is.mpr ⟨rfl, hk⟩) hd.dictOf (fun h' hd' hsb => ?_) (sizeLine_big (by rw [e, List.length_map] at hz; exact hz))
  obtain ⟨o, ep', ho, ok⟩ := ok_dict (c := c) (s := s) hd'
  rw [stored_er, ← e] at ok
  exact ⟨_, St.of_eq (hs.put hl (fun b o q z => (hsb.2 b q).trans z) ho ok), h _ _ rfl⟩
theorem W_dict_del {Q : Unit → AS → Prop} (hl : σ D = some (k, .dict kvs ep)) (hk : (er u).isKey = true) (hx : (dget kvs (er u)).isSome = true) (hz : kvs.length ≤ 1000000) (h : ∀ ep' σ', σ' = upd σ D (some (k, .dict (ddel kvs (er u)) ep')) → Q () ⟨fs, σ', g⟩) : W c A (delItem (.ref D) u) Q E ⟨fs, σ, g⟩ := fun s hs => by
  obtain ⟨kvs', hd, e⟩ := own_dict hs hl
  refine wpAny_delItem_slot hd.dictOf.mapOf.typeIs (by decide +kernel) slot_dict_delitem (call_meetsIn slot_dict_delitem hd.dictOf.mapOf.typeIs entry_dict_delitem (args_dict_delitem_2 _ _) (meets_dict_delitem_pairs (avKind c.prog c.w) D (avKind_is.mpr ⟨rfl, hk⟩)) ⟨_, hd.dictOf, sizeLine_big (by rw [e, List.length_map] at hz; exact hz), ?_, fun h' hd' hsb => ?_⟩)
  · rw [e, ← valueAt_er] at hx; simpa using hx
  · obtain ⟨o, ep', ho, ok⟩ := ok_dict (c := c) (s := s) hd'
    rw [without_er, ← e] at ok
    exact ⟨_, St.of_eq (hs.put hl (fun b o q z => (hsb.2 b q).trans z) ho ok), h _ _ rfl⟩
variable {S : AV → Bool} {n : Nat}
theorem own_set {s : Shared} (hs : St c a s) (h : a.σ D = some (k, .set S n)) (hn : n < 4096) : s.heap.SetOf (avKind c.prog c.w) D S n := by
  obtain ⟨⟨o, ho, ok⟩, _⟩ := hs.own D k _ h
  exact Obj.SetObjOf.setOf ok ho hn
theorem W_in_set {Q : Value → AS → Prop} (hl : a.σ D = some (k, .set S n)) (hn : n < 4096) (hk : (er u).isKey = true) (h : Q (.bool (S (er u))) a) : W c A (compareOp .In u (.ref D)) Q E a := fun s hs =>
  wpAny_inSet_of (avKind_is.mpr ⟨rfl, hk⟩) (scannable_of_key rfl hk) (own_set hs hl hn) ⟨a, hs.of_eq, h⟩
theorem W_meth_set_add {pl : Sem Bool} {Q : Value × List Value → AS → Prop} (hl : a.σ D = some (k, .set S n)) (hn : n < 4096) (h : Q (.builtin "set.add", [.ref D]) a) : W c A (getMethod (.ref D) "add" pl) Q E a := fun s hs =>
  getMethod_set_add (own_set hs hl hn) ⟨a, hs, h⟩
theorem W_set_add {Q : Value → AS → Prop} (hl : σ D = some (k, .set S n)) (hn : n + 1 < 4096) (hk : (er u).isKey = true)
    (h : ∀ σ', σ' = upd σ D (some (k, .set (fun x => S x || decide (x = er u)) (if S (er u) then n else n + 1))) → Q .none ⟨fs, σ', g⟩) : W c A (call (.builtin "set.add") [.ref D, u]) Q E ⟨fs, σ, g⟩ := fun s hs => by
  refine call_set_add (avKind_is.mpr ⟨rfl, hk⟩) (scannable_of_key rfl hk) (own_set hs hl (by first | exact Nat.le_trans (by assumption) (by decide) | exact Nat.le_add_right .. | exact Nat.lt_succ_self _ | exact Nat.le_of_lt (by assumption) | lia)) hn (fun h' hsb hS => ?_)
  obtain ⟨o, es, ep, t, ho, ex, hd, r1, r2, r3, r4, r5⟩ := hS
  exact ⟨_, St.of_eq (hs.put hl (fun b o q z => (hsb.2 b q).trans z) ho (cl' := .set _ _) ⟨ex, es, ep, t, hd, r1, r2, r5, r4⟩), h _ rfl⟩
end
end Mine.Internal
namespace Mine.Internal
open PySem PySem.W PyProof.Rows PySem.Calls PySem.F PySem.AutoSeq1 PySem.MeetsSeq PySem.MeetsSeq3 PySem.SeqAt
noncomputable def Noted (c : Cx) (A : Around) (env : Env) (E : Value → AS → Prop) : Value → AS → Prop := fun e a => W c A (noteFrame e env) (fun _ a' => E e a') E a
noncomputable def Came (c : Cx) (A : Around) (env : Env) (E : Value → AS → Prop) : Value → AS → Prop := fun e a =>
  W c A (do if (← field e 1) == .none then unsupported "frame.own-activation:exception-without-traceback"
            setFlight e env.frame) (fun _ a' => E e a') E a
noncomputable def iterCell (ty : String) (l : Addr) (i : Nat) : Cell := .raw fun o => o.cls = .type ty ∧ o.data = .fields #[.ref l, .int i 0]
theorem All.key {v : AV} {P : Value → Prop} (hv : v.isKey = true) (h : ∀ u, er u = v → P u) : All v P := All.of h (by intro u e; subst e; cases hv)
section
variable {c : Cx} {A : Around} {E : Value → AS → Prop} {a : AS} {env : Env} {fs : List Frm} {σ : Addr → Option (Nat × Cell)} {g : Array GenState} {k : Nat}
theorem noted_of {e : Value} {s : Shared} {R : Value → AS → Prop} (h : ∃ a', St c a' s ∧ Noted c A env R e a') : notedBy (model c.prog c.w) A env (fun e s' => ∃ a', St c a' s' ∧ R e a') e s := by
  obtain ⟨a', h1, q⟩ := h
  exact q s h1
theorem came_of {e : Value} {s : Shared} {R : Value → AS → Prop} (h : ∃ a', St c a' s ∧ Came c A env R e a') : cameBackBy (model c.prog c.w) A env (fun e s' => ∃ a', St c a' s' ∧ R e a') e s := by
  obtain ⟨a', h1, q⟩ := h
  exact q s h1
theorem W_For {target iter : Expr} {body orelse : List Stmt} {pos : Pos} {Q : Flow → AS → Prop}
    (h : W c A (eval iter env) (fun x a₁ => W c A (pyIter x) (fun it a₂ => Wk c A (.forLoop target it body orelse env) (fun r a' => match r with | .ok f => Q f a' | .error e => Came c A env E e a') a₂) E a₁) E a)
    (hs : ∀ x, foldedSetIterable iter env x = pure x := by intro _; with_unfolding_all rfl) : W c A (exec (.For target iter body orelse pos) env) Q E a := fun s hs' =>
  wpAny_For (wpAny_mono (h s hs') (fun x s₁ pz52 => pz52.elim fun a₁ pz53 => pz53.elim fun h1 q => wpAny_mono (q s₁ h1) (fun it s₂ pz54 => pz54.elim fun a₂ pz55 => pz55.elim fun h2 q => codeAny_mono (q s₂ h2) fun r s' pz56 => pz56.elim fun a' pz57 => pz57.elim fun h3 q => by
    cases r with
    | ok f => exact ⟨a', h3, q⟩
    | error e => exact came_of ⟨a', h3, q⟩) fun _ _ x => x) fun _ _ x => x) hs
theorem Wk_for {target : Expr} {it : Value} {body orelse : List Stmt} {R : Result → AS → Prop} (I : Nat → AS → Prop)
    (turn : ∀ n a, I n a → W c A (pyNext it) (fun r a₁ => match r with
      | none => W c A (execs orelse env) (fun f a₃ => R (.ok f) a₃) (Noted c A env fun e a' => R (.error e) a') a₁
      | some v => W c A (letOwnedTupleGo target it v) (fun _ a₁' => W c A (assign target env v) (fun _ a₂ => W c A (execs body env) (fun f a₃ => match f with
            | .next | .cont => ∃ m, m < n ∧ I m a₃
            | .brk => R (.ok .next) a₃
            | .ret v => R (.ok (.ret v)) a₃) (Noted c A env fun e a' => R (.error e) a') a₂) (Noted c A env fun e a' => R (.error e) a') a₁') (Noted c A env fun e a' => R (.error e) a') a₁) (Noted c A env fun e a' => R (.error e) a') a)
    (n : Nat) (h : I n a) : Wk c A (.forLoop target it body orelse env) R a := by
  intro s hs
  refine codeAny_forLoop_any (fun n s => ∃ a, St c a s ∧ I n a) (fun n s pq => ?_) n ⟨a, hs, h⟩
  obtain ⟨a, hs, hI⟩ := pq
  refine wpAny_mono (turn n a hI s hs) (fun r s₁ pq => ?_) fun e s' x => noted_of x
  obtain ⟨a₁, h1, q⟩ := pq
  cases r with
  | none => exact wpAny_mono (q s₁ h1) (fun _ _ x => x) fun e s' x => noted_of x
  | some v =>
    refine wpAny_mono (q s₁ h1) (fun _ s₁' pq => ?_) fun e s' x => noted_of x
    obtain ⟨a₁', h1', q⟩ := pq
    refine wpAny_mono (q s₁' h1') (fun _ s₂ pq => ?_) fun e s' x => noted_of x
    obtain ⟨a₂, h2, q⟩ := pq
    refine wpAny_mono (q s₂ h2) (fun f s₃ pq => ?_) fun e s' x => noted_of x
    obtain ⟨a₃, h3, q⟩ := pq
    cases f with
    | next => obtain ⟨m, hm, hi⟩ := q; exact ⟨m, hm, a₃, h3, hi⟩
    | cont => obtain ⟨m, hm, hi⟩ := q; exact ⟨m, hm, a₃, h3, hi⟩
    | brk => exact ⟨a₃, h3, q⟩
    | ret v => exact ⟨a₃, h3, q⟩
structure IterOf (c : Cx) (A : Around) (vs : List AV) (k : Nat) (src : (Addr → Option (Nat × Cell)) → Prop) (cell : Nat → Cell) : Prop where
  item : ∀ {it i v fs σ g Q} {E : Value → AS → Prop}, σ it = some (9, cell i) → src σ → vs[i]? = some v → (∀ σ' u, σ' = upd σ it (some (9, cell (i + 1))) → er u = v → Q (some u) ⟨fs, σ', g⟩) → W c A (pyNext (.ref it)) Q E ⟨fs, σ, g⟩
  fin : ∀ {it i fs σ g Q} {E : Value → AS → Prop}, σ it = some (9, cell i) → src σ → i = vs.length → (∀ σ', σ' = upd σ it none → Q none ⟨fs, σ', g⟩) → W c A (pyNext (.ref it)) Q E ⟨fs, σ, g⟩
  keep : ∀ {σ it i x}, src σ → σ it = some (9, cell i) → src (upd σ it x)
  ext : ∀ {C σ σ'}, k ∉ C → Ext C σ σ' → src σ → src σ'
  own : ∀ {target it u i fs σ g} {Q : Unit → AS → Prop} {E : Value → AS → Prop}, σ it = some (9, cell i) → Q () ⟨fs, σ, g⟩ → W c A (letOwnedTupleGo target (.ref it) u) Q E ⟨fs, σ, g⟩
theorem own_tup {M : Model} {target : Expr} {it : Addr} {u : Value} {ty : String} {s : Shared} {o : Obj} {vs : Array Value} {Q : Unit → Shared → Prop} {E : Value → Shared → Prop} (hty : ["enumerate", "zip", "dict_itemiterator", "dict_reverseitemiterator", "odict_iterator", "itertools.zip_longest", "itertools.pairwise"].contains ty = false) (ho : s.heap.get? it = some o) (hc : o.cls = .type ty) (hd : o.data = .fields vs) (q : Q () s) :
    wpAny M A (letOwnedTupleGo target (.ref it) u) Q E s := by
  have fin : wpAny M A (do
      let (.ref r, .ref a) := (Value.ref it, u) | return
      let o ← load r
      match o.cls, o.data with
      | .type n, .fields vs =>
        if ["enumerate", "zip", "dict_itemiterator", "dict_reverseitemiterator", "odict_iterator", "itertools.zip_longest", "itertools.pairwise"].contains n && vs[0]? == some (rawInt a) then
          rule "for.unpacks-the-owned-tuple"
          updateField r 0 .none
      | _, _ => pure ()) Q E s := by
    cases u with
    | ref b =>
      refine wpAny_bind (wpAny_load ho ?_)
      rw [hc, hd]
      dsimp only
      rw [hty]
      exact wpAny_pure q
    | _ => exact wpAny_pure q
  unfold letOwnedTupleGo
  cases target <;> first | exact fin | exact wpAny_pure q
theorem own_plain {target : Expr} {it l : Addr} {u : Value} {i k' : Nat} {ty : String} {Q : Unit → AS → Prop} (hty : ["enumerate", "zip", "dict_itemiterator", "dict_reverseitemiterator", "odict_iterator", "itertools.zip_longest", "itertools.pairwise"].contains ty = false)
    (h : σ it = some (k', iterCell ty l i)) (q : Q () ⟨fs, σ, g⟩) : W c A (letOwnedTupleGo target (.ref it) u) Q E ⟨fs, σ, g⟩ := fun s hs =>
  (hs.own it k' _ h).1.elim fun _ z => own_tup hty z.1 z.2.1 z.2.2 ⟨_, hs, q⟩
theorem listIter_of {it l : Addr} {i : Nat} {k' : Nat} {s : Shared} (hs : St c a s) (h : a.σ it = some (k', iterCell "list_iterator" l i)) : s.heap.IsListIter it l i := by
  obtain ⟨⟨o, ho, hc, hd⟩, _⟩ := hs.own it k' _ h
  exact ⟨o, ho, hc, hd⟩
theorem tupleIter_of {it l : Addr} {i : Nat} {k' : Nat} {s : Shared} (hs : St c a s) (h : a.σ it = some (k', iterCell "tuple_iterator" l i)) : s.heap.IsTupleIter it l i := by
  obtain ⟨⟨o, ho, hc, hd⟩, _⟩ := hs.own it k' _ h
  exact ⟨o, ho, hc, hd⟩
theorem isTuple_of {D : Addr} {h : Heap} {us : Array Value} {n : Nat} (ho : h.get? D = some { cls := .type "tuple", data := .seq us n }) : h.IsTuple D us := ⟨_, ho, rfl, n, rfl⟩
theorem W_iter_list {l : Addr} {vs : List AV} {Q : Value → AS → Prop} (hl : σ l = some (k, .list vs)) (h : ∀ it, σ it = none → ∀ σ', σ' = upd σ it (some (9, iterCell "list_iterator" l 0)) → Q (.ref it) ⟨fs, σ', g⟩) : W c A (pyIter (.ref l)) Q E ⟨fs, σ, g⟩ := fun s hs => by
  obtain ⟨us, n, ho, e⟩ := own_list hs hl
  exact wpAny_pyIter_list (isList_of ho) ⟨_, hs.alloc (k := 9) (cl := iterCell "list_iterator" l 0) ⟨rfl, rfl⟩ rfl, h _ hs.fresh.1 _ rfl⟩
theorem W_iter_tuple {l : Addr} {vs : List AV} {Q : Value → AS → Prop} (hl : σ l = some (k, .tuple vs)) (h : ∀ it, σ it = none → ∀ σ', σ' = upd σ it (some (9, iterCell "tuple_iterator" l 0)) → Q (.ref it) ⟨fs, σ', g⟩) : W c A (pyIter (.ref l)) Q E ⟨fs, σ, g⟩ := fun s hs => by
  obtain ⟨us, n, ho, e⟩ := own_tuple hs hl
  exact wpAny_pyIter_tuple (isTuple_of ho) ⟨_, hs.alloc (k := 9) (cl := iterCell "tuple_iterator" l 0) ⟨rfl, rfl⟩ rfl, h _ hs.fresh.1 _ rfl⟩
theorem IterOf.list {l : Addr} {vs : List AV} (hh : A.handled = none) : IterOf c A vs k (fun σ => σ l = some (k, .list vs)) (iterCell "list_iterator" l) where
  item := fun {it i v fs σ g Q E} hit hl hv h s hs => by
    obtain ⟨us, n, ho, e⟩ := own_list hs hl
    obtain ⟨u, hu, eu⟩ := get_of e hv
    refine wpAny_pyNext_list_item (listIter_of hs hit) (isList_of ho) hu (fun h' hi hsb => ?_)
    obtain ⟨o', ho', hc', hd'⟩ := hi
    exact ⟨_, hs.put hit (fun b o q z => (hsb.2 b q).trans z) ho' (cl' := iterCell "list_iterator" l (i + 1)) ⟨hc', hd'⟩, h _ _ rfl eu⟩
  fin := fun {it i fs σ g Q E} hit hl hi h s hs => by
    obtain ⟨us, n, ho, e⟩ := own_list hs hl
    refine wpAny_pyNext_list_end hh (listIter_of hs hit) (isList_of ho) (by rw [Array.getElem?_eq_none]; rw [size_of e]; lia) (fun h' hx => ⟨_, hs.drop hit (fun b o q z => hx b o q z), h _ rfl⟩)
  keep := fun {σ it i x} h hi => by rw [upd_ne (fun q => by rw [q, hi] at h; cases h)]; exact h
  ext := fun {C σ σ'} hk hx h => hx _ _ _ h hk
  own := fun h q => own_plain (by decide) h q
theorem IterOf.tuple {l : Addr} {vs : List AV} (hh : A.handled = none) : IterOf c A vs k (fun σ => σ l = some (k, .tuple vs)) (iterCell "tuple_iterator" l) where
  item := fun {it i v fs σ g Q E} hit hl hv h s hs => by
    obtain ⟨us, n, ho, e⟩ := own_tuple hs hl
    obtain ⟨u, hu, eu⟩ := get_of e hv
    refine wpAny_pyNext_tuple_item (tupleIter_of hs hit) (isTuple_of ho) hu (fun h' hi hsb => ?_)
    obtain ⟨o', ho', hc', hd'⟩ := hi
    exact ⟨_, hs.put hit (fun b o q z => (hsb.2 b q).trans z) ho' (cl' := iterCell "tuple_iterator" l (i + 1)) ⟨hc', hd'⟩, h _ _ rfl eu⟩
  fin := fun {it i fs σ g Q E} hit hl hi h s hs => by
    obtain ⟨us, n, ho, e⟩ := own_tuple hs hl
    refine wpAny_pyNext_tuple_end hh (tupleIter_of hs hit) (isTuple_of ho) (by rw [Array.getElem?_eq_none]; rw [size_of e]; lia) (fun h' hx => ⟨_, hs.drop hit (fun b o q z => hx b o q z), h _ rfl⟩)
  keep := fun {σ it i x} h hi => by rw [upd_ne (fun q => by rw [q, hi] at h; cases h)]; exact h
  ext := fun {C σ σ'} hk hx h => hx _ _ _ h hk
  own := fun h q => own_plain (by decide) h q
theorem Wk_loop {L : Addr} {cl : List (Str × Addr)} {ns : List Str} {target : Expr} {it : Addr} {body : List Stmt} {vs : List AV} {src : (Addr → Option (Nat × Cell)) → Prop} {cell : Nat → Cell} {vv₀ : List (Option AV)} {σ₀ σ₁ : Addr → Option (Nat × Cell)} {R : Result → AS → Prop}
    (IO : IterOf c A vs k src cell) (C : List Nat) (h9 : 9 ∉ C) (hk : k ∉ C) (J : Nat → List (Option AV) → (Addr → Option (Nat × Cell)) → Prop)
    (stab : ∀ i vv σ σ', J i vv σ → Ext [9] σ σ' → J i vv σ') (hit : σ₀ it = none) (e₁ : σ₁ = upd σ₀ it (some (9, cell 0))) (hsrc : src σ₁) (hJ : J 0 vv₀ σ₀)
    (turn : ∀ i v vv σ u, J i vv σ → vs[i]? = some v → er u = v → src σ → Ext C σ₀ σ → W c A (assign target env u) (fun _ a₂ => W c A (execs body env) (fun fl a' => match fl with
      | .next | .cont => ∃ vv' σ', a' = ⟨⟨L, cl, ns, vv'⟩ :: fs, σ', g⟩ ∧ Ext C σ σ' ∧ J (i + 1) vv' σ'
      | .brk => R (.ok .next) a'
      | .ret v => R (.ok (.ret v)) a') (Noted c A env fun e a' => R (.error e) a') a₂) (Noted c A env fun e a' => R (.error e) a') ⟨⟨L, cl, ns, vv⟩ :: fs, σ, g⟩)
    (fin : ∀ vv σ, J vs.length vv σ → Ext C σ₀ σ → R (.ok .next) ⟨⟨L, cl, ns, vv⟩ :: fs, σ, g⟩) :
    Wk c A (.forLoop target (.ref it) body [] env) R ⟨⟨L, cl, ns, vv₀⟩ :: fs, σ₁, g⟩ := by
  refine Wk_for (I := fun n a => ∃ i vv σ, a = ⟨⟨L, cl, ns, vv⟩ :: fs, σ, g⟩ ∧ n + i = vs.length ∧ σ it = some (9, cell i) ∧ src σ ∧ J i vv σ ∧ Ext C σ₀ σ) (fun n a hI => ?_) vs.length
    ⟨0, vv₀, σ₁, rfl, rfl, at_upd e₁, hsrc, stab _ _ _ _ hJ (Ext.new_eq e₁ hit), Ext.new_eq e₁ hit⟩
  obtain ⟨i, vv, σ, rfl, hn, hc, hs, hj, hx⟩ := hI
  have off : ∀ x, Ext C σ₀ (upd σ it x) := fun x y k' cl' q1 q2 => by
    exact (upd_ne (ne_new q1 hit)).trans (hx y k' cl' q1 q2)
  have off9 : ∀ x, Ext [9] σ (upd σ it x) := fun x => Ext.upd_own hc (by first | decide | simp)
  cases n with
  | zero =>
    refine IO.fin hc hs (by first | exact Nat.le_trans (by assumption) (by decide) | exact Nat.le_add_right .. | exact Nat.lt_succ_self _ | exact Nat.le_of_lt (by assumption) | lia) (fun σ' e' => ?_)
    subst e'
    refine W_nil ?_
    have : i = vs.length := by lia
    subst this
    exact fin vv _ (stab _ _ _ _ hj (off9 _)) (off _)
  | succ n =>
    have hi : i < vs.length := by lia
    refine IO.item hc hs (v := vs[i]) (by simp [hi]) (fun σ' u e' eu => ?_)
    · subst e'
      refine IO.own (i := i + 1) (by first | decide | simp) ?_
      refine W_mono (turn i vs[i] vv _ u (stab _ _ _ _ hj (off9 _)) (by simp [hi]) eu (IO.keep hs hc) (off _)) (fun _ a₂ q => ?_) fun _ _ x => x
      refine W_mono q (fun fl a' q => ?_) fun _ _ x => x
      have go : (∃ vv' σ', a' = ⟨⟨L, cl, ns, vv'⟩ :: fs, σ', g⟩ ∧ Ext C (upd σ it (some (9, cell (i + 1)))) σ' ∧ J (i + 1) vv' σ') → ∃ m, m < n + 1 ∧ ∃ i vv σ, a' = ⟨⟨L, cl, ns, vv⟩ :: fs, σ, g⟩ ∧ m + i = vs.length ∧ σ it = some (9, cell i) ∧ src σ ∧ J i vv σ ∧ Ext C σ₀ σ := by
        rintro ⟨vv', σ', rfl, q1, q2⟩
        exact ⟨n, by lia, i + 1, vv', σ', rfl, by lia, q1 it 9 _ (by first | decide | simp) h9, IO.ext hk q1 (IO.keep hs hc), q2, (off _).trans q1⟩
      cases fl with
      | next => exact go q
      | cont => exact go q
      | brk => exact q
      | ret v => exact q
end
end Mine.Internal
namespace Mine.Internal
open PySem PySem.W PyProof.Rows PySem.Calls PySem.F PySem.AutoSeq1 PySem.MeetsSeq PySem.MeetsSeq3 PySem.SeqAt
section
variable {c : Cx} {A : Around} {E : Value → AS → Prop} {a : AS} {env : Env} {fs : List Frm} {σ : Addr → Option (Nat × Cell)} {g : Array GenState} {k : Nat}
theorem W_Call_method {o : Expr} {name : Str} {apos pos : Pos} {args : List Expr} {Q : Value → AS → Prop}
    (h : W c A (eval o env) (fun ov a₁ => ∀ pl, W c A (getMethod ov name pl) (fun fx a₂ => W c A (callWith pos fx.1 fx.2 (backTo pos (starEach args env)) []) Q E a₂) E a₁) E a)
    (hb : attributeBase o name env (eval o env) = eval o env := by with_unfolding_all rfl) (hfew : methodCallForm (args.length + 0) (backTo pos (starEach args env)) [] = true := by with_unfolding_all rfl) (hline : (apos.endLine == pos.line) = true := by with_unfolding_all rfl) :
    W c A (eval (.Call (.Attribute o name apos) args [] pos) env) Q E a := by
  show W c A (attributeBase o name env (eval o env) >>= _) Q E a
  rw [hb]
  refine W_bind (W_mono h (fun ov a₁ q => W_bind (W_standAt ?_)) fun _ _ x => x)
  show W c A (methodCall o name apos pos env ov (args.length + 0) (backTo pos (starEach args env)) []) Q E a₁
  unfold methodCall
  rw [hfew]
  refine W_bind (W_holding ?_)
  show W c A (getMethod ov name _) _ E a₁
  refine W_mono (q _) (fun fx a₂ q => ?_) fun _ _ x => x
  have : methodCallPos true o env apos pos = pure pos := by
    unfold methodCallPos; rw [hline]; rfl
  obtain ⟨f, first⟩ := fx
  show W c A (methodCallPos true o env apos pos >>= _) Q E a₂
  rw [this]
  exact W_bind (W_pure q)
theorem W_Call_methodS {o : Expr} {name : Str} {apos pos : Pos} {args : List Expr} {Q : Value → AS → Prop}
    (h : W c A (eval o env) (fun ov a₁ => W c A (getAttr ov name true) (fun f a₂ => W c A (callWith pos f [] (backTo pos (starEach args env)) []) Q E a₂) E a₁) E a)
    (hb : attributeBase o name env (eval o env) = eval o env := by with_unfolding_all rfl) (hfew : methodCallForm (args.length + 0) (backTo pos (starEach args env)) [] = false := by with_unfolding_all rfl) :
    W c A (eval (.Call (.Attribute o name apos) args [] pos) env) Q E a := by
  show W c A (attributeBase o name env (eval o env) >>= _) Q E a
  rw [hb]
  refine W_bind (W_mono h (fun ov a₁ q => W_bind (W_standAt ?_)) fun _ _ x => x)
  show W c A (methodCall o name apos pos env ov (args.length + 0) (backTo pos (starEach args env)) []) Q E a₁
  unfold methodCall
  rw [hfew]
  refine W_bind (W_holding (W_bind ?_))
  refine W_mono q (fun f a₂ q => W_pure ?_) fun _ _ x => x
  exact W_bind (W_pure q)
theorem W_Subscript {value slice : Expr} {pos : Pos} {Q : Value → AS → Prop}
    (h : W c A (eval value env) (fun o a₁ => W c A (eval slice env) (fun i a₂ => (∀ s, St c a₂ s → Looks (model c.prog c.w) s.heap (getitemInPython o) false) ∧ W c A (getItem o i) Q E a₂) E a₁) E a)
    (hsub : ∀ o i, subscripted slice false o i = operate [o, i] (getItem o i) := by intro _ _; with_unfolding_all rfl) : W c A (eval (.Subscript value slice pos) env) Q E a := by
  show W c A (eval value env >>= _) Q E a
  refine W_bind (W_mono h (fun o a₁ q => W_bind (W_holding (W_mono q (fun i a₂ q => W_bind (W_standAt ?_)) fun _ _ x => x))) fun _ _ x => x)
  intro s hs
  refine wpAny_bind ((q.1 s hs).here ?_)
  have key : wpAny (model c.prog c.w) A (getItem o i) (fun r s' => wpAny (model c.prog c.w) A (do letTemporaryGo value o r; pure r) (fun v s' => ∃ a', St c a' s' ∧ Q v a') (fun e s' => ∃ a', St c a' s' ∧ E e a') s') (fun e s' => ∃ a', St c a' s' ∧ E e a') s :=
    wpAny_mono (q.2 s hs) (fun r s' x => wpAny_bind (wpAny_letTemporaryGo (wpAny_pure x))) fun _ _ x => x
  have : ∀ vs, wpAny (model c.prog c.w) A (operate vs (getItem o i)) (fun r s' => wpAny (model c.prog c.w) A (do letTemporaryGo value o r; pure r) (fun v s' => ∃ a', St c a' s' ∧ Q v a') (fun e s' => ∃ a', St c a' s' ∧ E e a') s') (fun e s' => ∃ a', St c a' s' ∧ E e a') s := fun vs => wpAny_operate' key
  refine wpAny_bind ?_
  rw [hsub]
  exact this _
theorem noGet_list {l : Addr} {vs : List AV} (hl : a.σ l = some (k, .list vs)) : ∀ s, St c a s → Looks (model c.prog c.w) s.heap (getitemInPython (.ref l)) false := fun s hs => by
  obtain ⟨us, n, ho, e⟩ := own_list hs hl
  intro A Q E s' kk q
  unfold getitemInPython specialOf
  refine wpAny_bind (wpAny_bind (wpAny_typeOf ⟨_, kk _ _ ho, rfl⟩ ?_))
  rw [PySem.F.slot_list_getitem.lookup]
  exact wpAny_pure (wpAny_pure q)
theorem noGet_dict {l : Addr} {kvs : List (AV × AV)} {ep : Nat} (hl : a.σ l = some (k, .dict kvs ep)) : ∀ s, St c a s → Looks (model c.prog c.w) s.heap (getitemInPython (.ref l)) false := fun s hs => by
  obtain ⟨⟨o, ho, ex, _⟩, _⟩ := hs.own l k _ hl
  intro A Q E s' kk q
  unfold getitemInPython specialOf
  refine wpAny_bind (wpAny_bind (wpAny_typeOf ⟨_, kk _ _ ho, ex.1⟩ ?_))
  rw [PySem.F.slot_dict_getitem.lookup]
  exact wpAny_pure (wpAny_pure q)
theorem W_AugAttr {o : Expr} {attr : Str} {tpos : Pos} {op : Operator} {value : Expr} {pos : Pos} {Q : Flow → AS → Prop}
    (h : W c A (eval o env) (fun ov a₁ => W c A (getAttr ov attr true) (fun old a₂ => W c A (eval value env) (fun v a₃ => W c A (inplaceOp op old v) (fun new a₄ => W c A (setAttr ov attr new) (fun _ => Q .next) E a₄) E a₃) E a₂) E a₁) E a) :
    W c A (exec (.AugAssign (.Attribute o attr tpos) op value pos) env) Q E a := by
  show W c A (standAt pos >>= _) Q E a
  refine W_bind (W_standAt (W_bind (W_mono h (fun ov a₁ q => W_bind (W_holding (W_bind (W_standAt (W_bind (W_mono q (fun old a₂ q => W_bind (W_holding (W_mono q (fun v a₃ q => W_bind (W_standAt ?_)) fun _ _ x => x))) fun _ _ x => x)))))) fun _ _ x => x)))
  intro s hs
  refine wpAny_operate' (wpAny_mono (q s hs) (fun new s₄ pz58 => pz58.elim fun a₄ pz59 => pz59.elim fun h4 q => ⟨a₄, h4, ?_⟩) fun _ _ x => x)
  refine W_bind (W_standAt (W_bind (W_holding (W_mono q (fun _ a₅ q => ?_) fun _ _ x => x))))
  refine W_bind ?_
  intro s hs Γ p' hΓ
  rw [Sem.wp_release]
  exact ⟨a₅, hs, W_pure q⟩
noncomputable def codeOf (x : Str) : Nat := x.cps.foldl (fun n c => n * 2097152 + c + 1) 0
theorem nodup_of_codes : ∀ {l : List Str}, (l.map codeOf).Nodup → l.Nodup
  | [], _ => .nil
  | x :: l, h => by
    simp only [List.map_cons, List.nodup_cons] at h ⊢
    exact ⟨fun q => h.1 (List.mem_map_of_mem q), nodup_of_codes h.2⟩
theorem lookup_nodup {α : Type} : ∀ {l : List (Str × α)}, (l.map (·.1)).Nodup → ∀ {p : Str × α}, p ∈ l → l.lookup p.1 = some p.2
  | [], _, _, h => by cases h
  | q :: l, hd, p, h => by
    simp only [List.map_cons, List.nodup_cons] at hd
    rw [List.lookup_cons]
    rcases List.mem_cons.mp h with e | h
    · subst e; simp
    · have : (p.1 == q.1) = false := beq_eq_false_iff_ne.mpr fun e => hd.1 (e ▸ List.mem_map_of_mem h)
      simp only [this]; exact lookup_nodup hd.2 h
theorem mkEnv {fd : FuncData} {L f : Addr} {ns : List Str} {gs : List (Str × Value)} (hn : fd.scope.names = ns.map (·, NameKind.local) ++ gs.map (fun p => (p.1, NameKind.globalImplicit))) (hk : fd.scope.kind = .function)
    (hg : fd.globals = mainGlobals) (hb : fd.builtins = builtinsNs) (hnd : ((("__debug__" : Str) :: (ns ++ gs.map (·.1))).map codeOf).Nodup) (hglob : ∀ p ∈ gs, Glob c p.1 p.2) : EnvOk c (callEnv fd L f) L [] ns gs := by
  have h0 := nodup_of_codes hnd
  have h1 := (List.nodup_cons.mp h0).2
  have hkeys : (fd.scope.names.map (·.1)).Nodup := by
    rw [hn, List.map_append, List.map_map, List.map_map]
    simpa [Function.comp_def] using h1
  have look : ∀ {p}, p ∈ fd.scope.names → (callEnv fd L f).kindOf p.1 = some p.2 := fun hp => lookup_nodup hkeys hp
  have nodbg : ∀ x ∈ ns ++ gs.map (·.1), (x == ("__debug__" : Str)) = false := fun x hx => beq_eq_false_iff_ne.mpr fun e => (List.nodup_cons.mp h0).1 (e ▸ hx)
  refine ⟨hk, rfl, (List.nodup_append.mp h1).1, .nil, fun x hx => ⟨nodbg x (List.mem_append_left _ hx), .inl ⟨rfl, ?_⟩⟩, fun p hp => ⟨nodbg _ (List.mem_append_right _ (List.mem_map_of_mem hp)), ?_, hglob p hp⟩, hg, hb⟩
  · exact look (p := (x, .local)) (by rw [hn]; exact List.mem_append_left _ (List.mem_map_of_mem hx))
  · exact look (p := (p.1, .globalImplicit)) (by rw [hn]; exact List.mem_append_right _ (List.mem_map.mpr ⟨p, hp, rfl⟩))
theorem W_ExprE {e : Expr} {pos : Pos} {L : Addr} {cl ns gs} {Q : Flow → AS → Prop} (he : EnvOk c env L cl ns gs) (h : W c A (eval e env) (fun _ a' => Q .next a') E a)
    (hs : swapsWith e none pos.line env = pure false := by with_unfolding_all rfl) : W c A (exec (.Expr e pos) env) Q E a :=
  W_Expr h (by unfold interactive; rw [he.kind]; rfl) hs
noncomputable def fdOf (K : Frag) (a : Addr) : FuncData := match K.lookup a with
  | some ⟨_, _, .func fd, _⟩ => fd
  | _ => default
noncomputable def isFd (K : Frag) (a : Addr) : Bool := match K.lookup a with
  | some ⟨_, _, .func _, _⟩ => true
  | _ => false
theorem fdOf_ex {K : Frag} {a : Addr} (h : isFd K a = true) : ∃ o, K.lookup a = some o ∧ o.data = .func (fdOf K a) := by
  unfold isFd at h
  unfold fdOf
  split at h
  · rename_i q; exact ⟨_, q, rfl⟩
  · cases h
end
end Mine.Internal
namespace Mine.Internal
open PySem PySem.W PyProof.Rows PySem.Calls PySem.F PySem.AutoSeq1 PySem.MeetsSeq PySem.MeetsSeq3 PySem.SeqAt
theorem ite_t {p : Prop} [Decidable p] {a b : Prop} (hp : p) (h : a) : if p then a else b := by rw [if_pos hp]; exact h
theorem ite_f {p : Prop} [Decidable p] {a b : Prop} (hp : ¬ p) (h : b) : if p then a else b := by rw [if_neg hp]; exact h
theorem Pop.mk {fs : List Frm} {P : AS → Prop} {f : Frm} {σ g} (h : P ⟨fs, σ, g⟩) : Pop fs P ⟨f :: fs, σ, g⟩ := ⟨f, rfl, h⟩
section
variable {c : Cx} {A : Around} {E : Value → AS → Prop} {a : AS} {env : Env} {fs : List Frm} {σ : Addr → Option (Nat × Cell)} {g : Array GenState} {k : Nat}
theorem meets_bool_new_list (l : Addr) (items : Array Value) : Meets (Builtin.«bool.__new__» ⟨[.type "bool", .ref l], []⟩) (fun _ R s => s.heap.IsList l items ∧ (items.size : Int) < 2 ^ 63 ∧ ∀ tk, R (.ok (.ret (.bool (!items.isEmpty)))) { s with toks := tk }) := by
  refine Meets.of_wp fun prog w A R s h => ?_
  obtain ⟨hp, g, d, tk, os⟩ := s
  obtain ⟨h1, h2, h3⟩ := h
  have f1 := F.conv_sub_bool
  repeat (any_goals (first | assumption | (with_reducible refine wpAny_truthy_list h1 h2 ?_) | wp_step))
  all_goals first | exact ⟨_, rfl, h3 _⟩ | skip
theorem W_bool_list {l : Addr} {vs : List AV} {Q : Value → AS → Prop} (hl : a.σ l = some (k, .list vs)) (hz : vs.length ≤ 1000000) (h : Q (.bool (!vs.isEmpty)) a) : W c A (call (.type "bool") [.ref l]) Q E a := fun s hs => by
  obtain ⟨us, n, ho, e⟩ := own_list hs hl
  have hsz := size_of e
  have : us.isEmpty = vs.isEmpty := by
    rw [← e]; cases us with | mk l => cases l <;> simp
  refine call_bool_1 (meets_bool_new_list l us) ⟨isList_of ho, by rw [hsz]; exact fits_big hz, fun tk => ⟨rfl, a, hs.of_eq, ?_⟩⟩
  rw [this]; exact h
theorem backTo_plain {pos : Pos} {x : Sem Value} {l : List (Bool × Sem Value)} : backTo pos ((false, x) :: l) = (false, x) :: backTo pos l := rfl
theorem W_args {f : Value} {e : Expr} {rest : List Expr} {pos : Pos} {Q : Args → AS → Prop} (h : W c A (spliced (backTo pos (starEach (e :: rest) env))) (fun vs a₁ => Q ⟨vs, []⟩ a₁) E a)
    (hst : starEach (e :: rest) env = (false, eval e env) :: starEach rest env := by with_unfolding_all rfl) : W c A (evalArgs f true (backTo pos (starEach (e :: rest) env)) []) Q E a := by
  rw [hst, backTo_plain] at h ⊢
  exact W_evalArgs h
theorem W_args_nil {f : Value} {pos : Pos} {Q : Args → AS → Prop} (h : Q ⟨[], []⟩ a) : W c A (evalArgs f true (backTo pos (starEach [] env)) []) Q E a := W_evalArgs_nil h
theorem W_spl {e : Expr} {rest : List Expr} {pos : Pos} {Q : List Value → AS → Prop} (h : W c A (eval e env) (fun v a₁ => W c A (spliced (backTo pos (starEach rest env))) (fun vs a₂ => Q (v :: vs) a₂) E a₁) E a)
    (hst : starEach (e :: rest) env = (false, eval e env) :: starEach rest env := by with_unfolding_all rfl) : W c A (spliced (backTo pos (starEach (e :: rest) env))) Q E a := by
  rw [hst, backTo_plain]
  exact W_spliced_cons h
theorem W_spl_nil {pos : Pos} {Q : List Value → AS → Prop} (h : Q [] a) : W c A (spliced (backTo pos (starEach [] env))) Q E a := W_spliced_nil h
noncomputable def Starry (c : Cx) (a : AS) (l : Addr) (vs : List AV) : Prop := ∃ k, a.σ l = some (k, .list vs) ∨ a.σ l = some (k, .tuple vs)
theorem starry_obj {l : Addr} {vs : List AV} {s : Shared} (hs : St c a s) (h : Starry c a l vs) : ∃ T us n o, (T = "list" ∨ T = "tuple") ∧ s.heap.get? l = some o ∧ o.cls = .type T ∧ o.data = .seq us n ∧ us.toList.map er = vs := by
  obtain ⟨k, h | h⟩ := h
  · obtain ⟨us, n, ho, e⟩ := own_list hs h
    exact ⟨_, us, n, _, .inl rfl, ho, rfl, rfl, e⟩
  · obtain ⟨us, n, ho, e⟩ := own_tuple hs h
    exact ⟨_, us, n, _, .inr rfl, ho, rfl, rfl, e⟩
theorem W_starOf {l : Addr} {vs : List AV} {Q : List Value → Shared → Prop} {s : Shared} (hs : St c a s) (h : Starry c a l vs) (hz : vs.length ≤ 1000000) (q : ∀ us s', us.map er = vs → St c a s' → Q us s') :
    StarOf (model c.prog c.w) A (fun e s' => ∃ a', St c a' s' ∧ E e a') (.ref l) Q s := by
  obtain ⟨T, us, n, o, hT, ho, hc, hd, e⟩ := starry_obj hs h
  have hit : Looks (model c.prog c.w) s.heap (notIterableAtAll (.ref l)) false := by
    intro A Q E s' kk q
    unfold notIterableAtAll specialOf
    refine wpAny_bind (wpAny_bind (wpAny_typeOf ⟨_, kk _ _ ho, hc⟩ ?_))
    rcases hT with rfl | rfl
    · rw [PySem.F.slot_list_iter.lookup]; exact wpAny_pure (wpAny_pure q)
    · rw [PySem.F.slot_tuple_iter.lookup]; exact wpAny_pure (wpAny_pure q)
  refine hit.here ⟨rfl, ?_⟩
  exact wpAny_collect_seq l hT ho hc hd (fun h' k' => q _ _ e (hs.grow k')) (by rw [size_of e]; exact sizeLine_big hz)
theorem W_args_star {f : Value} {e : Expr} {p : Pos} {pos : Pos} {Q : Args → AS → Prop} (h : W c A (eval e env) (fun v a₁ => ∃ l vs, v = .ref l ∧ Starry c a₁ l vs ∧ vs.length ≤ 1000000 ∧ ∀ us, us.map er = vs → Q ⟨us, []⟩ a₁) E a) :
    W c A (evalArgs f true (backTo pos (starEach [.Starred e p] env)) []) Q E a := by
  intro s hs
  refine ks_lone (wpAny_mono (h s hs) (fun v s₁ pq => ?_) fun _ _ x => x)
  obtain ⟨a₁, h1, l, vs, e1, e2, e3, e4⟩ := pq
  subst e1
  exact W_starOf h1 e2 e3 fun us s' e h' => ⟨_, h', e4 us e⟩
noncomputable def bodyOf (fd : FuncData) : List Stmt := match fd.body with
  | .stmts b => b
  | _ => []
structure FnOk (K : Frag) (f : Addr) (ps rs : List Str) (gs : List Str) : Prop where
  fn : isFd K f = true
  code : codeIn K (fdOf K f).code (fdOf K f).qualname = true
  names : (fdOf K f).scope.names = (ps ++ rs).map (·, NameKind.local) ++ gs.map (·, NameKind.globalImplicit)
  kind : (fdOf K f).scope.kind = .function
  co : (fdOf K f).scope.isCoroutine = false
  gen : (fdOf K f).scope.isGenerator = false
  body : (fdOf K f).body = .stmts (bodyOf (fdOf K f))
  gl : (fdOf K f).globals = mainGlobals
  bl : (fdOf K f).builtins = builtinsNs
  nd : ((("__debug__" : Str) :: ((ps ++ rs) ++ gs)).map codeOf).Nodup
theorem Wk_call_KD {K : Frag} {f : Addr} {ps rs ns : List Str} {gs : List (Str × Value)} {args vals : List Value} {us : List AV} {vs : List (Option AV)} {d : Nat} {R : Result → AS → Prop}
    (hK : c.K = K) (hf : FnOk K f ps rs (gs.map (·.1))) (hns : ns = ps ++ rs) (hbind : ∀ s : Shared, K.In s.heap → BindsTo s (fdOf K f) ⟨args, []⟩ (ps.zip vals)) (hu : vals.map er = us) (hi : Init ps us rs vs) (hglob : ∀ p ∈ gs, Glob c p.1 p.2) (hA : AOk A fs (d + 1))
    (h : ∀ L env, env = callEnv (fdOf K f) L f → σ L = none → AOk (A.deeper env) (⟨L, [], ns, vs⟩ :: fs) d → EnvOk c env L [] ns gs →
      W c (A.deeper env) (execs (bodyOf (fdOf K f)) env) (fun fl a' => Pop fs (R (.ok (.ret (retOf fl)))) a')
        (fun e a' => W c (A.deeper env) (leaving env e) (fun _ a'' => Pop fs (R (.error e)) a'') (fun _ _ => False) a') ⟨⟨L, [], ns, vs⟩ :: fs, σ, g⟩) :
    Wk c A (.call (.ref f) ⟨args, []⟩) R ⟨fs, σ, g⟩ := by
  subst hK hns
  obtain ⟨o, ho, hd⟩ := fdOf_ex hf.fn
  have hnm := hf.names
  rw [List.map_map] at hnm
  have hnd := nodup_of_codes hf.nd
  have hnd2 := (List.nodup_cons.mp hnd).2
  refine Wk_call_fn ho hd hf.code hf.body hbind hu hi (List.nodup_append.mp hnd2).1 (fun x hx => ?_) (fun x hx => ?_) hA (fun L hL hA' => h L _ rfl hL hA' (mkEnv hnm hf.kind hf.gl hf.bl hf.nd hglob)) hf.co hf.gen hf.kind
  · rw [hnm] at hx
    rcases List.mem_append.mp hx with hx | hx
    · obtain ⟨y, _, rfl⟩ := List.mem_map.mp hx; intro q; cases q
    · obtain ⟨y, _, rfl⟩ := List.mem_map.mp hx; intro q; cases q
  · have hkeys : ((fdOf c.K f).scope.names.map (·.1)).Nodup := by
      rw [hnm, List.map_append, List.map_map, List.map_map]
      simpa [Function.comp_def] using hnd2
    exact lookup_nodup hkeys (p := (x, .local)) (by rw [hnm]; exact List.mem_append_left _ (List.mem_map.mpr ⟨x, List.mem_append_left _ hx, rfl⟩))
end
end Mine.Internal
namespace Mine.Internal
open PySem PySem.W PyProof.Rows PySem.Calls PySem.F
noncomputable def tbv : Option Addr → Value
  | none => .none
  | some T => .ref T
noncomputable def excCell (cls : Value) (t : Addr) (tb : Option Addr) : Cell := .raw fun o => o.cls = cls ∧ o.dict = none ∧ ∃ vs : Array Value, o.data = .fields vs ∧ vs[0]? = some (.ref t) ∧ vs[1]? = some (tbv tb) ∧ vs.size = 6
noncomputable def tbCell : Cell := .raw fun o => ∃ ts : Array Value, o.data = .fields ts ∧ 3 < ts.size
structure Exc (σ : Addr → Option (Nat × Cell)) (e t : Addr) (cls : Value) (args : List AV) (tb : Option Addr) : Prop where
  he : σ e = some (8, excCell cls t tb)
  ht : σ t = some (0, .tuple args)
  htb : ∀ T, tb = some T → σ T = some (8, tbCell) ∧ T ≠ e
theorem Exc.ext {C : List Nat} {σ σ' : Addr → Option (Nat × Cell)} {e t : Addr} {cls : Value} {args : List AV} {tb : Option Addr} (h : Exc σ e t cls args tb) (x : Ext C σ σ') (h0 : 0 ∉ C) (h8 : 8 ∉ C) : Exc σ' e t cls args tb :=
  ⟨x _ _ _ h.he h8, x _ _ _ h.ht h0, fun T q => ⟨x _ _ _ (h.htb T q).1 h8, (h.htb T q).2⟩⟩
section
variable {c : Cx} {A : Around} {E : Value → AS → Prop} {a : AS} {env : Env} {fs : List Frm} {σ : Addr → Option (Nat × Cell)} {g : Array GenState} {k : Nat} {outer : List Env}
theorem AOk.head {d : Nat} (h : AOk A fs d) (env : Env) : ∃ outer, (A.deeper env).frames = some (env :: outer) := by
  obtain ⟨envs, e, _⟩ := h.link
  exact ⟨envs, by simp [Around.deeper, e]⟩
theorem link_frames (hl : Link A fs) (hF : A.frames = some (env :: outer)) {s : Shared} (hs : St c ⟨fs, σ, g⟩ s) : s.heap.FunFrames c.base (env :: outer) ∧ ∀ b ∈ (env :: outer).filterMap (·.frame), ∃ f ∈ fs, b = f.L := by
  obtain ⟨envs, e, r⟩ := hl
  rw [hF] at e; cases e
  constructor
  · have : ∀ l : List Env, (∀ e ∈ l, e.scope.kind = .function ∧ ∃ f ∈ fs, e.frame = some f.L) → s.heap.FunFrames c.base l := by
      intro l
      induction l with
      | nil => intro _; trivial
      | cons en l ih =>
        intro h
        obtain ⟨hk, f, hf, q⟩ := h en (List.mem_cons_self ..)
        obtain ⟨m, ⟨o, es, ep, ho, hd, _⟩, _⟩ := hs.fr f hf
        refine ⟨by rw [hk]; decide, ⟨f.L, o, q, hs.nb f hf f.L (by simp [Frm.as]), ho, fun vs z => by rw [hd] at z; cases z⟩, ih fun e he => h e (List.mem_cons_of_mem _ he)⟩
    exact this _ r
  · intro b hb
    obtain ⟨en, hen, q⟩ := List.mem_filterMap.mp hb
    obtain ⟨_, f, hf, q'⟩ := r en hen
    rw [q'] at q; cases q
    exact ⟨f, hf, rfl⟩
theorem St.slots {s : Shared} {S : List Addr} {h' : Heap} (hs : St c ⟨fs, σ, g⟩ s) (hS : ∀ b ∈ S, ∃ f ∈ fs, b = f.L) (x : Heap.SlotsOnly S s.heap h') : St c ⟨fs, σ, g⟩ { s with heap := h' } := by
  have inF : ∀ b ∈ S, b ∈ fs.flatMap Frm.as := fun b hb => by
    obtain ⟨f, hf, rfl⟩ := hS b hb
    exact List.mem_flatMap.mpr ⟨f, hf, by simp [Frm.as]⟩
  have nb : ∀ b ∈ S, c.base.get? b = none := fun b hb => by
    obtain ⟨f, hf, rfl⟩ := hS b hb
    exact hs.nb f hf _ (by simp [Frm.as])
  refine ⟨fun b o e => (x.2.1 b fun q => by rw [nb b q] at e; cases e).trans (hs.keep b o e), fun f hf => ?_, hs.nb, hs.nd, fun y k cl e => ?_, hs.os, hs.gens⟩
  · obtain ⟨m, ⟨o, es, ep, ho, hd, r⟩, h2, h3⟩ := hs.fr f hf
    obtain ⟨sl, hsl⟩ := x.2.2 _ _ ho
    refine ⟨m, ⟨_, es, ep, hsl, hd, r⟩, h2, fun p hp => ?_⟩
    obtain ⟨ov, ⟨oc, hoc, hod⟩, eo⟩ := h3 p hp
    obtain ⟨sl', hsl'⟩ := x.2.2 _ _ hoc
    exact ⟨ov, ⟨_, hsl', hod⟩, eo⟩
  · obtain ⟨⟨o, ho, ok⟩, r1, r2⟩ := hs.own y k cl e
    exact ⟨⟨o, (x.2.1 y fun q => r2 (inF y q)).trans ho, ok⟩, r1, r2⟩
theorem exc_get {s : Shared} {e t : Addr} {cls : Value} {args : List AV} {tb : Option Addr} (hs : St c a s) (hX : Exc a.σ e t cls args tb) :
    ∃ o vs, s.heap.get? e = some o ∧ o.cls = cls ∧ o.dict = none ∧ o.data = .fields vs ∧ vs[0]? = some (.ref t) ∧ vs[1]? = some (tbv tb) ∧ vs.size = 6 := by
  obtain ⟨⟨o, ho, h1, h2, vs, h3⟩, _⟩ := hs.own e 8 _ hX.he
  exact ⟨o, vs, ho, h1, h2, h3⟩
theorem tb_get {s : Shared} {T : Addr} (hs : St c a s) (hX : a.σ T = some (8, tbCell)) : ∃ o ts, s.heap.get? T = some o ∧ o.data = .fields ts ∧ 3 < ts.size := by
  obtain ⟨⟨o, ho, ts, h1, h2⟩, _⟩ := hs.own T 8 _ hX
  exact ⟨o, ts, ho, h1, h2⟩
theorem St.tbset {s : Shared} {T : Addr} {i : Nat} {v : Value} (hs : St c ⟨fs, σ, g⟩ s) (hT : σ T = some (8, tbCell)) : St c ⟨fs, σ, g⟩ { s with heap := s.heap.update T (Obj.mapFields (·.setIfInBounds i v)) } := by
  obtain ⟨o, ts, ho, hd, hsz⟩ := tb_get hs hT
  have hd' := Obj.data_mapFields hd (·.setIfInBounds i v)
  have := hs.put (k' := 8) (cl' := tbCell) hT (h' := s.heap.update T (Obj.mapFields (·.setIfInBounds i v))) upd_keeps (Heap.get?_update_self _ ho (Obj.isFreed_of_fields hd')) ⟨_, hd', by simpa using hsz⟩
  have e : upd σ T (some (8, tbCell)) = σ := by
    funext y
    by_cases q : y = T
    · subst q; rw [upd_self, hT]
    · rw [upd_ne q]
  rw [e] at this
  exact this
theorem W_setFlight {e t : Addr} {cls : Value} {args : List AV} {tb : Option Addr} {fr : Option Addr} {Q : Unit → AS → Prop} (hX : Exc σ e t cls args tb) (h : Q () ⟨fs, σ, g⟩) : W c A (setFlight (.ref e) fr) Q E ⟨fs, σ, g⟩ := by
  intro s hs
  obtain ⟨o, vs, ho, _, _, hd, _, h1, hsz⟩ := exc_get hs hX
  unfold setFlight
  refine wpAny_bind (wpAny_field ho hd h1 ?_)
  cases tb with
  | none =>
    rw [if_neg (by simp [tbv])]
    exact wpAny_pure ⟨_, hs, h⟩
  | some T =>
    rw [if_pos (by simp [tbv])]
    obtain ⟨oT, ts, hoT, hdT, hszT⟩ := tb_get hs (hX.htb T rfl).1
    exact wpAny_setField hoT hdT hszT ⟨_, hs.tbset (hX.htb T rfl).1, h⟩
theorem W_noteFrame {e t : Addr} {cls : Value} {args : List AV} {tb : Option Addr} {L : Addr} {Q : Unit → AS → Prop} (hl : Link A fs) (hF : A.frames = some (env :: outer)) (hf : env.frame = some L) (hX : Exc σ e t cls args tb)
    (h : ∀ σ' T, Ext [8] σ σ' → Exc σ' e t cls args (some T) → Q () ⟨fs, σ', g⟩) : W c A (noteFrame (.ref e) env) Q E ⟨fs, σ, g⟩ := by
  intro s hs
  obtain ⟨o, vs, ho, hc, hdi, hd, h0, h1, hsz⟩ := exc_get hs hX
  -- the second half: a new entry
  have half : ∀ s₁ : Shared, St c ⟨fs, σ, g⟩ s₁ → ∀ hadNext, wpAny (model c.prog c.w) A (do
      let fr ← frameOf env
      let pl ← entryPlaceOf L hadNext
      let b ← EntryCells.newEntry (tbv tb) fr .none (rawInt L) .none pl
      setField (.ref e) 1 b) (fun v s' => ∃ a', St c a' s' ∧ Q v a') (fun e s' => ∃ a', St c a' s' ∧ E e a') s₁ := by
    intro s₁ hs₁ hadNext
    obtain ⟨FF, inF⟩ := link_frames hl hF hs₁
    refine wpAny_bind (wpAny_frameOf_fun hF FF hf fun h₂ hsl => ?_)
    have hs₂ := hs₁.slots inF hsl
    refine wpAny_bind (wpAny_entryPlaceOf fun pl hpl => ?_)
    unfold EntryCells.newEntry newFields
    refine wpAny_bind (wpAny_newObj_type ?_ (hpl.sizeOk5 _ _ _ _ _))
    have hs₃ := hs₂.alloc (k := 8) (cl := tbCell) (o := { cls := .type "traceback", dict := none, data := .fields ([tbv tb, .ref L, .none, rawInt L, .none] ++ (if pl.isEmpty then List.replicate 6 Value.none else pl)).toArray }) ⟨_, rfl, by simp only [List.size_toArray, List.length_append, List.length_cons, List.length_nil] <;> lia⟩ rfl
    have fr := hs₂.fresh
    dsimp only at hs₃ fr
    have hX' : upd σ h₂.objs.size (some (8, tbCell)) e = some (8, excCell cls t tb) := by
      exact (upd_ne (fun q => by have := hX.he; rw [q, fr.1] at this; cases this)).trans hX.he
    obtain ⟨⟨o₃, ho₃, hc₃, hdi₃, vs₃, hd₃, h03, h13, hsz₃⟩, _⟩ := hs₃.own e 8 _ hX'
    refine wpAny_setField ho₃ hd₃ (by first | exact Nat.le_trans (by assumption) (by decide) | exact Nat.le_add_right .. | exact Nat.lt_succ_self _ | exact Nat.le_of_lt (by assumption) | lia) ?_
    have hd₄ := Obj.data_mapFields hd₃ (·.setIfInBounds 1 (Value.ref h₂.objs.size))
    have hs₄ := hs₃.put (k' := 8) (cl' := excCell cls t (some h₂.objs.size)) hX' (h' := (h₂.push { cls := .type "traceback", dict := none, data := .fields ([tbv tb, .ref L, .none, rawInt L, .none] ++ (if pl.isEmpty then List.replicate 6 Value.none else pl)).toArray }).update e (Obj.mapFields (·.setIfInBounds 1 (Value.ref h₂.objs.size)))) upd_keeps
      (Heap.get?_update_self _ ho₃ (Obj.isFreed_of_fields hd₄)) ⟨(Obj.cls_mapFields ..).trans hc₃, by obtain ⟨_, _, dd, _⟩ := o₃; cases dd <;> exact hdi₃, _, hd₄, by simpa using h03, by simp [tbv, hsz₃], by simpa using hsz₃⟩
    refine ⟨_, hs₄, h _ h₂.objs.size (fun y k' cl' q1 q2 => ?_) ⟨by simp, ?_, fun T q => ?_⟩⟩
    · have n1 : y ≠ e := fun z => by rw [z, hX.he] at q1; cases q1; exact q2 (by first | decide | simp)
      have n2 : y ≠ h₂.objs.size := ne_new q1 fr.1
      simp only [upd_ne n1, upd_ne n2]; exact q1
    · have n1 : t ≠ e := fun z => by have := hX.ht; rw [z, hX.he] at this; cases this
      have n2 : t ≠ h₂.objs.size := fun z => by have := hX.ht; rw [z, fr.1] at this; cases this
      simp only [upd_ne n1, upd_ne n2]; exact hX.ht
    · cases q
      have n1 : h₂.objs.size ≠ e := fun z => by have := hX.he; rw [← z, fr.1] at this; cases this
      exact ⟨by simp only [upd_ne n1, upd_self], n1⟩
  unfold noteFrame
  rw [hf]
  refine wpAny_bind (wpAny_field ho hd h1 ?_)
  cases tb with
  | none =>
    rw [if_neg (by simp [tbv])]
    exact half s hs _
  | some T =>
    rw [if_pos (by simp [tbv])]
    obtain ⟨oT, ts, hoT, hdT, hszT⟩ := tb_get hs (hX.htb T rfl).1
    refine wpAny_bind (wpAny_field hoT hdT (x := ts[3]) (by simp [hszT]) ?_)
    split
    · exact wpAny_pure ⟨_, hs, h σ T .refl hX⟩
    · refine wpAny_bind (wpAny_setField hoT hdT hszT ?_)
      exact half _ (hs.tbset (hX.htb T rfl).1) _
theorem W_leaving {e t : Addr} {cls : Value} {args : List AV} {tb : Option Addr} {L : Addr} {Q : Unit → AS → Prop} (hl : Link A fs) (hF : A.frames = some (env :: outer)) (hf : env.frame = some L) (hX : Exc σ e t cls args tb)
    (h : ∀ σ' T, Ext [8] σ σ' → Exc σ' e t cls args (some T) → Q () ⟨fs, σ', g⟩) : W c A (leaving env (.ref e)) Q E ⟨fs, σ, g⟩ :=
  W_bind (W_noteFrame hl hF hf hX fun σ' T x1 x2 => W_setFlight x2 (h σ' T x1 x2))
theorem noted_exc {e t : Addr} {cls : Value} {args : List AV} {tb : Option Addr} {L : Addr} (hl : Link A fs) (hF : A.frames = some (env :: outer)) (hf : env.frame = some L) (hX : Exc σ e t cls args tb)
    (h : ∀ σ' T, Ext [8] σ σ' → Exc σ' e t cls args (some T) → E (.ref e) ⟨fs, σ', g⟩) : Noted c A env E (.ref e) ⟨fs, σ, g⟩ := W_noteFrame hl hF hf hX h
theorem came_exc {e t : Addr} {cls : Value} {args : List AV} {T : Addr} (hX : Exc σ e t cls args (some T)) (h : E (.ref e) ⟨fs, σ, g⟩) : Came c A env E (.ref e) ⟨fs, σ, g⟩ := by
  unfold Came
  intro s hs
  obtain ⟨o, vs, ho, _, _, hd, _, h1, hsz⟩ := exc_get hs hX
  refine wpAny_bind (wpAny_field ho hd h1 ?_)
  rw [if_neg (by simp [tbv])]
  exact W_setFlight hX h s hs
end
end Mine.Internal
namespace Mine.Internal
open PySem PySem.W PyProof.Rows PySem.Calls PySem.F
section
variable {c : Cx} {A : Around} {E : Value → AS → Prop} {a : AS} {env : Env} {fs : List Frm} {σ : Addr → Option (Nat × Cell)} {g : Array GenState} {k : Nat} {outer : List Env}
theorem St.adopt {s : Shared} {h' : Heap} {x : Addr} {cl : Cell} {o : Obj} (k : Nat) (hs : St c a s) (hk : ∀ b o, s.heap.get? b = some o → h'.get? b = some o) (hn : s.heap.get? x = none) (ho : h'.get? x = some o) (ok : cl.ok c o) :
    a.σ x = none ∧ St c { a with σ := upd a.σ x (some (k, cl)) } { s with heap := h' } := by
  have h0 : a.σ x = none := by
    cases e : a.σ x with
    | none => rfl
    | some p => obtain ⟨⟨o, ho, _⟩, _⟩ := hs.own x p.1 p.2 e; rw [hn] at ho; cases ho
  have hb : c.base.get? x = none := by
    cases e : c.base.get? x with
    | none => rfl
    | some p => have := hs.keep _ _ e; rw [hn] at this; cases this
  have hf : x ∉ a.fs.flatMap Frm.as := fun hm => by
    obtain ⟨f, hf, hx⟩ := List.mem_flatMap.mp hm
    obtain ⟨m, ⟨o, _, _, ho, _⟩, _, h3⟩ := hs.fr f hf
    simp only [Frm.as, List.mem_cons, List.mem_map] at hx
    rcases hx with e | ⟨p, hp, e⟩
    · rw [← e, hn] at ho; cases ho
    · obtain ⟨ov, ⟨oc, hc, _⟩, _⟩ := h3 p hp
      rw [e, hn] at hc; cases hc
  refine ⟨h0, ⟨fun b o e => hk b o (hs.keep b o e), fun f hf => (hs.fr f hf).keeps fun b _ o e => hk b o e, hs.nb, hs.nd, fun y k' cl' e => ?_, hs.os, hs.gens⟩⟩
  by_cases q : y = x
  · subst q
    simp only [upd_self, Option.some.injEq, Prod.mk.injEq] at e
    obtain ⟨rfl, rfl⟩ := e
    exact ⟨⟨o, ho, ok⟩, hb, hf⟩
  · simp only [upd_ne q] at e
    obtain ⟨⟨o', ho', ok'⟩, r⟩ := hs.own y k' cl' e
    exact ⟨⟨o', hk _ _ ho', ok'⟩, r⟩
theorem made_exc {s : Shared} {h' : Heap} {e : Addr} {cls : Value} {us : List Value} (hs : St c ⟨fs, σ, g⟩ s) (hk : ∀ b o, s.heap.get? b = some o → h'.get? b = some o) (hn : s.heap.get? e = none)
    (ht : ∃ t, h'.get? e = some { cls := cls, data := .fields #[.ref t, .none, .none, .none, .bool false, .none] } ∧ s.heap.get? t = none ∧ h'.get? t = some { cls := .type "tuple", data := .seq us.toArray }) :
    ∃ t σ', σ e = none ∧ Ext [] σ σ' ∧ Exc σ' e t cls (us.map er) none ∧ St c ⟨fs, σ', g⟩ { s with heap := h' } := by
  obtain ⟨t, h1, h2, h3⟩ := ht
  obtain ⟨e1, S1⟩ := hs.adopt (cl := excCell cls t none) 8 hk hn h1 ⟨rfl, rfl, _, rfl, rfl, rfl, rfl⟩
  have hte : t ≠ e := fun q => by rw [q, h1] at h3; cases h3
  have t1 : σ t = none := (hs.adopt (cl := .tuple (us.map er)) 0 hk h2 h3 ⟨_, _, rfl, by simp⟩).1
  have S2 : St c ⟨fs, upd (upd σ e (some (8, excCell cls t none))) t (some (0, .tuple (us.map er))), g⟩ { s with heap := h' } := by
    have S0 := (hs.adopt (cl := .tuple (us.map er)) 0 hk h2 h3 ⟨_, _, rfl, by simp⟩).2
    refine ⟨S1.keep, S1.fr, S1.nb, S1.nd, fun y k' cl' q => ?_, S1.os, S1.gens⟩
    by_cases z : y = t
    · subst z
      exact S0.own y k' cl' (by simpa using q)
    · exact S1.own y k' cl' (by simp only [upd_ne z] at q; exact q)
  refine ⟨t, _, e1, fun y k' cl' q1 _ => ?_, ⟨?_, by simp, fun T q => by cases q⟩, S2⟩
  · have n1 : y ≠ t := ne_new q1 t1
    have n2 : y ≠ e := fun z => by rw [z] at q1; dsimp only at e1; rw [e1] at q1; cases q1
    exact (upd_ne n1).trans ((upd_ne n2).trans q1)
  · rw [upd_ne (Ne.symm hte)]; simp
theorem W_Raise {cls newId initId : String} (F : ExcCallFacts cls newId initId) (G : ExcRaiseFacts cls) {x : Str} {np cpos pos : Pos} {args : List Expr} {Q : Flow → AS → Prop} (hh : A.handled = none)
    (h : W c A (eval (.Name x np) env) (fun f a₁ => f = .type cls ∧ W c A (evalArgs (.type cls) true (backTo cpos (starEach args env)) []) (fun y a₂ => y.kw = [] ∧ y.pos.length ≤ 1000000 ∧
      ∀ e t σ', Ext [] a₂.σ σ' → a₂.σ e = none → Exc σ' e t (.type cls) (y.pos.map er) none → E (.ref e) ⟨a₂.fs, σ', a₂.gens⟩) E a₁) E a)
    (hplain : (backTo cpos (starEach args env)).any (·.1) = false := by with_unfolding_all rfl) : W c A (exec (.Raise (some (.Call (.Name x np) args [] cpos)) none pos) env) Q E a := by
  intro s hs
  refine wpAny_Raise_call F G hh hplain (wpAny_mono (h s hs) (fun f s₁ pz60 => pz60.elim fun a₁ pz61 => pz61.elim fun h1 pz62 => pz62.elim fun q1 q2 => ⟨q1, wpAny_mono (q2 s₁ h1) (fun y s₂ pz63 => pz63.elim fun a₂ pz64 => pz64.elim fun h2 pz65 => pz65.elim fun r1 pz66 => pz66.elim fun r2 r3 => ⟨r1, sizeLine_big r2, fun h' e hm => ?_⟩) fun _ _ x => x⟩) fun _ _ x => x)
  obtain ⟨fs₂, σ₂, g₂⟩ := a₂
  obtain ⟨t, σ', e0, x1, x2, S⟩ := made_exc h2 hm.keeps hm.new hm.there
  exact ⟨_, S, r3 e t σ' x1 e0 x2⟩
theorem W_RaiseOwn {C N : Addr} {B newId initId : String} {bm bs sub : List Value} {nm q : Str} {hdct ab : Bool} {sn : List Str} {col : Option Bool} {dd : Option Addr} {k0 k1 k2 k3 k5 : Option Value} (F : ExcBaseFacts B newId initId bm) {mN : Str → Option Value} {x : Str} {np cpos pos : Pos} {args : List Expr} {Q : Flow → AS → Prop} (hh : A.handled = none)
    (hC : c.base.get? C = some (excClassObj nm q C N bs bm hdct sn sub ab col dd k0 k1 k2 k3 k5 newId)) (hN : c.base.Ns N mN) (hni : mN "__init__" = none)
    (h : W c A (eval (.Name x np) env) (fun f a₁ => f = .ref C ∧ W c A (evalArgs (.ref C) true (backTo cpos (starEach args env)) []) (fun y a₂ => y.kw = [] ∧ y.pos.length ≤ 1000000 ∧
      ∀ e t σ', Ext [] a₂.σ σ' → a₂.σ e = none → Exc σ' e t (.ref C) (y.pos.map er) none → E (.ref e) ⟨a₂.fs, σ', a₂.gens⟩) E a₁) E a)
    (hplain : (backTo cpos (starEach args env)).any (·.1) = false := by with_unfolding_all rfl) : W c A (exec (.Raise (some (.Call (.Name x np) args [] cpos)) none pos) env) Q E a := by
  intro s hs
  refine wpAny_Raise_call_sub (C := C) (nm := nm) (q := q) (N := N) (bs := bs) (bm := bm) (hdct := hdct) (sn := sn) (sub := sub) (ab := ab) (col := col) (dd := dd) (k0 := k0) (k1 := k1) (k2 := k2) (k3 := k3) (k5 := k5) (newId := newId) F hh hplain hni (wpAny_mono (h s hs) (fun f s₁ pz67 => pz67.elim fun a₁ pz68 => pz68.elim fun h1 pz69 => pz69.elim fun q1 q2 => ⟨q1, wpAny_mono (q2 s₁ h1) (fun y s₂ pz70 => pz70.elim fun a₂ pz71 => pz71.elim fun h2 pz72 => pz72.elim fun r1 pz73 => pz73.elim fun r2 r3 => ⟨r1, sizeLine_big r2, h2.keep _ _ hC, hN.keeps h2.keep, fun h' e hm => ?_⟩) fun _ _ x => x⟩) fun _ _ x => x)
  obtain ⟨fs₂, σ₂, g₂⟩ := a₂
  obtain ⟨t, σ', e0, x1, x2, S⟩ := made_exc h2 hm.keeps hm.new hm.there
  exact ⟨_, S, r3 e t σ' x1 e0 x2⟩
theorem W_Try {body orelse : List Stmt} {h₀ : ExceptHandler} {hs : List ExceptHandler} {pos : Pos} {Q : Flow → AS → Prop}
    (h : W c A (execs body env) (fun f a₁ => match f with | .next => W c A (execs orelse env) Q E a₁ | f => Q f a₁)
      (fun e a₁ => W c A (noteFrame e env) (fun _ a₂ => W c A (setFlight e none) (fun _ a₃ => W c A (handleBy e env (h₀ :: hs)) Q E a₃) E a₂) E a₁) a) : W c A (exec (.Try body (h₀ :: hs) orelse [] pos) env) Q E a := fun s hs' =>
  wpAny_Try_except (wpAny_mono (h s hs') (fun f s₁ pz74 => pz74.elim fun a₁ pz75 => pz75.elim fun h1 q => by cases f <;> first | exact q s₁ h1 | exact ⟨a₁, h1, q⟩)
    fun e s₁ pz76 => pz76.elim fun a₁ pz77 => pz77.elim fun h1 q => wpAny_mono (q s₁ h1) (fun _ s₂ pz78 => pz78.elim fun a₂ pz79 => pz79.elim fun h2 q => wpAny_mono (q s₂ h2) (fun _ s₃ pz80 => pz80.elim fun a₃ pz81 => pz81.elim fun h3 q => q s₃ h3) fun _ _ x => x) fun _ _ x => x)
noncomputable def ExcM (c : Cx) (a : AS) (e cv : Value) (b : Bool) : Prop := ∀ s, St c a s → Looks (model c.prog c.w) s.heap (excMatches e cv) b
theorem W_handle_hit {e : Addr} {t : Expr} {b₀ : Stmt} {suite : List Stmt} {pos : Pos} {rest : List ExceptHandler} {Q : Flow → AS → Prop}
    (h : W c (A.mark (some (.ref e))) (eval t env) (fun cv a₁ => ExcM c a₁ (.ref e) cv true ∧ W c (A.mark (some (.ref e))) (setFlight (.ref e) none) (fun _ a₂ => W c (A.mark (some (.ref e))) (execs (b₀ :: suite) env) Q (fun _ _ => False) a₂) (fun _ _ => False) a₁) (fun _ _ => False) a) :
    W c A (handleBy (.ref e) env (.ExceptHandler (some t) none (b₀ :: suite) pos :: rest)) Q E a := by
  intro s hs
  refine wpAny_handleBy_cons (codeAny_handlers_test (wpAny_mono (h s hs) (fun cv s₁ pz82 => pz82.elim fun a₁ pz83 => pz83.elim fun h1 pz84 => pz84.elim fun q1 q2 => (q1 s₁ h1).here ?_) fun _ _ pz85 => pz85.elim fun _ pz86 => pz86.elim fun _ x => x.elim)) (by intro q; cases q)
  exact codeAny_handlers_suite (wpAny_mono (q2 s₁ h1) (fun _ s₂ pz87 => pz87.elim fun a₂ pz88 => pz88.elim fun h2 q => wpAny_mono (q s₂ h2) (fun f s₃ x => x) fun _ _ pz89 => pz89.elim fun _ pz90 => pz90.elim fun _ x => x.elim) fun _ _ pz91 => pz91.elim fun _ pz92 => pz92.elim fun _ x => x.elim)
theorem W_handle_miss {e : Addr} {t : Expr} {name : Option Str} {suite : List Stmt} {pos : Pos} {rest : List ExceptHandler} {Q : Flow → AS → Prop}
    (h : W c (A.mark (some (.ref e))) (eval t env) (fun cv a₁ => ExcM c a₁ (.ref e) cv false ∧ W c A (handleBy (.ref e) env rest) Q E a₁) (fun _ _ => False) a) :
    W c A (handleBy (.ref e) env (.ExceptHandler (some t) name suite pos :: rest)) Q E a := by
  intro s hs
  refine wpAny_handleBy_cons (codeAny_handlers_test (wpAny_mono (h s hs) (fun cv s₁ pz93 => pz93.elim fun a₁ pz94 => pz94.elim fun h1 pz95 => pz95.elim fun q1 q2 => (q1 s₁ h1).here ?_) fun _ _ pz96 => pz96.elim fun _ pz97 => pz97.elim fun _ x => x.elim)) (by intro q; cases q)
  exact q2 s₁ h1
end
end Mine.Internal
namespace Mine.Internal
open PySem PySem.W PyProof.Rows PySem.Calls PySem.F
section
variable {c : Cx} {A : Around} {E : Value → AS → Prop} {a : AS} {env : Env} {fs : List Frm} {σ : Addr → Option (Nat × Cell)} {g : Array GenState} {k : Nat} {outer : List Env}
theorem W_make {C fI : Addr} {args : List Value} {Q : Value → AS → Prop} (k : Nat) (hm : makesIn c.K C = true) (hi : findIn c.K (.ref C) "__init__" = some (some (.ref fI))) (hf : typeIn c.K (.ref fI) = some (.type "function"))
    (h : ∀ x dx, σ x = none → σ dx = none → x ≠ dx → ∀ σ', σ' = upd (upd σ dx (some (k, .attrs []))) x (some (k, .inst C dx [])) →
      Wk c (A.under (.builtin "type.__call__" ⟨.ref C :: args, []⟩)) (.call (.ref fI) ⟨.ref x :: args, []⟩) (fun r a' => match r with | .ok (.ret v) => v = .none ∧ Q (.ref x) a' | .ok _ => False | .error e => E e a') ⟨fs, σ', g⟩) :
    W c A (call (.ref C) args) Q E ⟨fs, σ, g⟩ := by
  refine W_call (fun s hs => ?_)
  have X : c.K.In s.heap := c.inK.keeps hs.keep
  obtain ⟨hh, gg, d, t, os⟩ := s
  have S1 := hs.alloc (k := k) (cl := .attrs []) (o := emptyDict) ⟨[], 0, rfl, .nil⟩ rfl
  have S2 := S1.alloc (k := k) (cl := .inst C hh.objs.size []) (o := instObj C hh.objs.size) ⟨rfl, rfl, rfl, rfl⟩ rfl
  have f1 := hs.fresh.1
  have f2 := S1.fresh.1
  dsimp only at S1 S2 f1 f2
  rw [Heap.size_push] at S2 f2
  have ne : hh.objs.size + 1 ≠ hh.objs.size := by lia
  rw [upd_ne ne] at f2
  refine make_core (makes_of X hm) (looks_findIn X hi) (fun self => bind_fn X self hf) (.inl rfl) (codeAny_mono (h _ _ f2 f1 ne _ rfl _ S2) fun r s' pq => ?_)
  obtain ⟨a', h1, q⟩ := pq
  rcases r with e | (_ | _ | _ | v)
  · exact ⟨a', h1, q⟩
  · exact q.elim
  · exact q.elim
  · exact q.elim
  · exact ⟨q.1, a', h1, q.2⟩
theorem W_len_tuple {l : Addr} {vs : List AV} {Q : Value → AS → Prop} (hl : a.σ l = some (k, .tuple vs)) (hz : vs.length ≤ 1000000) (h : ∀ t, Q (.int vs.length t) a) : W c A (call (.builtin "len") [.ref l]) Q E a := fun s hs => by
  obtain ⟨us, n, ho, e⟩ := own_tuple hs hl
  have hsz := size_of e
  refine PySem.P.len_tuple (n := n) ho (by rw [hsz]; lia) ⟨a, hs.of_eq, ?_⟩
  rw [hsz]; exact h _
theorem W_tuple_list {l : Addr} {vs : List AV} {Q : Value → AS → Prop} (k' : Nat) (hl : σ l = some (k, .list vs)) (hz : vs.length ≤ 1000000)
    (h : ∀ t, σ t = none → ∀ σ', σ' = upd σ t (some (k', .tuple vs)) → Q (.ref t) ⟨fs, σ', g⟩) : W c A (call (.type "tuple") [.ref l]) Q E ⟨fs, σ, g⟩ := fun s hs => by
  obtain ⟨us, n, ho, e⟩ := own_list hs hl
  refine call_tuple_list (isList_of ho) (fun h' kk => ?_) (by rw [size_of e]; exact sizeLine_big hz)
  have S1 := hs.grow kk
  exact ⟨_, S1.alloc (k := k') (cl := .tuple vs) ⟨us, 0, rfl, e⟩ rfl, h _ S1.fresh.1 _ rfl⟩
theorem W_list_seq {l : Addr} {vs : List AV} {Q : Value → AS → Prop} (k' : Nat) (hl : Starry c ⟨fs, σ, g⟩ l vs) (hz : vs.length ≤ 1000000)
    (h : ∀ t, σ t = none → ∀ σ', σ' = upd σ t (some (k', .list vs)) → Q (.ref t) ⟨fs, σ', g⟩) : W c A (call (.type "list") [.ref l]) Q E ⟨fs, σ, g⟩ := fun s hs => by
  obtain ⟨T, us, n, o, hT, ho, hc, hd, e⟩ := starry_obj hs hl
  refine call_list_seq l hT ho hc hd (fun h' c' kk hn => ?_) (by rw [size_of e]; exact sizeLine_big hz)
  have hnone : s.heap.get? s.heap.objs.size = none := by
    cases q : s.heap.get? s.heap.objs.size with
    | none => rfl
    | some o => exact absurd (Heap.lt_size q) (Nat.lt_irrefl _)
  obtain ⟨e0, S⟩ := hs.adopt (cl := .list vs) k' kk hnone hn ⟨us, c', rfl, e⟩
  exact ⟨_, S, h _ e0 _ rfl⟩
theorem W_assign_Name {x : Str} {p : Pos} {u : Value} {Q : Unit → AS → Prop} (h : W c A (storeName env x u) Q E a) : W c A (assign (.Name x p) env u) Q E a := by
  show W c A (standAt p >>= _) Q E a
  exact W_bind (W_standAt fun s hs => wpAny_bindName (h s hs))
theorem W_assign_Sub {o i : Expr} {p : Pos} {u : Value} {Q : Unit → AS → Prop} (h : W c A (eval o env) (fun ov a₁ => W c A (eval i env) (fun iv a₂ => W c A (setItem ov iv u) Q E a₂) E a₁) E a) : W c A (assign (.Subscript o i p) env u) Q E a := by
  show W c A (holding [u] (eval o env) >>= _) Q E a
  refine W_bind (W_holding (W_mono h (fun ov a₁ q => W_bind (W_holding (W_mono q (fun iv a₂ q => W_bind (W_standAt (W_bind (W_holding (W_mono q (fun _ a₃ q => ?_) fun _ _ x => x))))) fun _ _ x => x))) fun _ _ x => x))
  intro s hs Γ p' hΓ
  rw [Sem.wp_release]
  exact ⟨a₃, hs, q⟩
theorem W_Assign_Sub {o i : Expr} {p : Pos} {value : Expr} {pos : Pos} {Q : Flow → AS → Prop}
    (h : W c A (eval value env) (fun v a₀ => W c A (eval o env) (fun ov a₁ => W c A (eval i env) (fun iv a₂ => W c A (setItem ov iv v) (fun _ => Q .next) E a₂) E a₁) E a₀) E a)
    (hs : exec (.Assign [.Subscript o i p] value pos) env = (do standAt pos; let v ← eval value env; assign (.Subscript o i p) env v; pure .next) := by with_unfolding_all rfl) : W c A (exec (.Assign [.Subscript o i p] value pos) env) Q E a := by
  rw [hs]
  exact W_bind (W_standAt (W_bind (W_mono h (fun v a₁ q => W_bind (W_mono (W_assign_Sub q) (fun _ _ x => W_pure x) fun _ _ x => x)) fun _ _ x => x)))
theorem W_Assign_two {t₁ t₂ value : Expr} {pos : Pos} {Q : Flow → AS → Prop}
    (h : W c A (eval value env) (fun v a₁ => W c A (assign t₁ env v) (fun _ a₂ => W c A (assign t₂ env v) (fun _ => Q .next) E a₂) E a₁) E a)
    (he : (assignEach [t₁, t₂] env).map (·.2) = [assign t₁ env, assign t₂ env] := by with_unfolding_all rfl) (hw : swappedStores [t₁, t₂] value env = pure none := by with_unfolding_all rfl) : W c A (exec (.Assign [t₁, t₂] value pos) env) Q E a := fun s hs =>
  wpAny_Assign_two (wpAny_mono (h s hs) (fun v s₁ pz98 => pz98.elim fun a₁ pz99 => pz99.elim fun h1 q => wpAny_mono (q s₁ h1) (fun _ s₂ pz0 => pz0.elim fun a₂ pz1 => pz1.elim fun h2 q => q s₂ h2) fun _ _ x => x) fun _ _ x => x) he hw
end
end Mine.Internal
namespace Mine.Internal
open PySem PySem.W PyProof.Rows PySem.Calls PySem.F
section
variable {c : Cx} {A : Around} {E : Value → AS → Prop} {fs : List Frm} {σ : Addr → Option (Nat × Cell)} {g : Array GenState} {d : Nat}
theorem push_frame {s : Shared} {h₀ : Heap} {ps rs : List Str} {args : List Value} {us : List AV} {vs : List (Option AV)} {tk : Nat} (hs : St c ⟨fs, σ, g⟩ s) (hns : h₀.Ns s.heap.objs.size (fun x => (ps.zip args).reverse.lookup x)) (hk₀ : ∀ b o, s.heap.get? b = some o → h₀.get? b = some o)
    (hu : args.map er = us) (hi : Init ps us rs vs) (hnd : (ps ++ rs).Nodup) : St c ⟨⟨s.heap.objs.size, [], ps ++ rs, vs⟩ :: fs, σ, g⟩ { s with heap := h₀, toks := tk } := by
  obtain ⟨f1, f2, f3⟩ := hs.fresh
  refine ⟨fun b o e => hk₀ b o (hs.keep b o e), fun f' hf => ?_, fun f' hf => ?_, ?_, fun x k cl e => ?_, hs.os, hs.gens⟩
  · rcases List.mem_cons.mp hf with rfl | hf
    · refine ⟨_, hns, fun x _ => ?_, fun p hp => by cases hp⟩
      dsimp only
      rw [lookup_reverse (zip_nodup (List.nodup_append.mp hnd).1)]
      exact hi.gv args hu x
    · exact (hs.fr f' hf).keeps fun b _ o e => hk₀ b o e
  · rcases List.mem_cons.mp hf with rfl | hf
    · intro x hx
      simp only [Frm.as, List.map_nil, List.mem_singleton] at hx
      rw [hx]; exact f3
    · exact hs.nb f' hf
  · rw [List.flatMap_cons]
    refine List.nodup_append.mpr ⟨by simp [Frm.as], hs.nd, fun x hx y hy e => ?_⟩
    simp only [Frm.as, List.map_nil, List.mem_singleton] at hx
    exact f2 (by rw [← hx, e]; exact hy)
  · obtain ⟨⟨o', ho', ok⟩, r1, r2⟩ := hs.own x k cl e
    refine ⟨⟨o', hk₀ _ _ ho', ok⟩, r1, fun q => ?_⟩
    rw [List.flatMap_cons] at q
    rcases List.mem_append.mp q with q | q
    · simp only [Frm.as, List.map_nil, List.mem_singleton] at q
      rw [q] at e; dsimp only at e f1; rw [f1] at e; cases e
    · exact r2 q
theorem Wk_call_KS {K : Frag} {f : Addr} {ps rs ns : List Str} {gs : List (Str × Value)} {pre rest : List Value} {us : List AV} {vs : Addr → List (Option AV)} {R : Result → AS → Prop}
    (hK : c.K = K) (hf : FnOk K f ps rs (gs.map (·.1))) (hns : ns = ps ++ rs) (hbind : bindArgs (fdOf K f) ⟨pre ++ rest, []⟩ = (do let t ← newTuple rest; pure (ps.zip (pre ++ [t])))) (hu : pre.map er = us)
    (hi : ∀ t, Init ps (us ++ [.ref t]) rs (vs t)) (hglob : ∀ p ∈ gs, Glob c p.1 p.2) (hA : AOk A fs (d + 1)) (hz : rest.length ≤ 1000000)
    (h : ∀ L env t σ', env = callEnv (fdOf K f) L f → σ t = none → σ' = upd σ t (some (0, .tuple (rest.map er))) → σ' L = none → AOk (A.deeper env) (⟨L, [], ns, vs t⟩ :: fs) d → EnvOk c env L [] ns gs →
      W c (A.deeper env) (execs (bodyOf (fdOf K f)) env) (fun fl a' => Pop fs (R (.ok (.ret (retOf fl)))) a')
        (fun e a' => W c (A.deeper env) (leaving env e) (fun _ a'' => Pop fs (R (.error e)) a'') (fun _ _ => False) a') ⟨⟨L, [], ns, vs t⟩ :: fs, σ', g⟩) :
    Wk c A (.call (.ref f) ⟨pre ++ rest, []⟩) R ⟨fs, σ, g⟩ := by
  subst hK hns
  obtain ⟨o, ho, hd⟩ := fdOf_ex hf.fn
  have hnm := hf.names
  rw [List.map_map] at hnm
  have hnd := nodup_of_codes hf.nd
  have hnd2 := (List.nodup_cons.mp hnd).2
  intro s hs
  have X : c.K.In s.heap := c.inK.keeps hs.keep
  refine codeAny_call_function hA.room (X _ _ ho) hd hf.co hf.gen hf.body (codeRec_of X hf.code) ?_
  rw [hbind]
  refine wpAny_bind (wpAny_newObj_type ?_ (by show rest.toArray.size ≤ sizeLine; rw [List.size_toArray]; exact sizeLine_big hz))
  have S1 := hs.alloc (k := 0) (cl := .tuple (rest.map er)) (o := { cls := .type "tuple", data := .seq rest.toArray }) ⟨_, _, rfl, by simp⟩ rfl
  have f1 := hs.fresh.1
  have hkeys : ((fdOf c.K f).scope.names.map (·.1)).Nodup := by
    rw [hnm, List.map_append, List.map_map, List.map_map]
    simpa [Function.comp_def] using hnd2
  have hloc : ∀ x ∈ ps, (fdOf c.K f).scope.names.lookup x = some .local := fun x hx => lookup_nodup hkeys (p := (x, .local)) (by rw [hnm]; exact List.mem_append_left _ (List.mem_map.mpr ⟨x, List.mem_append_left _ hx, rfl⟩))
  have hcell : ∀ x ∈ (fdOf c.K f).scope.names, x.2 ≠ .cell := fun x hx => by
    rw [hnm] at hx
    rcases List.mem_append.mp hx with hx | hx
    · obtain ⟨y, _, rfl⟩ := List.mem_map.mp hx; intro q; cases q
    · obtain ⟨y, _, rfl⟩ := List.mem_map.mp hx; intro q; cases q
  refine wpAny_pure (wpAny_newFunctionEnv hcell (fun x hx => hloc _ (List.of_mem_zip hx).1) (fun h₀ hns₀ hsb₀ => ⟨(c.nolim.keeps S1.keep).fresh _ hsb₀, ?_⟩) hf.kind)
  have hk₀ : ∀ b o, (s.heap.push { cls := .type "tuple", data := .seq rest.toArray }).get? b = some o → h₀.get? b = some o := fun b o e => hsb₀.extBut b o (Nat.ne_of_lt (Heap.lt_size e)) (Heap.get?_push_of_some _ e)
  refine codeAny_func ?_
  have S2 := push_frame (tk := s.toks + (ps.zip (pre ++ [Value.ref s.heap.objs.size])).length) S1 hns₀ hk₀ (us := us ++ [.ref s.heap.objs.size]) (by rw [List.map_append, hu]; rfl) (hi _) (List.nodup_append.mp hnd2).1
  refine wpAny_mono (h _ _ _ _ rfl f1 rfl S1.fresh.1 (hA.deeper hf.kind rfl) (mkEnv hnm hf.kind hf.gl hf.bl hf.nd hglob) _ S2) (fun fl s' pq => ?_) (fun e s' pz2 => pz2.elim fun a' pz3 => pz3.elim fun h1 q => ?_)
  obtain ⟨a', h1, f', e1, q⟩ := pq
  · obtain ⟨fs', σ', g'⟩ := a'
    dsimp only at e1 q; subst e1
    exact ⟨_, h1.pop, by cases fl <;> exact q⟩
  · refine wpAny_mono (q s' h1) (fun _ s'' pq => ?_) fun _ _ pz4 => pz4.elim fun _ pz5 => pz5.elim fun _ x => x.elim
    obtain ⟨a'', h2, f', e1, q⟩ := pq
    obtain ⟨fs', σ', g'⟩ := a''
    dsimp only at e1 q; subst e1
    exact ⟨_, h2.pop, q⟩
end
end Mine.Internal
set_option maxRecDepth 100000
namespace Mine.Internal
open PySem PySem.W PyProof.Rows PySem.Calls PySem.F
theorem slot_li_ga : Slot "list_iterator" "__getattribute__" "object.__getattribute__" := .of (owner := "object") (n := "__getattribute__") (by rw [typeLookup_type, builtinLookup_eq_fast]; kernel_rfl) (by decide +kernel) (by decide +kernel) (by decide +kernel)
    (by first | exact .inl (by decide +kernel) | exact .inr (by decide +kernel)) (by rw [isSubtype_type]; kernel_rfl)
theorem typeOf_lin : typeOf (.builtin "list_iterator.__next__") = pure (.type "wrapper_descriptor") := by kernel_rfl
theorem wd_get : Slot "wrapper_descriptor" "__get__" "wrapper_descriptor.__get__" := .of (owner := "wrapper_descriptor") (n := "__get__") (by rw [typeLookup_type, builtinLookup_eq_fast]; kernel_rfl) (by decide +kernel) (by decide +kernel) (by decide +kernel)
    (by first | exact .inl (by decide +kernel) | exact .inr (by decide +kernel)) (by rw [isSubtype_type]; kernel_rfl)
theorem wd_set : typeLookup (.type "wrapper_descriptor") "__set__" = pure none := by rw [typeLookup_type, builtinLookup_eq_fast]; kernel_rfl
theorem wd_del : typeLookup (.type "wrapper_descriptor") "__delete__" = pure none := by rw [typeLookup_type, builtinLookup_eq_fast]; kernel_rfl
theorem entry_wd_get : entryFor table "wrapper_descriptor.__get__" = some Builtin.«wrapper_descriptor.__get__» := entryFor_of_tree (by kernel_rfl)
theorem args_wd_get (a b c : Value) : argsOk "wrapper_descriptor.__get__" ⟨[a, b, c], []⟩ := by unfold argsOk; kernel_rfl
theorem entry_obj_ga : entryFor table "object.__getattribute__" = some Builtin.«object.__getattribute__» := entryFor_of_tree (by kernel_rfl)
theorem args_obj_ga (a b : Value) : argsOk "object.__getattribute__" ⟨[a, b], []⟩ := by unfold argsOk; kernel_rfl
theorem owner_lin : (".".intercalate ("list_iterator.__next__".cutAt '.').dropLast) = "list_iterator" := by
  have e0 : "list_iterator.__next__".cutAt '.' = ["list_iterator", "__next__"] := by first | rfl | decide +kernel
  rw [e0]; decide +kernel
theorem sub_li : isSubtype (.type "list_iterator") (.type "list_iterator") = pure true := by rw [isSubtype_type]; kernel_rfl
noncomputable abbrev wrapObj (it : Addr) : Obj := { cls := .type "method-wrapper", data := .fields #[.builtin "list_iterator.__next__", .ref it] }
section
variable {prog : Program} {w : World} {A : Around} {E : Value → Shared → Prop} {h : Heap} {g : Array GenState} {d : Drawn} {t : Nat} {os : OsState} {a : Addr} {o : Obj}
theorem li_get {R : Result → Shared → Prop} {vs : Array Value} {sl : Array (Option Value)} (hx : h.get? a = some ⟨.type "list_iterator", none, .fields vs, sl⟩) (hq : R (.ok (.ret (.ref h.objs.size))) ⟨h.push (wrapObj a), g, d, t, os⟩) :
    codeAny (model prog w) A (.call (.builtin "wrapper_descriptor.__get__") ⟨[.builtin "list_iterator.__next__", .ref a, .type "list_iterator"], []⟩) R ⟨h, g, d, t, os⟩ := by
  have hT : (⟨h, g, d, t, os⟩ : Shared).TypeIs (.ref a) "list_iterator" := ⟨_, hx, rfl⟩
  have hT5 : (⟨h, g, d, t, os⟩ : Shared).TypeIs (.builtin "list_iterator.__next__") "wrapper_descriptor" := typeOf_lin
  have f8 : isSubtype (.type "list_iterator") (.type (".".intercalate ("list_iterator.__next__".cutAt '.').dropLast)) = pure true := by rw [owner_lin]; exact sub_li
  refine codeAny_call_builtin wd_get.plain entry_wd_get (wd_get.check _ _ _ _ _ _ _ _ hT5 (args_wd_get _ _ _) ?_)
  repeat (any_goals (first | assumption | wp_step))
theorem li_entry {tk : Tok} {Q : PySem.Fin → Shared → Prop} {vs : Array Value} {sl : Array (Option Value)} (hx : h.get? a = some ⟨.type "list_iterator", none, .fields vs, sl⟩) (hq : Q (.done (.ret (.ref h.objs.size))) ⟨h.push (wrapObj a), g, d, t, os⟩) :
    wpAny (model prog w) A (Builtin.«object.__getattribute__» ⟨[.ref a, .str "__next__" tk], []⟩) Q E ⟨h, g, d, t, os⟩ := by
  have hT : (⟨h, g, d, t, os⟩ : Shared).TypeIs (.ref a) "list_iterator" := ⟨_, hx, rfl⟩
  have f4 := slot_listiter_next.lookup
  have f5 := typeOf_lin
  have f6 := wd_get.lookup
  have f7 := wd_set
  have f8 := wd_del
  repeat (any_goals (first | assumption | wp_step))
  refine li_get hx ?_
  repeat (any_goals (first | assumption | wp_step))
theorem li_attr {expr : Bool} {Q : Value → Shared → Prop} {vs : Array Value} {sl : Array (Option Value)} (hx : h.get? a = some ⟨.type "list_iterator", none, .fields vs, sl⟩) (hq : Q (.ref h.objs.size) ⟨h.push (wrapObj a), g, d, t + 1, os⟩) :
    wpAny (model prog w) A (getAttr (.ref a) "__next__" expr) Q E ⟨h, g, d, t, os⟩ := by
  have hT : (⟨h, g, d, t + 1, os⟩ : Shared).TypeIs (.ref a) "list_iterator" := ⟨_, hx, rfl⟩
  have f2 := slot_li_ga.lookup
  have f3 := slot_li_ga.bind (.ref a)
  have hx0 : (expr && onTheHeap (Value.builtin "object.__getattribute__")) = false := by cases expr <;> rfl
  unfold getAttr getAttrBy
  repeat (any_goals (first | assumption | wp_step))
  refine codeAny_call_builtin slot_li_ga.plain entry_obj_ga (slot_li_ga.check _ _ _ _ _ _ _ _ hT (args_obj_ga _ _) (li_entry hx ?_))
  repeat (any_goals (first | assumption | wp_step))
theorem lin_bound (it : Addr) : checkBoundCall "list_iterator.__next__" ⟨[.ref it], []⟩ = pure () := by kernel_rfl
theorem wrap_call {R : Result → Shared → Prop} {m it : Addr} (hm : h.get? m = some (wrapObj it)) (hq : codeAny (model prog w) A (.builtin "list_iterator.__next__" ⟨[.ref it], []⟩) R ⟨h, g, d, t, os⟩) :
    codeAny (model prog w) A (.call (.ref m) ⟨[], []⟩) R ⟨h, g, d, t, os⟩ := by
  refine codeAny_of_tree ?_
  show wpAny _ _ (callAny (.ref m) _) _ _ _
  unfold callAny
  refine wpAny_bind (wpAny_load hm ?_)
  dsimp only
  rw [if_pos (by decide)]
  show wpAny _ _ (checkBoundCall "list_iterator.__next__" ⟨[.ref it], []⟩ >>= _) _ _ _
  rw [lin_bound]
  exact wpAny_bind (wpAny_pure (wpAny_bind (wpAny_pure (wpAny_pure ⟨Code.quiet_builtin _ (by decide +kernel), hq⟩))))
theorem lin_item {R : Result → Shared → Prop} {s : Shared} {it l : Addr} {i : Nat} {items : Array Value} {x : Value} (hit : s.heap.IsListIter it l i) (hl : s.heap.IsList l items) (hx : items[i]? = some x)
    (hQ : ∀ h', h'.IsListIter it l (i + 1) → Heap.SameBut it s.heap h' → R (.ok (.ret x)) { s with heap := h' }) : codeAny (model prog w) A (.builtin "list_iterator.__next__" ⟨[.ref it], []⟩) R s := by
  obtain ⟨o, ho, hc, hd⟩ := id hit
  obtain ⟨ol, hol, _, nl, hdl⟩ := hl
  refine codeAny_builtin entry_listiter_next ?_
  show wpAny _ _ (field (.ref it) 0 >>= _) _ _ s
  refine wpAny_bind (wpAny_field ho hd (x := .ref l) rfl ?_)
  show wpAny _ _ (if (Value.ref l == Value.none) = true then _ else _) _ _ s
  rw [if_neg (show ¬ ((Value.ref l == Value.none) = true) from Bool.false_ne_true)]
  show wpAny _ _ (field (.ref it) 1 >>= _) _ _ s
  refine wpAny_bind (wpAny_field ho hd (x := .int i 0) rfl ?_)
  show wpAny _ _ (seqItems? (.ref l) >>= _) _ _ s
  refine wpAny_bind (wpAny_seqItems hol hdl ?_)
  simp only [Int.toNat_natCast, hx]
  refine wpAny_bind (wpAny_setField ho hd (by first | decide | simp) (wpAny_pure (hQ _ ?_ (Heap.SameBut.update ..))))
  exact ⟨_, Heap.get?_update_self _ ho (Obj.isFreed_of_fields (Obj.data_mapFields hd _)), (Obj.cls_mapFields ..).trans hc, by
    rw [Obj.data_mapFields hd]; simp [rawInt]⟩
theorem lin_end {R : Result → Shared → Prop} {s : Shared} {it l : Addr} {i : Nat} {items : Array Value} (hh : A.handled = none) (hit : s.heap.IsListIter it l i) (hl : s.heap.IsList l items) (hx : items[i]? = none)
    (hQ : ∀ h' e, (∀ b o, b ≠ it → s.heap.get? b = some o → h'.get? b = some o) → s.heap.get? e = none → (∃ t, h'.get? e = some { cls := .type "StopIteration", data := .fields #[.ref t, .none, .none, .none, .bool false, .none] } ∧ s.heap.get? t = none ∧ h'.get? t = some { cls := .type "tuple", data := .seq #[] }) →
      R (.error (.ref e)) { s with heap := h' }) : codeAny (model prog w) A (.builtin "list_iterator.__next__" ⟨[.ref it], []⟩) R s := by
  obtain ⟨o, ho, hc, hd⟩ := id hit
  obtain ⟨ol, hol, _, nl, hdl⟩ := hl
  refine codeAny_builtin entry_listiter_next ?_
  show wpAny _ _ (field (.ref it) 0 >>= _) _ _ s
  refine wpAny_bind (wpAny_field ho hd (x := .ref l) rfl ?_)
  show wpAny _ _ (if (Value.ref l == Value.none) = true then _ else _) _ _ s
  rw [if_neg (show ¬ ((Value.ref l == Value.none) = true) from Bool.false_ne_true)]
  show wpAny _ _ (field (.ref it) 1 >>= _) _ _ s
  refine wpAny_bind (wpAny_field ho hd (x := .int i 0) rfl ?_)
  show wpAny _ _ (seqItems? (.ref l) >>= _) _ _ s
  refine wpAny_bind (wpAny_seqItems hol hdl ?_)
  simp only [Int.toNat_natCast, hx]
  refine wpAny_bind (wpAny_rule (wpAny_bind (wpAny_setField ho hd (by first | decide | simp) ?_)))
  show wpAny _ _ (newExc (.type "StopIteration") [] >>= _) _ _ _
  refine wpAny_bind ?_
  simp only [newExc, newTuple]
  refine wpAny_bind (wpAny_newObj_type ?_ (by size_fits))
  refine wpAny_bind (m := firstArgMember _ _) (wpAny_of_eq (a := Value.none) (by first | rfl | (simp only [firstArgMember]; rfl)) ?_)
  refine wpAny_newObj_type ?_ (by size_fits)
  refine wpAny_bind (wpAny_handled ?_)
  have hA' : (A.under (Code.builtin "list_iterator.__next__" ⟨[.ref it], []⟩)).handled = none := hh
  rw [hA']
  refine wpAny_bind (wpAny_pure (wpAny_throw ?_))
  have hne : s.heap.get? s.heap.objs.size = none := by
    cases q : s.heap.get? s.heap.objs.size with
    | none => rfl
    | some o => exact absurd (Heap.lt_size q) (Nat.lt_irrefl _)
  have hne1 : s.heap.get? (s.heap.objs.size + 1) = none := by
    cases q : s.heap.get? (s.heap.objs.size + 1) with
    | none => rfl
    | some o => exact absurd (Heap.lt_size q) (Nat.not_lt.mpr (Nat.le_succ _))
  have hsz : (s.heap.update it (Obj.mapFields fun x => x.setIfInBounds 0 Value.none)).objs.size = s.heap.objs.size := (Heap.SameBut.update s.heap it _).1
  refine hQ _ _ (fun b o q z => Heap.get?_push_of_some _ (Heap.get?_push_of_some _ (((Heap.SameBut.update s.heap it _).2 b q).trans z))) ?_ ⟨_, Heap.get?_push_size _ rfl, ?_, Heap.get?_push_of_some _ (Heap.get?_push_size _ rfl)⟩
  · rw [Heap.size_push, hsz]; exact hne1
  · rw [hsz]; exact hne
end
section
variable {c : Cx} {A : Around} {E : Value → AS → Prop} {a : AS} {env : Env} {fs : List Frm} {σ : Addr → Option (Nat × Cell)} {g : Array GenState} {k : Nat}
theorem St.freshOf {s : Shared} {x : Addr} (hs : St c a s) (hn : s.heap.get? x = none) : a.σ x = none ∧ c.base.get? x = none ∧ x ∉ a.fs.flatMap Frm.as := by
  refine ⟨?_, ?_, fun hm => ?_⟩
  · cases e : a.σ x with
    | none => rfl
    | some p => obtain ⟨⟨o, ho, _⟩, _⟩ := hs.own x p.1 p.2 e; rw [hn] at ho; cases ho
  · cases e : c.base.get? x with
    | none => rfl
    | some p => have := hs.keep _ _ e; rw [hn] at this; cases this
  · obtain ⟨f, hf, hx⟩ := List.mem_flatMap.mp hm
    obtain ⟨m, ⟨o, _, _, ho, _⟩, _, h3⟩ := hs.fr f hf
    simp only [Frm.as, List.mem_cons, List.mem_map] at hx
    rcases hx with e | ⟨p, hp, e⟩
    · rw [← e, hn] at ho; cases ho
    · obtain ⟨ov, ⟨oc, hc, _⟩, _⟩ := h3 p hp
      rw [e, hn] at hc; cases hc
theorem St.take {s : Shared} {x : Addr} {cl : Cell} {o : Obj} (k : Nat) (hs : St c a s) (hb : c.base.get? x = none) (hf : x ∉ a.fs.flatMap Frm.as) (ho : s.heap.get? x = some o) (ok : cl.ok c o) : St c { a with σ := upd a.σ x (some (k, cl)) } s := by
  refine ⟨hs.keep, hs.fr, hs.nb, hs.nd, fun y k' cl' e => ?_, hs.os, hs.gens⟩
  by_cases q : y = x
  · subst q
    simp only [upd_self, Option.some.injEq, Prod.mk.injEq] at e
    obtain ⟨rfl, rfl⟩ := e
    exact ⟨⟨o, ho, ok⟩, hb, hf⟩
  · simp only [upd_ne q] at e
    exact hs.own y k' cl' e
theorem St.weaken {s : Shared} {x : Addr} {cl cl' : Cell} {k k' : Nat} (hs : St c ⟨fs, σ, g⟩ s) (hx : σ x = some (k, cl)) (hw : ∀ o, cl.ok c o → cl'.ok c o) : St c ⟨fs, upd σ x (some (k', cl')), g⟩ s := by
  obtain ⟨⟨o, ho, ok⟩, hb, hf⟩ := hs.own x k cl hx
  exact hs.take k' hb hf ho (hw o ok)
noncomputable def wrapCell (it : Addr) : Cell := .raw fun o => o = wrapObj it
theorem W_next_attr {it l : Addr} {i k' : Nat} {expr : Bool} {Q : Value → AS → Prop} (kw : Nat) (hit : σ it = some (k', .raw fun o => o = ⟨.type "list_iterator", none, .fields #[.ref l, .int i 0], #[]⟩))
    (h : ∀ m, σ m = none → m ≠ it → ∀ σ', σ' = upd (upd σ it (some (k', iterCell "list_iterator" l i))) m (some (kw, wrapCell it)) → Q (.ref m) ⟨fs, σ', g⟩) : W c A (getAttr (.ref it) "__next__" expr) Q E ⟨fs, σ, g⟩ := by
  intro s hs
  obtain ⟨⟨o, ho, e⟩, _⟩ := hs.own it k' _ hit
  obtain ⟨hp, gg, d, t, os⟩ := s
  have e' : o = ⟨.type "list_iterator", none, .fields #[.ref l, .int i 0], #[]⟩ := e
  subst e'
  have S1 := hs.weaken (k' := k') (cl' := iterCell "list_iterator" l i) hit (by intro o e; have e' : o = ⟨.type "list_iterator", none, .fields #[.ref l, .int i 0], #[]⟩ := e; subst e'; exact ⟨rfl, rfl⟩)
  have ne : hp.objs.size ≠ it := fun q => by have := hs.fresh.1; dsimp only at this; rw [q, hit] at this; cases this
  refine li_attr ho ⟨_, St.of_eq (S1.alloc (k := kw) (cl := wrapCell it) (o := wrapObj it) rfl rfl), h _ hs.fresh.1 ne _ rfl⟩
theorem Kp.wrap {m it : Addr} (hm : a.σ m = some (k, wrapCell it)) : Kp c (.ref m) a := fun s hs => by
  obtain ⟨⟨o, ho, e⟩, _⟩ := hs.own m k _ hm
  have e' : o = wrapObj it := e
  subst e'
  refine ⟨.machine, fun A Q E s' kk q => ?_⟩
  unfold keeperOf
  refine wpAny_bind (wpAny_load (kk _ _ ho) ?_)
  dsimp only
  rw [if_pos (by decide), if_pos (by decide)]
  exact wpAny_pure q
theorem W_wrap_item {m it l : Addr} {i k' kl : Nat} {vs : List AV} {v : AV} {Q : Value → AS → Prop} (hm : σ m = some (k, wrapCell it)) (hit : σ it = some (k', iterCell "list_iterator" l i)) (hl : σ l = some (kl, .list vs)) (hv : vs[i]? = some v)
    (h : ∀ σ' u, σ' = upd σ it (some (k', iterCell "list_iterator" l (i + 1))) → er u = v → Q u ⟨fs, σ', g⟩) : W c A (call (.ref m) []) Q E ⟨fs, σ, g⟩ := by
  refine W_call (fun s hs => ?_)
  obtain ⟨⟨o, ho, e⟩, _⟩ := hs.own m k _ hm
  have e' : o = wrapObj it := e
  subst e'
  obtain ⟨us, n, hol, el⟩ := own_list hs hl
  obtain ⟨u, hu, eu⟩ := get_of el hv
  obtain ⟨hp, gg, d, t, os⟩ := s
  refine wrap_call ho (lin_item (listIter_of hs hit) (isList_of hol) hu fun h' hi hsb => ?_)
  obtain ⟨o', ho', hc', hd'⟩ := hi
  exact ⟨_, hs.put hit (fun b o q z => (hsb.2 b q).trans z) ho' (cl' := iterCell "list_iterator" l (i + 1)) ⟨hc', hd'⟩, h _ _ rfl eu⟩
theorem W_wrap_end {m it l : Addr} {i k' kl : Nat} {vs : List AV} {Q : Value → AS → Prop} (hh : A.handled = none) (hm : σ m = some (k, wrapCell it)) (hit : σ it = some (k', iterCell "list_iterator" l i)) (hl : σ l = some (kl, .list vs)) (hi : vs.length ≤ i)
    (h : ∀ σ' e t, (∀ y p, y ≠ it → σ y = some p → σ' y = some p) → σ e = none → Exc σ' e t (.type "StopIteration") [] none → E (.ref e) ⟨fs, σ', g⟩) : W c A (call (.ref m) []) Q E ⟨fs, σ, g⟩ := by
  refine W_call (fun s hs => ?_)
  obtain ⟨⟨o, ho, e⟩, _⟩ := hs.own m k _ hm
  have e' : o = wrapObj it := e
  subst e'
  obtain ⟨us, n, hol, el⟩ := own_list hs hl
  have hsz := size_of el
  obtain ⟨hp, gg, d, t, os⟩ := s
  have hito := listIter_of hs hit
  refine wrap_call ho (lin_end hh hito (isList_of hol) (by rw [Array.getElem?_eq_none]; lia) fun h' e kk hn ht => ?_)
  obtain ⟨t', h1, h2, h3⟩ := ht
  -- first the heap without the iterator
  have nodrop : e ≠ it := fun q => by obtain ⟨o, ho', _⟩ := hito; rw [← q] at ho'; dsimp only at hn ho'; rw [hn] at ho'; cases ho'
  have nodrop' : t' ≠ it := fun q => by obtain ⟨o, ho', _⟩ := hito; rw [← q] at ho'; dsimp only at h2 ho'; rw [h2] at ho'; cases ho'
  have S0 := hs.drop (h' := h') hit (fun b o q z => kk b o q z)
  obtain ⟨a1, a2, a3⟩ := hs.freshOf hn
  obtain ⟨b1, b2, b3⟩ := hs.freshOf h2
  have S1 := S0.take (x := t') (cl := .tuple []) 0 b2 b3 h3 ⟨#[], 0, rfl, rfl⟩
  have S2 := S1.take (x := e) (cl := excCell (.type "StopIteration") t' none) 8 a2 a3 h1 ⟨rfl, rfl, _, rfl, rfl, rfl, rfl⟩
  have hte : t' ≠ e := fun q => by rw [q, h1] at h3; simp at h3
  refine ⟨_, S2, h _ e t' (fun y p n1 q => ?_) a1 ⟨by simp, ?_, fun T q => by cases q⟩⟩
  · dsimp only at a1 b1
    have n2 : y ≠ e := ne_new q a1
    have n3 : y ≠ t' := ne_new q b1
    simp only [upd_ne n2, upd_ne n3, upd_ne n1]; exact q
  · simp only [upd_ne hte, upd_self]
theorem W_iter_call {l : Addr} {vs : List AV} {Q : Value → AS → Prop} (k' : Nat) (hl : σ l = some (k, .list vs)) (h : ∀ it, σ it = none → ∀ σ', σ' = upd σ it (some (k', .raw fun o => o = ⟨.type "list_iterator", none, .fields #[.ref l, .int 0 0], #[]⟩)) → Q (.ref it) ⟨fs, σ', g⟩) :
    W c A (call (.builtin "iter") [.ref l]) Q E ⟨fs, σ, g⟩ := fun s hs => by
  obtain ⟨us, n, ho, e⟩ := own_list hs hl
  refine call_function_entry (by decide +kernel) (by decide +kernel) kdk_entry_iter (kdk_args_iter _) ?_
  show wpAny _ _ (pyIter (.ref l) >>= _) _ _ s
  refine wpAny_bind (wpAny_pyIter_list (isList_of ho) (wpAny_pure ⟨_, rfl, _, hs.alloc (k := k') (cl := .raw fun o => o = ⟨.type "list_iterator", none, .fields #[.ref l, .int 0 0], #[]⟩) rfl rfl, h _ hs.fresh.1 _ rfl⟩))
end
end Mine.Internal
namespace Mine.Internal
open PySem PySem.W PyProof.Rows PySem.Calls PySem.F
noncomputable def iterCell4 (ty : String) (l : Addr) (n ep : Nat) (i : Nat) : Cell := .raw fun o => o.cls = .type ty ∧ o.data = .fields #[.ref l, .int i 0, .int n 0, .int ep 0]
noncomputable def viewCell (ty : String) (l : Addr) : Cell := .raw fun o => o.cls = .type ty ∧ o.data = .fields #[.ref l]
section
variable {c : Cx} {A : Around} {E : Value → AS → Prop} {a : AS} {env : Env} {fs : List Frm} {σ : Addr → Option (Nat × Cell)} {g : Array GenState} {k : Nat} {D : Addr} {kvs : List (AV × AV)} {ep : Nat}
theorem W_set0 {Q : Value → AS → Prop} (k : Nat) (h : ∀ l, σ l = none → ∀ σ', σ' = upd σ l (some (k, .set (fun _ => false) 0)) → Q (.ref l) ⟨fs, σ', g⟩) : W c A (call (.type "set") []) Q E ⟨fs, σ, g⟩ := fun s hs =>
  call_set_0 fun led => ⟨_, hs.alloc (k := k) (cl := .set (fun _ => false) 0) (setObjOf_fresh led) rfl, h _ hs.fresh.1 _ rfl⟩
theorem W_iter_dict {Q : Value → AS → Prop} (hl : σ D = some (k, .dict kvs ep)) (h : ∀ it, σ it = none → ∀ σ', σ' = upd σ it (some (9, iterCell4 "dict_keyiterator" D kvs.length ep 0)) → Q (.ref it) ⟨fs, σ', g⟩) : W c A (pyIter (.ref D)) Q E ⟨fs, σ, g⟩ := fun s hs => by
  obtain ⟨kvs', hd, e⟩ := own_dict hs hl
  have hlen : kvs'.length = kvs.length := by rw [e]; simp
  refine wpAny_pyIter_dict (notSys hs hl) hd ⟨_, hs.alloc (k := 9) (cl := iterCell4 "dict_keyiterator" D kvs.length ep 0) ⟨rfl, by rw [hlen]; rfl⟩ rfl, h _ hs.fresh.1 _ rfl⟩
theorem get_erP {kvs' : List (AV × Value)} (e : kvs = kvs'.map erP) {i : Nat} {p : AV × AV} (h : kvs[i]? = some p) : ∃ u, kvs'[i]? = some (p.1, u) ∧ er u = p.2 := by
  rw [e, List.getElem?_map] at h
  obtain ⟨q, hq, eq⟩ := map_some_of h
  subst eq
  exact ⟨q.2, hq, rfl⟩
theorem IterOf.dictKeys (hh : A.handled = none) (hkey : ∀ p ∈ kvs, p.1.isKey = true) : IterOf c A (kvs.map (·.1)) k (fun σ => σ D = some (k, .dict kvs ep)) (iterCell4 "dict_keyiterator" D kvs.length ep) where
  item := fun {it i v fs σ g Q E} hit hl hv h s hs => by
    obtain ⟨kvs', hd, e⟩ := own_dict hs hl
    have hlen : kvs'.length = kvs.length := by rw [e]; simp
    rw [List.getElem?_map] at hv
    obtain ⟨p, hp, rfl⟩ := map_some_of hv
    obtain ⟨u, hu, eu⟩ := get_erP e hp
    obtain ⟨⟨o, ho, hc, hdd⟩, _⟩ := hs.own it 9 _ hit
    rw [← hlen] at hdd
    refine wpAny_pyNext_dict_item ⟨o, ho, hc, hdd⟩ hd hu (fun key h' hkk hi hsb => ?_)
    obtain ⟨o', ho', hc', hd'⟩ := hi
    exact ⟨_, hs.put hit (fun b o q z => (hsb.2 b q).trans z) ho' (cl' := iterCell4 "dict_keyiterator" D kvs.length ep (i + 1)) ⟨hc', by rw [← hlen]; exact hd'⟩, h _ _ rfl (avKind_is.mp hkk).1⟩
  fin := fun {it i fs σ g Q E} hit hl hi h s hs => by
    obtain ⟨kvs', hd, e⟩ := own_dict hs hl
    have hlen : kvs'.length = kvs.length := by rw [e]; simp
    obtain ⟨⟨o, ho, hc, hdd⟩, _⟩ := hs.own it 9 _ hit
    rw [← hlen] at hdd
    refine wpAny_pyNext_dict_end hh ⟨o, ho, hc, hdd⟩ hd (by rw [List.getElem?_eq_none]; rw [hlen]; simp at hi; lia) (fun h' hx => ⟨_, hs.drop hit (fun b o q z => hx b o q z), h _ rfl⟩)
  keep := fun {σ it i x} h hi => by rw [upd_ne (fun q => by rw [q, hi] at h; cases h)]; exact h
  ext := fun {C σ σ'} hk hx h => hx _ _ _ h hk
  own := fun {target it u i fs σ g Q E} h q s hs => (hs.own it 9 _ h).1.elim fun _ z => own_tup (by decide) z.1 z.2.1 z.2.2 ⟨_, hs, q⟩
theorem W_dict_values {Q : Value → AS → Prop} (hl : σ D = some (k, .dict kvs ep)) (h : ∀ v, σ v = none → ∀ σ', σ' = upd σ v (some (0, viewCell "dict_values" D)) → Q (.ref v) ⟨fs, σ', g⟩) : W c A (call (.builtin "dict.values") [.ref D]) Q E ⟨fs, σ, g⟩ := fun s hs => by
  obtain ⟨kvs', hd, e⟩ := own_dict hs hl
  refine call_meetsIn slot_dict_values hd.dictOf.mapOf.typeIs entry_dict_values (args_dict_values_1 _) (meets_dict_values (avKind c.prog c.w) D (notSys hs hl)) ⟨⟨_, hd.dictOf⟩, ?_⟩
  exact ⟨_, hs.alloc (k := 0) (cl := viewCell "dict_values" D) ⟨rfl, rfl⟩ rfl, h _ hs.fresh.1 _ rfl⟩
theorem W_iter_values {v : Addr} {k' : Nat} {Q : Value → AS → Prop} (hv : σ v = some (k', viewCell "dict_values" D)) (hl : σ D = some (k, .dict kvs ep)) (h : ∀ it, σ it = none → ∀ σ', σ' = upd σ it (some (9, iterCell4 "dict_valueiterator" D kvs.length ep 0)) → Q (.ref it) ⟨fs, σ', g⟩) : W c A (pyIter (.ref v)) Q E ⟨fs, σ, g⟩ := fun s hs => by
  obtain ⟨kvs', hd, e⟩ := own_dict hs hl
  have hlen : kvs'.length = kvs.length := by rw [e]; simp
  obtain ⟨⟨o, ho, hc, hdd⟩, _⟩ := hs.own v k' _ hv
  exact wpAny_pyIter_values ⟨o, ho, hc, hdd⟩ hd ⟨_, hs.alloc (k := 9) (cl := iterCell4 "dict_valueiterator" D kvs.length ep 0) ⟨rfl, by rw [hlen]; rfl⟩ rfl, h _ hs.fresh.1 _ rfl⟩
theorem IterOf.dictValues (hh : A.handled = none) : IterOf c A (kvs.map (·.2)) k (fun σ => σ D = some (k, .dict kvs ep)) (iterCell4 "dict_valueiterator" D kvs.length ep) where
  item := fun {it i v fs σ g Q E} hit hl hv h s hs => by
    obtain ⟨kvs', hd, e⟩ := own_dict hs hl
    have hlen : kvs'.length = kvs.length := by rw [e]; simp
    rw [List.getElem?_map] at hv
    obtain ⟨p, hp, rfl⟩ := map_some_of hv
    obtain ⟨u, hu, eu⟩ := get_erP e hp
    obtain ⟨⟨o, ho, hc, hdd⟩, _⟩ := hs.own it 9 _ hit
    rw [← hlen] at hdd
    refine wpAny_pyNext_values_item ⟨o, ho, hc, hdd⟩ hd hu (fun h' hi hsb => ?_)
    obtain ⟨o', ho', hc', hd'⟩ := hi
    exact ⟨_, hs.put hit (fun b o q z => (hsb.2 b q).trans z) ho' (cl' := iterCell4 "dict_valueiterator" D kvs.length ep (i + 1)) ⟨hc', by rw [← hlen]; exact hd'⟩, h _ _ rfl eu⟩
  fin := fun {it i fs σ g Q E} hit hl hi h s hs => by
    obtain ⟨kvs', hd, e⟩ := own_dict hs hl
    have hlen : kvs'.length = kvs.length := by rw [e]; simp
    obtain ⟨⟨o, ho, hc, hdd⟩, _⟩ := hs.own it 9 _ hit
    rw [← hlen] at hdd
    refine wpAny_pyNext_values_end hh ⟨o, ho, hc, hdd⟩ hd (by rw [List.getElem?_eq_none]; rw [hlen]; simp at hi; lia) (fun h' hx => ⟨_, hs.drop hit (fun b o q z => hx b o q z), h _ rfl⟩)
  keep := fun {σ it i x} h hi => by rw [upd_ne (fun q => by rw [q, hi] at h; cases h)]; exact h
  ext := fun {C σ σ'} hk hx h => hx _ _ _ h hk
  own := fun {target it u i fs σ g Q E} h q s hs => (hs.own it 9 _ h).1.elim fun _ z => own_tup (by decide) z.1 z.2.1 z.2.2 ⟨_, hs, q⟩
end
end Mine.Internal
namespace Mine.Internal
open PySem PySem.W PyProof.Rows PySem.Calls PySem.F
section
variable {c : Cx} {A : Around} {E : Value → AS → Prop} {a : AS} {env : Env} {fs : List Frm} {σ : Addr → Option (Nat × Cell)} {g : Array GenState} {k : Nat}
theorem W_While {test : Expr} {body orelse : List Stmt} {pos : Pos} {Q : Flow → AS → Prop} (I : Nat → AS → Prop)
    (turn : ∀ n a, I n a → W c A (isTrue test env (eval test env)) (fun b a₁ => if b then W c A (execs body env) (fun f a₂ => match f with
        | .next | .cont => ∃ m, m < n ∧ I m a₂
        | .brk => Q .next a₂
        | .ret v => Q (.ret v) a₂) (Noted c A env (Came c A env E)) a₁ else W c A (execs orelse env) Q (Noted c A env (Came c A env E)) a₁) (Noted c A env (Came c A env E)) a)
    (n : Nat) (h : I n a) : W c A (exec (.While test body orelse pos) env) Q E a := by
  intro s hs
  refine wpAny_While (codeAny_loop rfl (fun n s => ∃ a, St c a s ∧ I n a) (fun n s pq => ?_) n ⟨a, hs, h⟩)
  obtain ⟨a, hs, hI⟩ := pq
  show wpAny _ A ((whileTurn test body orelse env).onRaise (fun x => do noteFrame x env; theTreesLotGoes x)) _ _ s
  refine wpAny_noted ?_
  have nt : ∀ e s', (∃ a', St c a' s' ∧ Noted c A env (Came c A env E) e a') → notedBy (model c.prog c.w) A env (fun e s' => cameBackBy (model c.prog c.w) A env (fun e s' => ∃ a', St c a' s' ∧ E e a') e s') e s' := fun e s' pz6 => pz6.elim fun a' pz7 => pz7.elim fun h1 q =>
    wpAny_mono (q s' h1) (fun _ s'' x => came_of x) fun e' s'' x => came_of x
  unfold whileTurn
  refine wpAny_bind (wpAny_mono (turn n a hI s hs) (fun b s₁ pq => ?_) nt)
  obtain ⟨a₁, h1, q⟩ := pq
  cases b with
  | true =>
    refine wpAny_bind (wpAny_mono (q s₁ h1) (fun f s₂ pq => ?_) nt)
    obtain ⟨a₂, h2, q⟩ := pq
    cases f with
    | next => obtain ⟨m, hm, hi⟩ := q; exact wpAny_pure ⟨rfl, m, hm, a₂, h2, hi⟩
    | cont => obtain ⟨m, hm, hi⟩ := q; exact wpAny_pure ⟨rfl, m, hm, a₂, h2, hi⟩
    | brk => exact wpAny_pure ⟨a₂, h2, q⟩
    | ret v => exact wpAny_pure ⟨a₂, h2, q⟩
  | false =>
    exact wpAny_bind (wpAny_mono (q s₁ h1) (fun f s₂ x => wpAny_pure x) nt)
end
end Mine.Internal
namespace Mine.Internal
open PySem PySem.W PyProof.Rows PySem.Calls PySem.F
theorem mem_cellsFrom : ∀ {names : List (Str × NameKind)} {n : Nat} {acc : List (Str × Addr)} {p : Str × Addr}, p ∈ cellsFrom n names acc → p ∈ acc ∨ (p.1, NameKind.cell) ∈ names
  | [], _, _, _, h => .inl h
  | (x, k) :: r, n, acc, p, h => by
    unfold cellsFrom at h
    split at h
    · rename_i hk
      rcases mem_cellsFrom h with q | q
      · rcases List.mem_cons.mp q with e | q
        · subst e; rw [eq_of_beq hk]; exact .inr (List.mem_cons_self ..)
        · exact .inl q
      · exact .inr (List.mem_cons_of_mem _ q)
    · rcases mem_cellsFrom h with q | q
      · exact .inl q
      · exact .inr (List.mem_cons_of_mem _ q)
theorem cellsFrom_acc : ∀ {names : List (Str × NameKind)} {n : Nat} {acc : List (Str × Addr)} {p : Str × Addr}, p ∈ acc → p ∈ cellsFrom n names acc
  | [], _, _, _, h => h
  | (x, k) :: r, n, acc, p, h => by
    unfold cellsFrom
    split
    · exact cellsFrom_acc (List.mem_cons_of_mem _ h)
    · exact cellsFrom_acc h
theorem cellsFrom_has : ∀ {names : List (Str × NameKind)} {n : Nat} {acc : List (Str × Addr)} {x : Str}, (x, NameKind.cell) ∈ names → ∃ a, (x, a) ∈ cellsFrom n names acc
  | (y, k) :: r, n, acc, x, h => by
    unfold cellsFrom
    rcases List.mem_cons.mp h with e | h
    · cases e; exact ⟨n, by rw [if_pos (by rfl)]; exact cellsFrom_acc (List.mem_cons_self ..)⟩
    · split
      · exact cellsFrom_has h
      · exact cellsFrom_has h
theorem cellsFrom_nd : ∀ {names : List (Str × NameKind)} {n : Nat} {acc : List (Str × Addr)}, (names.map (·.1)).Nodup → (acc.map (·.1)).Nodup → (∀ x ∈ names.map (·.1), x ∉ acc.map (·.1)) → ((cellsFrom n names acc).map (·.1)).Nodup
  | [], _, _, _, h, _ => h
  | (y, k) :: r, n, acc, h1, h2, h3 => by
    simp only [List.map_cons, List.nodup_cons] at h1
    unfold cellsFrom
    split
    · refine cellsFrom_nd h1.2 ?_ ?_
      · simp only [List.map_cons, List.nodup_cons]
        exact ⟨h3 y (by first | decide | simp), h2⟩
      · intro x hx q
        simp only [List.map_cons, List.mem_cons] at q
        rcases q with e | q
        · exact h1.1 (e ▸ hx)
        · exact h3 x (by simp only [List.map_cons, List.mem_cons]; exact .inr hx) q
    · exact cellsFrom_nd h1.2 h2 fun x hx => h3 x (by simp only [List.map_cons, List.mem_cons]; exact .inr hx)
theorem lookup_none_of {x : Str} {α : Type} : ∀ {l : List (Str × α)}, x ∉ l.map (·.1) → l.lookup x = none
  | [], _ => rfl
  | p :: l, h => by
    simp only [List.map_cons, List.mem_cons, not_or] at h
    rw [List.lookup_cons, beq_eq_false_iff_ne.mpr h.1]
    exact lookup_none_of h.2
theorem bindL_eq {k : Str → Option NameKind} {x : Str} : ∀ {b : List (Str × Value)} {m : Str → Option Value}, (b.map (·.1)).Nodup → bindL k b m x = if k x = some .local then (b.lookup x).or (m x) else m x
  | [], m, _ => by simp [bindL]
  | (n, v) :: r, m, h => by
    simp only [List.map_cons, List.nodup_cons] at h
    unfold bindL
    rw [bindL_eq h.2, List.lookup_cons]
    by_cases e : x = n
    · subst e
      by_cases q : k x = some .local
      · simp [q, lookup_none_of h.1]
      · simp [q]
    · rw [beq_eq_false_iff_ne.mpr e]
      by_cases q : k n = some .local
      · simp [q, e]
      · simp [q]
theorem bindC_eq {k : Str → Option NameKind} {x : Str} : ∀ {b : List (Str × Value)} {m : Str → Option Value}, (b.map (·.1)).Nodup → bindC k b m x = if k x = some .local then m x else (b.lookup x).or (m x)
  | [], m, _ => by simp [bindC]
  | (n, v) :: r, m, h => by
    simp only [List.map_cons, List.nodup_cons] at h
    unfold bindC
    rw [bindC_eq h.2, List.lookup_cons]
    by_cases e : x = n
    · subst e
      by_cases q : k x = some .local
      · simp [q, lookup_none_of h.1]
      · simp [q, lookup_none_of h.1]
    · rw [beq_eq_false_iff_ne.mpr e]
      by_cases q : k n = some .local
      · simp [q, e]
      · simp [q, e]
noncomputable def nkKind (b : Bool) : NameKind := if b then .cell else .local
structure FnOkC (K : Frag) (f : Addr) (nk : List (Str × Bool)) (gs : List Str) : Prop where
  fn : isFd K f = true
  code : codeIn K (fdOf K f).code (fdOf K f).qualname = true
  names : (fdOf K f).scope.names = nk.map (fun p => (p.1, nkKind p.2)) ++ gs.map (·, NameKind.globalImplicit)
  kind : (fdOf K f).scope.kind = .function
  co : (fdOf K f).scope.isCoroutine = false
  gen : (fdOf K f).scope.isGenerator = false
  body : (fdOf K f).body = .stmts (bodyOf (fdOf K f))
  gl : (fdOf K f).globals = mainGlobals
  bl : (fdOf K f).builtins = builtinsNs
  clo : (fdOf K f).closure = []
  nd : ((("__debug__" : Str) :: (nk.map (·.1) ++ gs)).map codeOf).Nodup
structure CapOk (env : Env) (cl : List (Str × Addr)) (xs : List Str) : Prop where
  kind : env.scope.kind = .function
  cap : ∀ x ∈ xs, (x == ("__debug__" : Str)) = false ∧ env.kindOf x = some .cell ∧ ∃ ca, env.cells.lookup x = some ca ∧ cl.lookup x = some ca
section
variable {c : Cx} {A : Around} {E : Value → AS → Prop} {a : AS} {env : Env} {fs : List Frm} {σ : Addr → Option (Nat × Cell)} {g : Array GenState} {k : Nat}
theorem Wk_call_C {K : Frag} {f : Addr} {nk : List (Str × Bool)} {ps rs ns : List Str} {gs : List (Str × Value)} {args : List Value} {us : List AV} {vs : List (Option AV)} {d : Nat} {R : Result → AS → Prop}
    (hK : c.K = K) (hf : FnOkC K f nk (gs.map (·.1))) (hnk : nk.map (·.1) = ps ++ rs) (hns : ns = ps ++ rs) (hbind : bindArgs (fdOf K f) ⟨args, []⟩ = pure (ps.zip args)) (hu : args.map er = us) (hi : Init ps us rs vs) (hglob : ∀ p ∈ gs, Glob c p.1 p.2) (hA : AOk A fs (d + 1))
    (h : ∀ L cl env, env = callEnvC (fdOf K f) L f → σ L = none → AOk (A.deeper env) (⟨L, cl, ns, vs⟩ :: fs) d → EnvOk c env L cl ns gs → CapOk env cl ((nk.filter (·.2)).map (·.1)) →
      W c (A.deeper env) (execs (bodyOf (fdOf K f)) env) (fun fl a' => Pop fs (R (.ok (.ret (retOf fl)))) a')
        (fun e a' => W c (A.deeper env) (leaving env e) (fun _ a'' => Pop fs (R (.error e)) a'') (fun _ _ => False) a') ⟨⟨L, cl, ns, vs⟩ :: fs, σ, g⟩) :
    Wk c A (.call (.ref f) ⟨args, []⟩) R ⟨fs, σ, g⟩ := by
  subst hK hns
  obtain ⟨o, ho, hd⟩ := fdOf_ex hf.fn
  have hnm := hf.names
  have hnd := nodup_of_codes hf.nd
  have hnd2 := (List.nodup_cons.mp hnd).2
  have hkeys : ((fdOf c.K f).scope.names.map (·.1)).Nodup := by
    rw [hnm, List.map_append, List.map_map, List.map_map]
    simpa [Function.comp_def] using hnd2
  have look : ∀ {p}, p ∈ (fdOf c.K f).scope.names → (fdOf c.K f).scope.names.lookup p.1 = some p.2 := fun hp => lookup_nodup hkeys hp
  have nodbg : ∀ x ∈ nk.map (·.1) ++ gs.map (·.1), (x == ("__debug__" : Str)) = false := fun x hx => beq_eq_false_iff_ne.mpr fun e => (List.nodup_cons.mp hnd).1 (e ▸ hx)
  have hnsnd : (ps ++ rs).Nodup := hnk ▸ (List.nodup_append.mp hnd2).1
  intro s hs
  obtain ⟨f1, f2, f3⟩ := hs.fresh
  have X : c.K.In s.heap := c.inK.keeps hs.keep
  generalize hL : s.heap.objs.size = L at *
  have clmem : ∀ {p : Str × Addr}, p ∈ cellsFrom (L + 1) (fdOf c.K f).scope.names [] → (p.1, NameKind.cell) ∈ (fdOf c.K f).scope.names := fun hp => (mem_cellsFrom hp).resolve_left (by first | decide | simp)
  have clnd : ((cellsFrom (L + 1) (fdOf c.K f).scope.names []).map (·.1)).Nodup := cellsFrom_nd hkeys .nil (by first | decide | simp)
  have cllook : ∀ {x : Str}, (x, NameKind.cell) ∈ (fdOf c.K f).scope.names → ∃ ca, (cellsFrom (L + 1) (fdOf c.K f).scope.names []).lookup x = some ca := fun hx => by
    obtain ⟨ca, hc⟩ := cellsFrom_has (n := L + 1) (acc := []) hx
    exact ⟨ca, lookup_nodup clnd hc⟩
  have nkm : ∀ {x : Str}, x ∈ ps ++ rs → ∃ b, (x, nkKind b) ∈ (fdOf c.K f).scope.names ∧ (x, b) ∈ nk := fun {x} hx => by
    rw [← hnk] at hx
    obtain ⟨p, hp, rfl⟩ := List.mem_map.mp hx
    exact ⟨p.2, by rw [hnm]; exact List.mem_append_left _ (List.mem_map.mpr ⟨p, hp, rfl⟩), hp⟩
  have EO : EnvOk c (callEnvC (fdOf c.K f) L f) L (cellsFrom (L + 1) (fdOf c.K f).scope.names []) (ps ++ rs) gs := by
    refine ⟨hf.kind, rfl, hnsnd, clnd, fun x hx => ⟨nodbg x (List.mem_append_left _ (hnk ▸ hx)), ?_⟩, fun p hp => ⟨nodbg _ (List.mem_append_right _ (List.mem_map_of_mem hp)), look (p := (p.1, .globalImplicit)) ?_, hglob p hp⟩, hf.gl, hf.bl⟩
    · obtain ⟨b, hb, _⟩ := nkm hx
      cases b with
      | false =>
        refine .inl ⟨lookup_none_of fun q => ?_, look hb⟩
        obtain ⟨p, hp, rfl⟩ := List.mem_map.mp q
        have e1 := look (clmem hp)
        have e2 := look hb
        dsimp only at e1 e2
        rw [e1] at e2
        cases e2
      | true =>
        obtain ⟨ca, hc⟩ := cllook hb
        exact .inr ⟨ca, hc, look hb, hc⟩
    · rw [hnm]; exact List.mem_append_right _ (by rw [List.map_map]; exact List.mem_map.mpr ⟨p, hp, rfl⟩)
  have CO : CapOk (callEnvC (fdOf c.K f) L f) (cellsFrom (L + 1) (fdOf c.K f).scope.names []) ((nk.filter (·.2)).map (·.1)) := by
    refine ⟨hf.kind, fun x hx => ?_⟩
    obtain ⟨p, hp, rfl⟩ := List.mem_map.mp hx
    obtain ⟨hp1, hp2⟩ := List.mem_filter.mp hp
    have hm : (p.1, NameKind.cell) ∈ (fdOf c.K f).scope.names := by
      rw [hnm]; refine List.mem_append_left _ (List.mem_map.mpr ⟨p, hp1, by simp [nkKind, hp2]⟩)
    obtain ⟨ca, hc⟩ := cllook hm
    exact ⟨nodbg _ (List.mem_append_left _ (List.mem_map_of_mem hp1)), look hm, ca, hc, hc⟩
  have zm : ∀ x ∈ ps.zip args, x.1 ∈ ps ++ rs := fun x hx => List.mem_append_left _ (List.of_mem_zip hx).1
  refine codeAny_call_cells hA.room (X _ _ ho) hd (c.nolim.keeps hs.keep) (codeRec_of X hf.code) hf.body hbind hf.clo (fun x hx => ?_) (fun s₁ x => ?_) hf.co hf.gen hf.kind
  · obtain ⟨b, hb, _⟩ := nkm (zm x hx)
    cases b with
    | false => exact .inl (look hb)
    | true =>
      obtain ⟨ca, hc⟩ := cllook hb
      exact .inr ⟨look hb, by rw [hL, hc]; rfl⟩
  rw [hL] at x ⊢
  have kd : ∀ y, (callEnvC (fdOf c.K f) L f).kindOf y = (fdOf c.K f).scope.names.lookup y := fun _ => rfl
  have hzn := zip_nodup (args := args) (List.nodup_append.mp hnsnd).1
  have big : ∀ b, L ≤ b → c.base.get? b = none ∧ σ b = none ∧ b ∉ fs.flatMap Frm.as := by
    intro b hb
    have lt : ∀ {o}, s.heap.get? b = some o → False := fun e => by have := Heap.lt_size e; rw [hL] at this; exact absurd hb (Nat.not_le.mpr this)
    refine ⟨?_, ?_, fun hm => ?_⟩
    · cases e : c.base.get? b with
      | none => rfl
      | some o => exact (lt (hs.keep _ _ e)).elim
    · cases e : σ b with
      | none => rfl
      | some p =>
        obtain ⟨⟨o, ho, _⟩, _⟩ := hs.own _ p.1 p.2 e
        exact (lt ho).elim
    · obtain ⟨f, hf, hx⟩ := List.mem_flatMap.mp hm
      obtain ⟨m, ⟨o, es, ep, ho, _⟩, _, h3⟩ := hs.fr f hf
      simp only [Frm.as, List.mem_cons, List.mem_map] at hx
      rcases hx with e | ⟨p, hp, e⟩
      · exact lt (e ▸ ho)
      · obtain ⟨ov, ⟨oc, hc, _⟩, _⟩ := h3 p hp
        exact lt (e ▸ hc)
  have abv : ∀ p ∈ cellsFrom (L + 1) (fdOf c.K f).scope.names [], L < p.2 := fun p hp => x.above p.1 p.2 hp
  have asL : ∀ b ∈ (L :: (cellsFrom (L + 1) (fdOf c.K f).scope.names []).map (·.2)), L ≤ b := fun b hb => by
    rcases List.mem_cons.mp hb with rfl | hb
    · exact Nat.le_refl _
    · obtain ⟨p, hp, rfl⟩ := List.mem_map.mp hb
      exact Nat.le_of_lt (abv p hp)
  have S : St c ⟨⟨L, cellsFrom (L + 1) (fdOf c.K f).scope.names [], ps ++ rs, vs⟩ :: fs, σ, g⟩ s₁ := by
    obtain ⟨h', tk, e⟩ := x.toInCall.same
    have hk := x.toInCall.keep
    refine ⟨fun b o e => hk b o (hs.keep b o e), fun f' hf => ?_, fun f' hf => ?_, ?_, fun y k cl e => ?_, by rw [e]; exact hs.os, by rw [e]; exact hs.gens⟩
    · rcases List.mem_cons.mp hf with rfl | hf
      · refine ⟨_, x.toInCall.ns, fun y hy => ?_, fun p hp => ?_⟩
        · rw [bindL_eq hzn]
          have := hi.gv args hu y
          rw [← this, kd]
          by_cases q : (fdOf c.K f).scope.names.lookup y = some .local
          · rw [if_pos q]; cases (ps.zip args).lookup y <;> rfl
          · rw [if_neg q]
            cases z : (ps.zip args).lookup y with
            | none => rfl
            | some v =>
              exfalso
              obtain ⟨b, hb, _⟩ := nkm (zm _ (PySem.mem_of_lookup z))
              cases b with
              | false => exact q (look hb)
              | true =>
                obtain ⟨ca, hc⟩ := cllook hb
                dsimp only at hc hy
                rw [hc] at hy; cases hy
        · refine ⟨_, x.cell p.1 p.2 (lookup_nodup clnd hp), ?_⟩
          rw [bindC_eq hzn, kd, look (clmem hp), if_neg (by intro q; cases q)]
          rw [← hi.gv args hu p.1]
          cases (ps.zip args).lookup p.1 <;> rfl
      · exact (hs.fr f' hf).keeps fun b _ o e => hk b o e
    · rcases List.mem_cons.mp hf with rfl | hf
      · exact fun y hy => (big y (asL y hy)).1
      · exact hs.nb f' hf
    · rw [List.flatMap_cons]
      refine List.nodup_append.mpr ⟨?_, hs.nd, fun y hy z hz e => (big y (asL y hy)).2.2 (e ▸ hz)⟩
      simp only [Frm.as, List.nodup_cons]
      refine ⟨fun q => ?_, ?_⟩
      · obtain ⟨p, hp, e⟩ := List.mem_map.mp q
        have := abv p hp
        rw [e] at this; exact Nat.lt_irrefl _ this
      · have := x.apart
        exact List.pairwise_map.mpr this
    · obtain ⟨⟨o', ho', ok⟩, r1, r2⟩ := hs.own y k cl e
      refine ⟨⟨o', hk _ _ ho', ok⟩, r1, fun q => ?_⟩
      rw [List.flatMap_cons] at q
      rcases List.mem_append.mp q with q | q
      · have := (big y (asL y q)).2.1
        dsimp only at e; rw [this] at e; cases e
      · exact r2 q
  refine wpAny_mono (h L _ _ rfl f1 (hA.deeper hf.kind rfl) EO CO _ S) (fun fl s' pq => ?_) (fun e s' pz8 => pz8.elim fun a' pz9 => pz9.elim fun h1 q => ?_)
  obtain ⟨a', h1, f', e1, q⟩ := pq
  · obtain ⟨fs', σ', g'⟩ := a'
    dsimp only at e1 q; subst e1
    exact ⟨_, h1.pop, by cases fl <;> exact q⟩
  · refine wpAny_mono (q s' h1) (fun _ s'' pq => ?_) fun _ _ pz10 => pz10.elim fun _ pz11 => pz11.elim fun _ x => x.elim
    obtain ⟨a'', h2, f', e1, q⟩ := pq
    obtain ⟨fs', σ', g'⟩ := a''
    dsimp only at e1 q; subst e1
    exact ⟨_, h2.pop, q⟩
theorem W_call_C {K : Frag} {f : Addr} {nk : List (Str × Bool)} {ps rs ns : List Str} {gs : List (Str × Value)} {args : List Value} {us : List AV} {vs : List (Option AV)} {d : Nat} {Q : Value → AS → Prop}
    (hK : c.K = K) (hf : FnOkC K f nk (gs.map (·.1))) (hnk : nk.map (·.1) = ps ++ rs) (hns : ns = ps ++ rs) (hbind : bindArgs (fdOf K f) ⟨args, []⟩ = pure (ps.zip args)) (hu : args.map er = us) (hi : Init ps us rs vs) (hglob : ∀ p ∈ gs, Glob c p.1 p.2) (hA : AOk A fs (d + 1))
    (h : ∀ L cl env, env = callEnvC (fdOf K f) L f → σ L = none → AOk (A.deeper env) (⟨L, cl, ns, vs⟩ :: fs) d → EnvOk c env L cl ns gs → CapOk env cl ((nk.filter (·.2)).map (·.1)) →
      W c (A.deeper env) (execs (bodyOf (fdOf K f)) env) (fun fl a' => Pop fs (Q (retOf fl)) a')
        (fun e a' => W c (A.deeper env) (leaving env e) (fun _ a'' => Pop fs (E e) a'') (fun _ _ => False) a') ⟨⟨L, cl, ns, vs⟩ :: fs, σ, g⟩) :
    W c A (call (.ref f) args) Q E ⟨fs, σ, g⟩ := W_call (Wk_call_C hK hf hnk hns hbind hu hi hglob hA h)
theorem W_NameCap {x : Str} {pos : Pos} {v : AV} {L : Addr} {cl : List (Str × Addr)} {ns xs : List Str} {vs : List (Option AV)} {Q : Value → AS → Prop} (he : CapOk env cl xs) (hx : x ∈ xs) (hf : ⟨L, cl, ns, vs⟩ ∈ a.fs) (hv : VarAt ns vs x (some v)) (hnd : ns.Nodup) (h : All v (fun u => Q u a)) :
    W c A (eval (.Name x pos) env) Q E a := by
  intro s hs
  obtain ⟨e, hm⟩ := hv.gv hnd
  obtain ⟨m, hn, h2, h3⟩ := hs.fr _ hf
  obtain ⟨d1, d2, ca, d3, d4⟩ := he.cap x hx
  obtain ⟨ov, hov, eo⟩ := h3 _ (lookup_mem d4)
  obtain ⟨u, rfl, eu⟩ := map_some_of (eo.trans e)
  exact wpAny_Name (wpAny_loadName_cell he.kind d2 d3 hov ⟨_, hs, h.at eu⟩) d1
end
end Mine.Internal
namespace Mine.Internal
open PySem PySem.W PyProof.Rows PySem.Calls PySem.F
structure CScope (sc : Scope) (x : Str) (gls caps : List Str) : Prop where
  kind : sc.kind = .function
  names : sc.names = ((".0" : Str), NameKind.local) :: (x, NameKind.local) :: (gls.map (·, NameKind.globalImplicit) ++ caps.map (·, NameKind.free))
  nd : ((("__debug__" : Str) :: (".0" : Str) :: x :: (gls ++ caps)).map codeOf).Nodup
noncomputable def capCells (env : Env) (caps : List Str) : List (Str × Addr) := (caps.map fun n => (n, (env.cells.lookup n).getD 0)).reverse
theorem closure_loop {env : Env} (f : Str × NameKind → List (Str × Addr) → Sem (ForInStep (List (Str × Addr))))
    (hf : ∀ n k cs, f (n, k) cs = if k == .free then (do let a ← cellOf env n; pure (.yield ((n, a) :: cs))) else pure (.yield cs)) :
    ∀ (names : List (Str × NameKind)) (acc : List (Str × Addr)), (∀ p ∈ names, p.2 = .free → ∃ ca, env.cells.lookup p.1 = some ca) →
      forIn names acc f = (pure (((names.filter fun p => p.2 == .free).map fun p => (p.1, (env.cells.lookup p.1).getD 0)).reverse ++ acc) : Sem _)
  | [], acc, _ => rfl
  | (n, k) :: r, acc, h => by
    have ih := closure_loop f hf r
    rw [List.forIn_cons, hf]
    by_cases e : k = .free
    · subst e
      obtain ⟨ca, hca⟩ := h (n, .free) (List.mem_cons_self ..) rfl
      dsimp only at hca
      have : cellOf env n = pure ca := by unfold cellOf; rw [hca]
      rw [if_pos (by rfl), this]
      show forIn r ((n, ca) :: acc) f = _
      rw [ih _ fun p hp => h p (List.mem_cons_of_mem _ hp)]
      simp [List.filter_cons, hca]
    · have e' : (k == NameKind.free) = false := beq_eq_false_iff_ne.mpr e
      rw [if_neg (by simp [e'])]
      show forIn r acc f = _
      rw [ih _ fun p hp => h p (List.mem_cons_of_mem _ hp)]
      simp [List.filter_cons, e']
section
variable {c : Cx} {A : Around} {E : Value → AS → Prop} {a : AS} {env : Env} {fs : List Frm} {σ : Addr → Option (Nat × Cell)} {g : Array GenState} {k : Nat}
  {sc : Scope} {x : Str} {gls caps : List Str} {cl : List (Str × Addr)}
theorem CScope.closure (h : CScope sc x gls caps) (hc : CapOk env cl caps) : closureFor sc env = pure (capCells env caps) := by
  unfold closureFor
  have hf : ∀ p ∈ sc.names, p.2 = NameKind.free → ∃ ca, env.cells.lookup p.1 = some ca := by
    intro p hp hk
    rw [h.names] at hp
    simp only [List.mem_cons, List.mem_append, List.mem_map] at hp
    rcases hp with rfl | rfl | ⟨y, _, rfl⟩ | ⟨y, hy, rfl⟩
    · cases hk
    · cases hk
    · cases hk
    · obtain ⟨_, _, ca, h1, _⟩ := hc.cap y hy
      exact ⟨ca, h1⟩
  have := closure_loop (env := env) (fun p cs => if (p.2 == NameKind.free) = true then (do let a ← cellOf env p.1; pure (.yield ((p.1, a) :: cs))) else pure (.yield cs)) (fun _ _ _ => rfl) sc.names [] hf
  have e : ((sc.names.filter fun p => p.2 == NameKind.free).map fun p => (p.1, (env.cells.lookup p.1).getD 0)).reverse ++ [] = capCells env caps := by
    unfold capCells
    rw [h.names, List.append_nil]
    congr 1
    rw [List.filter_cons, List.filter_cons]
    rw [if_neg (by first | decide | simp), if_neg (by first | decide | simp), List.filter_append]
    have e1 : (gls.map (·, NameKind.globalImplicit)).filter (fun p => p.2 == NameKind.free) = [] := by
      rw [List.filter_eq_nil_iff]; intro p hp; obtain ⟨y, _, rfl⟩ := List.mem_map.mp hp; simp
    have e2 : (caps.map (·, NameKind.free)).filter (fun p => p.2 == NameKind.free) = caps.map (·, NameKind.free) := by
      rw [List.filter_eq_self]; intro p hp; obtain ⟨y, _, rfl⟩ := List.mem_map.mp hp; simp
    rw [e1, e2, List.nil_append, List.map_map]
    rfl
  rw [e] at this
  refine Eq.trans (b := ((forIn sc.names [] (fun p cs => if (p.2 == NameKind.free) = true then (do let a ← cellOf env p.1; pure (.yield ((p.1, a) :: cs))) else pure (.yield cs))) >>= fun cs => pure cs)) ?_ ?_
  · congr 1
  · rw [this]
    rfl
theorem CScope.keys (h : CScope sc x gls caps) : (sc.names.map (·.1)).Nodup := by
  have := (List.nodup_cons.mp (nodup_of_codes h.nd)).2
  rw [h.names]
  simpa [Function.comp_def] using this
theorem relabel_lookup {names : List (Str × NameKind)} : (names.map fun (n, k) => if (k == NameKind.free && env.scope.kind == ScopeKind.function && env.kindOf n == some NameKind.cell) then (n, NameKind.cell) else (n, k)).map (·.1) = names.map (·.1) := by
  rw [List.map_map]
  congr 1
  funext p
  obtain ⟨n, k⟩ := p
  simp only [Function.comp_apply]
  split <;> rfl
theorem CScope.envOk (h : CScope sc x gls caps) (hc : CapOk env cl caps) {C : Addr} {gs : List (Str × Value)} (hg : gs.map (·.1) = gls) (hglob : ∀ p ∈ gs, Glob c p.1 p.2) (hgl : env.globals = mainGlobals) (hbl : env.builtins = builtinsNs) :
    EnvOk c (compEnvC sc (capCells env caps) C env) C [] [x] gs ∧ CapOk (compEnvC sc (capCells env caps) C env) cl caps := by
  have hkeys := h.keys
  have hnd := nodup_of_codes h.nd
  have nodbg : ∀ y ∈ (".0" : Str) :: x :: (gls ++ caps), (y == ("__debug__" : Str)) = false := fun y hy => beq_eq_false_iff_ne.mpr fun e => (List.nodup_cons.mp hnd).1 (e ▸ hy)
  have look : ∀ {p : Str × NameKind}, p ∈ (relabel sc env).names → (compEnvC sc (capCells env caps) C env).kindOf p.1 = some p.2 := fun hp => lookup_nodup (l := (relabel sc env).names) (by rw [relabel, relabel_lookup]; exact hkeys) hp
  have rmem : ∀ {n : Str} {kk : NameKind}, (n, kk) ∈ sc.names → (if (kk == NameKind.free && env.scope.kind == .function && env.kindOf n == some .cell) then (n, NameKind.cell) else (n, kk)) ∈ (relabel sc env).names := fun {n kk} hp => List.mem_map.mpr ⟨(n, kk), hp, rfl⟩
  refine ⟨⟨h.kind, rfl, by simp, .nil, fun y hy => ?_, fun p hp => ⟨nodbg _ ?_, ?_, hglob p hp⟩, hgl, hbl⟩, ⟨h.kind, fun y hy => ⟨nodbg y ?_, ?_, ?_⟩⟩⟩
  · rw [List.mem_singleton] at hy; subst hy
    refine ⟨nodbg y (by first | decide | simp), .inl ⟨rfl, ?_⟩⟩
    have := rmem (n := y) (kk := .local) (by rw [h.names]; simp)
    exact look (p := (y, .local)) (by simpa using this)
  · have : p.1 ∈ gls := hg ▸ List.mem_map_of_mem hp
    simp [this]
  · have hm : p.1 ∈ gls := hg ▸ List.mem_map_of_mem hp
    have := rmem (n := p.1) (kk := .globalImplicit) (by rw [h.names]; simp [hm])
    exact look (p := (p.1, .globalImplicit)) (by simpa using this)
  · simp [hy]
  · have := rmem (n := y) (kk := .free) (by rw [h.names]; simp [hy])
    obtain ⟨_, h2, _⟩ := hc.cap y hy
    rw [if_pos (by rw [hc.kind, h2]; rfl)] at this
    exact look (p := (y, .cell)) this
  · obtain ⟨_, _, ca, h3, h4⟩ := hc.cap y hy
    refine ⟨ca, ?_, h4⟩
    have hcn : caps.Nodup := by
      have := (List.nodup_cons.mp hnd).2
      have := (List.nodup_cons.mp (List.nodup_cons.mp this).2).2
      exact (List.nodup_append.mp this).2.1
    have : ((capCells env caps).map (·.1)).Nodup := by
      unfold capCells
      rw [List.map_reverse, List.map_map]
      exact (List.reverse_perm _).nodup_iff.mpr (by simpa [Function.comp_def] using hcn)
    exact lookup_nodup this (p := (y, ca)) (by unfold capCells; rw [List.mem_reverse]; exact List.mem_map.mpr ⟨y, hy, by rw [h3]; rfl⟩)
noncomputable def CompK (c : Cx) (A : Around) (env : Env) (elt iter : Expr) (x : Str) (px : Pos) (ifs : List Expr) (sc : Scope) (pos : Pos) (caps : List Str) (use : Option (Value → Sem Unit)) (it : Value) (Q : Value → AS → Prop) (E : Value → AS → Prop) (a : AS) : Prop :=
  ∀ s, St c a s → wpAny (model c.prog c.w) A (newList []) (fun acc s₃ => wpAny (model c.prog c.w) A (newFunctionEnv sc env.globals (capCells env caps) [] env.qual none .none (some env)) (fun cenv s₄ =>
    codeAny (model c.prog c.w) A (.compStart (.ListComp elt [⟨.Name x px, iter, ifs, 0⟩] sc pos) 0 it acc { cenv with scope := relabel sc env })
      (compPost (model c.prog c.w) A (fun e s' => ∃ a', St c a' s' ∧ E e a') use (fun v s' => ∃ a', St c a' s' ∧ Q v a') acc cenv.locals) s₄) (fun e s' => ∃ a', St c a' s' ∧ E e a') s₃) (fun e s' => ∃ a', St c a' s' ∧ E e a') s
theorem CScope.names_ok (h : CScope sc x gls caps) : ∀ y ∈ sc.names, y.2 = .local → sc.names.lookup y.1 = some .local := fun y hy e => by
  have := lookup_nodup h.keys hy
  rw [e] at this; exact this
theorem W_ListComp {elt iter : Expr} {px : Pos} {ifs : List Expr} {pos : Pos} {Q : Value → AS → Prop} (h : CScope sc x gls caps) (hc : CapOk env cl caps)
    (hw : W c A (eval iter env) (fun xv a₁ => W c A (pyIter xv) (fun it a₂ => CompK c A env elt iter x px ifs sc pos caps none it Q E a₂) E a₁) E a)
    (hs : ∀ x, foldedSetIterable iter env x = pure x := by intro _; with_unfolding_all rfl) : W c A (eval (.ListComp elt [⟨.Name x px, iter, ifs, 0⟩] sc pos) env) Q E a := by
  intro s hs'
  rw [eval_ListComp]
  refine wpAny_comprehension_free (use := none) rfl hs (h.closure hc) h.kind h.names_ok (wpAny_mono (hw s hs') (fun xv s₁ pz12 => pz12.elim fun a₁ pz13 => pz13.elim fun h1 q => wpAny_mono (q s₁ h1) (fun it s₂ pq => ?_) fun _ _ e => e) fun _ _ e => e)
  obtain ⟨a₂, h2, q⟩ := pq
  exact q s₂ h2
theorem W_Assign_ListComp {elt iter : Expr} {px : Pos} {ifs : List Expr} {pos spos py : Pos} {y : Str} {Q : Flow → AS → Prop} (h : CScope sc x gls caps) (hc : CapOk env cl caps)
    (hsw : swapsWith (.ListComp elt [⟨.Name x px, iter, ifs, 0⟩] sc pos) (some (.Name y py)) spos.line env = pure true)
    (hw : W c A (eval iter env) (fun xv a₁ => W c A (pyIter xv) (fun it a₂ => CompK c A env elt iter x px ifs sc pos caps (some (assign (.Name y py) env)) it (fun _ a' => Q .next a') E a₂) E a₁) E a)
    (hs : ∀ x, foldedSetIterable iter env x = pure x := by intro _; with_unfolding_all rfl) : W c A (exec (.Assign [.Name y py] (.ListComp elt [⟨.Name x px, iter, ifs, 0⟩] sc pos) spos) env) Q E a := by
  intro s hs'
  rw [exec_Assign_Name_used _ _ _ _ hsw]
  refine wpAny_bind (wpAny_standAt (wpAny_bind ?_))
  show wpAny _ A (do let _ ← comprehension (.ListComp elt [⟨.Name x px, iter, ifs, 0⟩] sc pos) sc env _ (newList []) false (eval iter env) (some (assign (.Name y py) env))) _ _ s
  refine wpAny_bind (wpAny_mono (wpAny_comprehension_free (use := some (assign (.Name y py) env)) (Q := fun _ s' => ∃ a', St c a' s' ∧ Q .next a') rfl hs (h.closure hc) h.kind h.names_ok
    (wpAny_mono (hw s hs') (fun xv s₁ pz14 => pz14.elim fun a₁ pz15 => pz15.elim fun h1 q => wpAny_mono (q s₁ h1) (fun it s₂ pz16 => pz16.elim fun a₂ pz17 => pz17.elim fun h2 q => ?_) fun _ _ e => e) fun _ _ e => e)) (fun _ s' hq => wpAny_pure (wpAny_pure hq)) fun _ _ e => e)
  exact q s₂ h2
theorem St.pushComp {s : Shared} {h₁ : Heap} {tk : Nat} {ns : List Str} {vs : List (Option AV)} (hs : St c ⟨fs, σ, g⟩ s) (hns : h₁.Ns s.heap.objs.size (fun _ => none)) (hk : ∀ b o, s.heap.get? b = some o → h₁.get? b = some o)
    (hv : ∀ y, gv ns vs y = none) : St c ⟨⟨s.heap.objs.size, [], ns, vs⟩ :: fs, σ, g⟩ { s with heap := h₁, toks := tk } := by
  obtain ⟨f1, f2, f3⟩ := hs.fresh
  refine ⟨fun b o e => hk b o (hs.keep b o e), fun f' hf => ?_, fun f' hf => ?_, ?_, fun x k cl e => ?_, hs.os, hs.gens⟩
  · rcases List.mem_cons.mp hf with rfl | hf
    · exact ⟨_, hns, fun x _ => by dsimp only; rw [hv]; rfl, fun p hp => by cases hp⟩
    · exact (hs.fr f' hf).keeps fun b _ o e => hk b o e
  · rcases List.mem_cons.mp hf with rfl | hf
    · intro x hx
      simp only [Frm.as, List.map_nil, List.mem_singleton] at hx
      rw [hx]; exact f3
    · exact hs.nb f' hf
  · rw [List.flatMap_cons]
    refine List.nodup_append.mpr ⟨by simp [Frm.as], hs.nd, fun x hx y hy e => ?_⟩
    simp only [Frm.as, List.map_nil, List.mem_singleton] at hx
    exact f2 (by rw [← hx, e]; exact hy)
  · obtain ⟨⟨o', ho', ok⟩, r1, r2⟩ := hs.own x k cl e
    refine ⟨⟨o', hk _ _ ho', ok⟩, r1, fun q => ?_⟩
    rw [List.flatMap_cons] at q
    rcases List.mem_append.mp q with q | q
    · simp only [Frm.as, List.map_nil, List.mem_singleton] at q
      rw [q] at e; dsimp only at e f1; rw [f1] at e; cases e
    · exact r2 q
theorem St.popBut {f : Frm} {s : Shared} {h' : Heap} (hs : St c ⟨f :: fs, σ, g⟩ s) (hc : f.cl = []) (hsb : Heap.SameBut f.L s.heap h') : St c ⟨fs, σ, g⟩ { s with heap := h' } := by
  have P := hs.pop
  have nd := hs.nd
  rw [List.flatMap_cons] at nd
  have hL : f.L ∉ fs.flatMap Frm.as := fun q => (List.nodup_append.mp nd).2.2 f.L (by simp [Frm.as]) f.L q rfl
  have hk : ∀ b o, b ≠ f.L → s.heap.get? b = some o → h'.get? b = some o := fun b o q e => (hsb.2 b q).trans e
  refine ⟨fun b o e => hk b o (fun q => ?_) (P.keep b o e), fun f' hf => (P.fr f' hf).keeps fun b hb o e => hk b o (fun q => hL (q ▸ List.mem_flatMap.mpr ⟨f', hf, hb⟩)) e, P.nb, P.nd, fun y k cl e => ?_, P.os, P.gens⟩
  · have := hs.nb f (List.mem_cons_self ..) f.L (by simp [Frm.as])
    rw [q, this] at e; cases e
  · obtain ⟨⟨o, ho, ok⟩, r1, r2⟩ := P.own y k cl e
    refine ⟨⟨o, hk y o (fun q => ?_) ho, ok⟩, r1, r2⟩
    obtain ⟨_, _, r3⟩ := hs.own y k cl e
    exact r3 (by rw [List.flatMap_cons]; exact List.mem_append_left _ (by simp [Frm.as, q]))
theorem St.swap {f f' : Frm} {s : Shared} (hs : St c ⟨f :: f' :: fs, σ, g⟩ s) : St c ⟨f' :: f :: fs, σ, g⟩ s := by
  have mem : ∀ x, x ∈ f' :: f :: fs → x ∈ f :: f' :: fs := fun x hx => by
    simp only [List.mem_cons] at hx ⊢
    rcases hx with h | h | h
    · exact .inr (.inl h)
    · exact .inl h
    · exact .inr (.inr h)
  refine ⟨hs.keep, fun x hx => hs.fr x (mem x hx), fun x hx => hs.nb x (mem x hx), ?_, fun y k cl e => ?_, hs.os, hs.gens⟩
  · have := hs.nd
    simp only [List.flatMap_cons] at this ⊢
    have p : (f'.as ++ (f.as ++ fs.flatMap Frm.as)).Perm (f.as ++ (f'.as ++ fs.flatMap Frm.as)) := by
      rw [← List.append_assoc, ← List.append_assoc]
      exact List.Perm.append_right _ List.perm_append_comm
    exact p.nodup_iff.mpr this
  · obtain ⟨r1, r2, r3⟩ := hs.own y k cl e
    refine ⟨r1, r2, fun q => r3 ?_⟩
    simp only [List.flatMap_cons, List.mem_append] at q ⊢
    rcases q with h | h | h
    · exact .inr (.inl h)
    · exact .inl h
    · exact .inr (.inr h)
theorem St.recolour {s : Shared} {x : Addr} {k k' : Nat} {cl : Cell} (hs : St c ⟨fs, σ, g⟩ s) (hx : σ x = some (k, cl)) : St c ⟨fs, upd σ x (some (k', cl)), g⟩ s := by
  refine ⟨hs.keep, hs.fr, hs.nb, hs.nd, fun y k2 cl2 e => ?_, hs.os, hs.gens⟩
  by_cases q : y = x
  · subst q
    dsimp only at e
    rw [upd_self] at e
    cases e
    exact hs.own y k cl hx
  · dsimp only at e
    rw [upd_ne q] at e
    exact hs.own y k2 cl2 e
noncomputable def testsOf (ifs : List Expr) (env : Env) : Sem Bool := forIn ifs true fun c r => if r = true then do let ok ← isTrue c env (eval c env); pure (ForInStep.yield ok) else pure (ForInStep.yield r)
theorem W_tests_nil {Q : Bool → AS → Prop} (h : Q true a) : W c A (testsOf [] env) Q E a := fun s hs => wpAny_tests_nil ⟨_, hs, h⟩
theorem W_tests_one {e : Expr} {Q : Bool → AS → Prop} (h : W c A (isTrue e env (eval e env)) Q E a) : W c A (testsOf [e] env) Q E a := fun s hs => wpAny_tests_one (h s hs)
noncomputable def IterSelf (c : Cx) (A : Around) (cell : Nat → Cell) : Prop := ∀ {it i fs σ g} {Q : Value → AS → Prop} {E : Value → AS → Prop}, σ it = some (9, cell i) → Q (.ref it) ⟨fs, σ, g⟩ → W c A (pyIter (.ref it)) Q E ⟨fs, σ, g⟩
inductive CompI (c : Cx) (fs : List Frm) (g : Array GenState) (C : Addr) (x : Str) (N : Nat) (it D : Addr) (cell : Nat → Cell) (src : (Addr → Option (Nat × Cell)) → Prop) (J : Nat → List AV → (Addr → Option (Nat × Cell)) → Prop) (Cs : List Nat) (σ₀ : Addr → Option (Nat × Cell)) (n : Nat) (s' : Shared) : Prop
  | mk (i : Nat) (ys : List AV) (vx : Option AV) (σ : Addr → Option (Nat × Cell)) : St c ⟨⟨C, [], [x], [vx]⟩ :: fs, σ, g⟩ s' → n + i = N → σ it = some (9, cell i) → σ D = some (9, .list ys) → src σ → J i ys σ → Ext Cs σ₀ σ → CompI c fs g C x N it D cell src J Cs σ₀ n s'
theorem ite_of {p : Prop} [Decidable p] {a b : Prop} (hp : p) (h : if p then a else b) : a := by rwa [if_pos hp] at h
noncomputable def UseK (c : Cx) (A : Around) (fs : List Frm) (g : Array GenState) (x : Str) (Q : Value → AS → Prop) (E : Value → AS → Prop) (D C : Addr) (vx : List (Option AV)) (σ : Addr → Option (Nat × Cell)) : Option (Value → Sem Unit) → Prop
  | none => Q (.ref D) ⟨fs, σ, g⟩
  | some u => W c A (u (.ref D)) (fun _ a' => ∃ fs', a'.fs = ⟨C, [], [x], vx⟩ :: fs' ∧ Q .none ⟨fs', a'.σ, a'.gens⟩) E ⟨⟨C, [], [x], vx⟩ :: fs, σ, g⟩
theorem UseK.no {c : Cx} {A : Around} {fs : List Frm} {g : Array GenState} {x : Str} {Q : Value → AS → Prop} {E : Value → AS → Prop} {D C : Addr} {vx : List (Option AV)} {σ : Addr → Option (Nat × Cell)} (h : Q (.ref D) ⟨fs, σ, g⟩) : UseK c A fs g x Q E D C vx σ none := h
theorem CompK_loop {elt iter : Expr} {px : Pos} {ifs : List Expr} {pos : Pos} {use : Option (Value → Sem Unit)} {it : Addr} {vs : List AV} {src : (Addr → Option (Nat × Cell)) → Prop} {cell : Nat → Cell} {σ₀ σ₁ : Addr → Option (Nat × Cell)} {gs : List (Str × Value)} {Q : Value → AS → Prop}
    (h : CScope sc x gls caps) (hc : CapOk env cl caps) (hg : gs.map (·.1) = gls) (hglob : ∀ p ∈ gs, Glob c p.1 p.2) (hgl : env.globals = mainGlobals) (hbl : env.builtins = builtinsNs)
    (IO : IterOf c A vs k src cell) (IS : IterSelf c A cell) (Cs : List Nat) (h9 : 9 ∉ Cs) (hk : k ∉ Cs) (hk9 : k ≠ 9) (kd : Nat) (J : Nat → List AV → (Addr → Option (Nat × Cell)) → Prop)
    (stab : ∀ i ys σ σ', J i ys σ → Ext [9] σ σ' → J i ys σ') (hit : σ₀ it = none) (e₁ : σ₁ = upd σ₀ it (some (9, cell 0))) (hsrc : src σ₁) (hJ : J 0 [] σ₀)
    (hlen : ∀ i ys σ, J i ys σ → ys.length ≤ 1000000)
    (turn : ∀ C cenv i v σ ys, EnvOk c cenv C [] [x] gs → CapOk cenv cl caps → cenv.globals = mainGlobals → cenv.builtins = builtinsNs → J i ys σ → vs[i]? = some v → src σ → Ext Cs σ₀ σ →
      W c A (testsOf ifs cenv) (fun ok a' => if ok then W c A (eval elt cenv) (fun y a'' => ∃ σ', a'' = ⟨⟨C, [], [x], [some v]⟩ :: fs, σ', g⟩ ∧ Ext Cs σ σ' ∧ J (i + 1) (ys ++ [er y]) σ') (fun _ _ => False) a'
        else ∃ σ', a' = ⟨⟨C, [], [x], [some v]⟩ :: fs, σ', g⟩ ∧ Ext Cs σ σ' ∧ J (i + 1) ys σ') (fun _ _ => False) ⟨⟨C, [], [x], [some v]⟩ :: fs, σ, g⟩)
    (fin : ∀ D C vx ys σ, J vs.length ys σ → Ext Cs σ₀ σ → σ₀ D = none → σ D = some (kd, .list ys) → UseK c A fs g x Q E D C vx σ use) :
    CompK c A env elt iter x px ifs sc pos caps use (.ref it) Q E ⟨fs, σ₁, g⟩ := by
  intro s hs
  have hcellN : ∀ y ∈ sc.names, y.2 ≠ NameKind.cell := by
    intro p hp hk
    rw [h.names] at hp
    simp only [List.mem_cons, List.mem_append, List.mem_map] at hp
    rcases hp with rfl | rfl | ⟨y, _, rfl⟩ | ⟨y, hy, rfl⟩ <;> cases hk
  refine wpAny_newObj_type (hd := by size_fits) ?_
  have S1 := hs.alloc (k := 9) (cl := .list []) (o := { cls := .type "list", dict := none, data := .seq ([] : List Value).toArray }) ⟨#[], _, rfl, rfl⟩ rfl
  have fD := hs.fresh
  generalize hD : s.heap.objs.size = D at *
  refine wpAny_newFunctionEnv hcellN (by intro y hy; simp at hy) (fun h₁ hns₁ hsb₁ => ?_) h.kind
  dsimp only at hns₁ hsb₁ ⊢
  have fC := S1.fresh
  have S2 := S1.pushComp (ns := [x]) (vs := [none]) (tk := s.toks + 0) (by simpa using hns₁) (fun b o e => by
      have hb : b ≠ (s.heap.push { cls := .type "list", dict := none, data := .seq ([] : List Value).toArray }).objs.size := Nat.ne_of_lt (Heap.lt_size e)
      exact hsb₁.extBut b o hb (Heap.get?_push_of_some _ e)) (fun y => by rw [gv_cons]; exact ite_self _)
  dsimp only at fC S2
  generalize hC : (s.heap.push { cls := .type "list", dict := none, data := .seq ([] : List Value).toArray }).objs.size = C at *
  obtain ⟨EO, CO⟩ := h.envOk hc hg hglob hgl hbl (C := C)
  have ne1 : D ≠ it := fun q => by rw [q] at fD; rw [e₁] at fD; simp at fD
  have hσ₀D : σ₀ D = none := by have := fD.1; dsimp only at this; rw [e₁, upd_ne ne1] at this; exact this
  have Ex1 : Ext Cs σ₀ (upd σ₁ D (some (9, .list []))) := by rw [e₁]; exact (Ext.upd_new hit).trans (Ext.upd_new ((upd_ne ne1).trans hσ₀D))
  have Ex9 : Ext [9] σ₀ (upd σ₁ D (some (9, .list []))) := by rw [e₁]; exact (Ext.upd_new hit).trans (Ext.upd_new ((upd_ne ne1).trans hσ₀D))
  have loop : ∀ s₂, St c ⟨⟨C, [], [x], [none]⟩ :: fs, upd σ₁ D (some (9, .list [])), g⟩ s₂ → codeAny (model c.prog c.w) A (.compLoop (.ListComp elt [⟨.Name x px, iter, ifs, 0⟩] sc pos) 0 (.ref it) (.ref D) (compEnvC sc (capCells env caps) C env))
      (compPost (model c.prog c.w) A (fun e s' => ∃ a', St c a' s' ∧ E e a') use (fun v s' => ∃ a', St c a' s' ∧ Q v a') (.ref D) C) s₂ := by
    intro s₂ hs₂
    refine codeAny_compLoop_tests (fun n s' => CompI c fs g C x vs.length it D cell src J Cs σ₀ n s') ?_ vs.length ?_
    · rintro n s' ⟨i, ys, vx, σ, hS, hn, hci, hcD, hsr, hj, hx⟩
      have off : ∀ z, Ext Cs σ₀ (upd σ it z) := fun z y k' cl' q1 q2 => by
        exact (upd_ne (ne_new q1 hit)).trans (hx y k' cl' q1 q2)
      cases n with
      | zero =>
        refine wpAny_mono (IO.fin (fs := ⟨C, [], [x], [vx]⟩ :: fs) (g := g) (Q := fun r a => r = none ∧ a = ⟨⟨C, [], [x], [vx]⟩ :: fs, upd σ it none, g⟩) (E := fun _ _ => False) hci hsr (by first | exact Nat.le_trans (by assumption) (by decide) | exact Nat.le_add_right .. | exact Nat.lt_succ_self _ | exact Nat.le_of_lt (by assumption) | lia) (fun σ' e' => ⟨rfl, by rw [e']⟩) s' hS) (fun r s₁ pq => ?_) fun _ _ z => (noE z).elim
        obtain ⟨a', hS1, er, ea⟩ := pq
        subst er ea
        have hi : i = vs.length := by lia
        subst hi
        have hcD' : upd σ it none D = some (9, .list ys) := (upd_ne ne1).trans hcD
        have hS2 := hS1.recolour (k' := kd) hcD'
        have X9 : Ext [9] (upd σ it none) (upd (upd σ it none) D (some (kd, .list ys))) := Ext.upd_own hcD' (by first | decide | simp)
        have Jf := stab _ _ _ _ (stab _ _ _ _ hj (Ext.upd_own (x := none) hci (by first | decide | simp))) X9
        have Xf : Ext Cs σ₀ (upd (upd σ it none) D (some (kd, .list ys))) := fun y k' cl' q1 q2 => by
          exact (upd_ne (ne_new q1 hσ₀D)).trans (off none y k' cl' q1 q2)
        have F := fin D C [vx] ys _ Jf Xf hσ₀D (by first | decide | simp)
        have NsC : ∃ m, s₁.heap.Ns C m := by obtain ⟨m, hn, _⟩ := hS2.fr _ (List.mem_cons_self ..); exact ⟨m, hn⟩
        cases use with
        | none =>
          obtain ⟨m, hn⟩ := NsC
          exact ⟨m, hn, fun h' hsb => ⟨_, hS2.popBut rfl hsb, F⟩⟩
        | some u =>
          refine wpAny_mono (F s₁ hS2) (fun _ s'' pq => ?_) fun _ _ e => e
          obtain ⟨a', hS3, fs', e', q⟩ := pq
          obtain ⟨fs2, σ2, g2⟩ := a'
          dsimp only at e' q
          subst e'
          obtain ⟨m, hn, _⟩ := hS3.fr _ (List.mem_cons_self ..)
          exact ⟨m, hn, fun h' hsb => ⟨_, hS3.popBut rfl hsb, q⟩⟩
      | succ n =>
        have hi : i < vs.length := by lia
        refine wpAny_mono (IO.item (fs := ⟨C, [], [x], [vx]⟩ :: fs) (g := g) (Q := fun r a => ∃ u, r = some u ∧ er u = vs[i] ∧ a = ⟨⟨C, [], [x], [vx]⟩ :: fs, upd σ it (some (9, cell (i + 1))), g⟩) (E := fun _ _ => False) hci hsr (v := vs[i]) (by simp [hi]) (fun σ' u e' eu => ⟨u, rfl, eu, by rw [e']⟩) s' hS) (fun r s₁ pq => ?_) fun _ _ z => (noE z).elim
        obtain ⟨a', hS1, u, er', eu, ea⟩ := pq
        subst er' ea
        have J1 := stab _ _ _ _ hj (Ext.upd_own (x := some (9, cell (i + 1))) hci (by first | decide | simp))
        have hcD' : upd σ it (some (9, cell (i + 1))) D = some (9, .list ys) := (upd_ne ne1).trans hcD
        refine wpAny_assign_Name (wpAny_mono (W_storeName (u := u) (vs' := [some (er u)]) (Q := fun _ a => a = ⟨⟨C, [], [x], [some (er u)]⟩ :: fs, upd σ it (some (9, cell (i + 1))), g⟩) (E := fun _ _ => False) EO .here rfl s₁ hS1) (fun _ s₂ pq => ?_) fun _ _ z => (noE z).elim)
        obtain ⟨a', hS2, ea⟩ := pq
        subst ea
        rw [eu] at hS2
        refine wpAny_mono (turn C _ i vs[i] _ ys EO CO hgl hbl J1 (by simp [hi]) (IO.keep hsr hci) (off _) s₂ hS2) (fun ok s₃ pq => ?_) fun _ _ z => (noE z).elim
        obtain ⟨a', hS3, q⟩ := pq
        cases ok with
        | false =>
          obtain ⟨σ', rfl, x1, x2⟩ := q
          refine ite_f Bool.false_ne_true ?_
          exact ⟨n, Nat.lt_succ_self n, i + 1, ys, _, σ', hS3, (Nat.add_right_comm n i 1).trans hn, x1 it 9 _ upd_self h9, x1 D 9 _ hcD' h9, IO.ext hk x1 (IO.keep hsr hci), x2, (off _).trans x1⟩
        | true =>
          refine ite_t rfl ?_
          refine wpAny_mono (ite_of rfl q s₃ hS3) (fun y s₄ pq => ?_) fun _ _ z => (noE z).elim
          obtain ⟨a', hS4, σ', ea, x1, x2⟩ := pq
          subst ea
          have hcD2 : σ' D = some (9, .list ys) := x1 D 9 _ hcD' h9
          have hci2 : σ' it = some (9, cell (i + 1)) := x1 it 9 _ (by first | decide | simp) h9
          have hl := hlen _ _ _ x2
          refine wpAny_mono (W_append (E := fun _ _ => False) (u := y) (Q := fun _ a => a = ⟨⟨C, [], [x], [some vs[i]]⟩ :: fs, upd σ' D (some (9, .list (ys ++ [er y]))), g⟩) hcD2 (by simp at hl; lia) (fun σ2 e2 => by rw [e2]) s₄ hS4) (fun _ s₅ pq => ?_) fun _ _ z => (noE z).elim
          obtain ⟨a', hS5, ea⟩ := pq
          subst ea
          refine ⟨n, Nat.lt_succ_self n, i + 1, _, _, _, hS5, (Nat.add_right_comm n i 1).trans hn, (upd_ne (Ne.symm ne1)).trans hci2, upd_self, ?_, stab _ _ _ _ x2 (Ext.upd_own hcD2 (by decide)), ?_⟩
          · exact IO.ext (C := [9]) (by simpa using hk9) (Ext.upd_own hcD2 (by first | decide | simp)) (IO.ext hk x1 (IO.keep hsr hci))
          · exact fun y k' cl' q1 q2 => by
              exact (upd_ne (ne_new q1 hσ₀D)).trans (((off _).trans x1) y k' cl' q1 q2)
    · exact ⟨0, [], none, _, hs₂, by lia, by rw [upd_ne (Ne.symm ne1), e₁]; simp, by simp, IO.ext (C := []) (by first | decide | simp) (Ext.upd_new fD.1) hsrc, stab _ _ _ _ hJ Ex9, Ex1⟩
  refine codeAny_compStart_list (loop _ S2) (wpAny_mono (IS (i := 0) (Q := fun v a => v = .ref it ∧ a = ⟨⟨C, [], [x], [none]⟩ :: fs, upd σ₁ D (some (9, .list [])), g⟩) (E := fun _ _ => False) (by rw [upd_ne (Ne.symm ne1), e₁]; simp) ⟨rfl, rfl⟩ _ S2) (fun v s' pq => ?_) fun _ _ z => (noE z).elim)
  obtain ⟨a', hS, ev, ea⟩ := pq
  subst ev ea
  exact loop _ hS
end
end Mine.Internal
namespace Mine.Internal
open PySem PySem.W PyProof.Rows PySem.Calls PySem.F
theorem upd_back {σ : Addr → Option (Nat × Cell)} {l : Addr} {x} (h : σ l = none) : upd (upd σ l x) l none = σ := by
  funext y
  by_cases e : y = l
  · subst e; simp [h]
  · simp [upd, e]
theorem upd_upd {σ : Addr → Option (Nat × Cell)} {l : Addr} {x y} : upd (upd σ l x) l y = upd σ l y := by
  funext z
  by_cases e : z = l
  · subst e; simp
  · simp [upd, e]
section
variable {c : Cx} {A : Around} {E : Value → AS → Prop} {a : AS} {env : Env} {fs : List Frm} {σ : Addr → Option (Nat × Cell)} {g : Array GenState} {k : Nat}
theorem IterSelf.list {l : Addr} : IterSelf c A (iterCell "list_iterator" l) := fun h q s hs => wpAny_pyIter_listiter (listIter_of hs h) ⟨_, hs, q⟩
noncomputable def rangeCell (lo hi : Int) : Cell := .raw fun o => ∃ t u v, o = { cls := .type "range", dict := none, data := .fields #[.int lo t, .int hi u, .int 1 v], slots := #[] }
noncomputable def rangeIt (lo : Int) (n : Nat) (i : Nat) : Cell := .raw fun o => o = { cls := .type "range_iterator", dict := none, data := .fields #[rawInt (lo + i), rawInt ((n : Int) - i), rawInt 1], slots := #[] }
noncomputable def intsFrom (lo : Int) (n : Nat) : List AV := (List.range n).map fun (i : Nat) => AV.int (lo + i)
theorem W_range1 {n : Int} {t : Tok} {Q : Value → AS → Prop} (h : ∀ r, σ r = none → ∀ σ', σ' = upd σ r (some (9, rangeCell 0 n)) → Q (.ref r) ⟨fs, σ', g⟩) : W c A (call (.type "range") [.int n t]) Q E ⟨fs, σ, g⟩ := fun s hs => by
  refine call_range_1 ⟨_, (hs.alloc (k := 9) (cl := rangeCell 0 n) ⟨s.toks, t, s.toks + 1, rfl⟩ rfl).of_eq, h _ hs.fresh.1 _ rfl⟩
theorem W_iter_range {r : Addr} {m n : Int} {Q : Value → AS → Prop} (hr : σ r = some (k, rangeCell m n)) (h1 : -(2 ^ 62) ≤ m) (h2 : m < 2 ^ 62) (h3 : -(2 ^ 62) ≤ n) (h4 : n < 2 ^ 62)
    (h : ∀ it, σ it = none → ∀ σ', σ' = upd σ it (some (9, rangeIt m (n - m).toNat 0)) → Q (.ref it) ⟨fs, σ', g⟩) : W c A (pyIter (.ref r)) Q E ⟨fs, σ, g⟩ := fun s hs => by
  obtain ⟨⟨o, ho, t, u, v, rfl⟩, _⟩ := hs.own r k _ hr
  refine wpAny_pyIter_range ho (small_one h1 h2 h3 h4) ⟨_, hs.alloc (k := 9) (cl := rangeIt m (n - m).toNat 0) ?_ rfl, h _ hs.fresh.1 _ rfl⟩
  have : Builtin.Range.rangeSize m n 1 = (((n - m).toNat : Nat) : Int) - ((0 : Nat) : Int) := by rw [rangeSize_one]; split <;> lia
  show _ = _
  rw [this]; simp
theorem IterOf.range {lo : Int} {n : Nat} (hh : A.handled = none) : IterOf c A (intsFrom lo n) k (fun _ => True) (rangeIt lo n) where
  item := fun {it i v fs σ g Q E} hit _ hv h s hs => by
    have hi : i < n := by have := (List.getElem?_eq_some_iff.mp hv).1; simpa [intsFrom] using this
    have hv' : v = .int (lo + i) := by simpa [intsFrom, hi] using hv.symm
    subst hv'
    obtain ⟨⟨o, ho, rfl⟩, _⟩ := hs.own it 9 _ hit
    refine wpAny_pyNext_range_item ho (by first | exact Nat.le_trans (by assumption) (by decide) | exact Nat.le_add_right .. | exact Nat.lt_succ_self _ | exact Nat.le_of_lt (by assumption) | lia) (fun h' hi' hsb => ?_)
    refine ⟨_, (hs.put hit (fun b o q z => (hsb.2 b q).trans z) hi' (k' := 9) (cl' := rangeIt lo n (i + 1)) ?_).of_eq, h _ _ rfl rfl⟩
    show _ = _
    rw [show lo + (i : Int) + 1 = lo + ((i + 1 : Nat) : Int) by lia, show (n : Int) - (i : Int) - 1 = (n : Int) - ((i + 1 : Nat) : Int) by lia]
  fin := fun {it i fs σ g Q E} hit _ hi h s hs => by
    have hi : i = n := by simpa [intsFrom] using hi
    obtain ⟨⟨o, ho, rfl⟩, _⟩ := hs.own it 9 _ hit
    exact wpAny_pyNext_range_end hh ho (by first | exact Nat.le_trans (by assumption) (by decide) | exact Nat.le_add_right .. | exact Nat.lt_succ_self _ | exact Nat.le_of_lt (by assumption) | lia) (fun h' hx => ⟨_, hs.drop hit (fun b o q z => hx b o q z), h _ rfl⟩)
  keep := fun _ _ => trivial
  ext := fun _ _ _ => trivial
  own := fun {target it u i fs σ g Q E} h q s hs => by
    obtain ⟨⟨o, ho, rfl⟩, _⟩ := hs.own it 9 _ h
    exact own_tup (by decide) ho rfl rfl ⟨_, hs, q⟩
theorem IterSelf.range {lo : Int} {n : Nat} : IterSelf c A (rangeIt lo n) := fun {it i fs σ g Q E} h q s hs => by
  obtain ⟨⟨o, ho, rfl⟩, _⟩ := hs.own it 9 _ h
  exact wpAny_pyIter_rangeiter ho ⟨_, hs, q⟩
theorem notIterable_starry {l : Addr} {vs : List AV} {Q : Bool → AS → Prop} (h : Starry c a l vs) (q : Q false a) : W c A (notIterableAtAll (.ref l)) Q E a := fun s hs => by
  obtain ⟨T, us, n, o, hT, ho, hc, hd, e⟩ := starry_obj hs h
  unfold notIterableAtAll specialOf
  refine wpAny_bind (wpAny_bind (wpAny_typeOf ⟨_, ho, hc⟩ ?_))
  rcases hT with rfl | rfl
  · rw [PySem.F.slot_list_iter.lookup]; exact wpAny_pure (wpAny_pure ⟨_, hs, q⟩)
  · rw [PySem.F.slot_tuple_iter.lookup]; exact wpAny_pure (wpAny_pure ⟨_, hs, q⟩)
theorem W_draw {vs : List AV} {src : (Addr → Option (Nat × Cell)) → Prop} {cell : Nat → Cell} {it : Addr} (IO : IterOf c A vs k src cell) : ∀ (n i : Nat) (σ : Addr → Option (Nat × Cell)) (Q : List Value → AS → Prop), n + i = vs.length → σ it = some (9, cell i) → src σ →
    (∀ us σ', us.map er = vs.drop i → σ' = upd σ it (some (9, cell vs.length)) → src σ' → Q us ⟨fs, σ', g⟩) → W c A (draw (.ref it) n) Q E ⟨fs, σ, g⟩
  | 0, i, σ, Q, hn, hc, hs, h => by
    have : i = vs.length := by lia
    subst this
    have e : upd σ it (some (9, cell vs.length)) = σ := by funext y; by_cases q : y = it <;> simp [upd, q, hc]
    exact W_pure (h [] σ (by first | decide | simp) e.symm hs)
  | n + 1, i, σ, Q, hn, hc, hs, h => by
    have hi : i < vs.length := by lia
    unfold draw
    refine W_bind (IO.item hc hs (v := vs[i]) (by simp [hi]) (fun σ' u e eu => ?_))
    subst e
    refine W_bind (W_holding (W_draw IO n (i + 1) _ _ (by first | exact Nat.le_trans (by assumption) (by decide) | exact Nat.le_add_right .. | exact Nat.lt_succ_self _ | exact Nat.le_of_lt (by assumption) | lia) (by first | decide | simp) (IO.keep hs hc) fun us σ' e1 e2 e3 => W_pure (h _ _ ?_ ?_ e3)))
    · rw [List.map_cons, e1, eu]; rw [← List.getElem_cons_drop hi]
    · rw [e2, upd_upd]
theorem W_unpackItems {l : Addr} {vs : List AV} {Q : List Value → AS → Prop} {n : Nat} (hl : Starry c ⟨fs, σ, g⟩ l vs) (hn : vs.length = n) (hh : A.handled = none) (h : ∀ us, us.map er = vs → Q us ⟨fs, σ, g⟩) : W c A (unpackItems (.ref l) n none) Q E ⟨fs, σ, g⟩ := by
  unfold unpackItems
  refine W_bind (notIterable_starry hl ?_)
  simp only [Bool.false_eq_true, if_false]
  obtain ⟨k, hl | hl⟩ := hl <;> dsimp only at hl
  · refine W_bind (W_holding (W_iter_list hl fun it h0 σ' e => ?_))
    subst e
    have hsrc : upd σ it (some (9, iterCell "list_iterator" l 0)) l = some (k, .list vs) := (upd_ne (ne_new hl h0)).trans hl
    refine W_bind (W_holding (W_draw (IterOf.list (k := k) hh) n 0 _ _ (by first | exact Nat.le_trans (by assumption) (by decide) | exact Nat.le_add_right .. | exact Nat.lt_succ_self _ | exact Nat.le_of_lt (by assumption) | lia) (by first | decide | simp) hsrc fun us σ' e1 e2 e3 => ?_))
    have hlen : us.length = n := by have := congrArg List.length e1; simpa [hn] using this
    rw [if_neg (by first | exact Nat.le_trans (by assumption) (by decide) | exact Nat.le_add_right .. | exact Nat.lt_succ_self _ | exact Nat.le_of_lt (by assumption) | lia)]
    refine W_bind (W_holding ((IterOf.list (k := k) hh).fin (i := vs.length) (at_upd e2) e3 rfl fun σ'' e4 => ?_))
    simp only [Option.isSome_none, Bool.false_eq_true, if_false]
    refine W_pure ?_
    rw [e4, e2, upd_upd, upd_back h0]
    exact h us (by simpa using e1)
  · refine W_bind (W_holding (W_iter_tuple hl fun it h0 σ' e => ?_))
    subst e
    have hsrc : upd σ it (some (9, iterCell "tuple_iterator" l 0)) l = some (k, .tuple vs) := (upd_ne (ne_new hl h0)).trans hl
    refine W_bind (W_holding (W_draw (IterOf.tuple (k := k) hh) n 0 _ _ (by first | exact Nat.le_trans (by assumption) (by decide) | exact Nat.le_add_right .. | exact Nat.lt_succ_self _ | exact Nat.le_of_lt (by assumption) | lia) (by first | decide | simp) hsrc fun us σ' e1 e2 e3 => ?_))
    have hlen : us.length = n := by have := congrArg List.length e1; simpa [hn] using this
    rw [if_neg (by first | exact Nat.le_trans (by assumption) (by decide) | exact Nat.le_add_right .. | exact Nat.lt_succ_self _ | exact Nat.le_of_lt (by assumption) | lia)]
    refine W_bind (W_holding ((IterOf.tuple (k := k) hh).fin (i := vs.length) (at_upd e2) e3 rfl fun σ'' e4 => ?_))
    simp only [Option.isSome_none, Bool.false_eq_true, if_false]
    refine W_pure ?_
    rw [e4, e2, upd_upd, upd_back h0]
    exact h us (by simpa using e1)
theorem W_inOrder_nil {us : List Value} {Q : Unit → AS → Prop} (h : Q () a) : W c A (assignInOrder [] us) Q E a := by cases us <;> exact W_pure h
theorem W_inOrder_cons {t : Value → Sem Unit} {ts : List (Value → Sem Unit)} {u : Value} {us : List Value} {Q : Unit → AS → Prop} (h : W c A (t u) (fun _ a₁ => W c A (assignInOrder ts us) Q E a₁) E a) : W c A (assignInOrder (t :: ts) (u :: us)) Q E a :=
  W_bind (W_holding h)
theorem W_assign_Tuple {es : List Expr} {kk : Nat} {p : Pos} {l : Addr} {vs : List AV} {Q : Unit → AS → Prop} (hl : Starry c ⟨fs, σ, g⟩ l vs) (hn : vs.length = (assignEach es env).length) (hh : A.handled = none)
    (h : ∀ us, us.map er = vs → W c A (assignInOrder ((assignEach es env).map (·.2)) us) Q E ⟨fs, σ, g⟩) (hst : (assignEach es env).findIdx? (·.1) = none := by with_unfolding_all rfl) : W c A (assign (.Tuple es kk p) env (.ref l)) Q E ⟨fs, σ, g⟩ := by
  rw [arm_assign_Tuple]
  refine W_bind (W_standAt ?_)
  unfold unpack
  rw [hst]
  exact W_bind (W_holding (W_unpackItems hl hn hh h))
theorem W_floordiv {i j : Int} {t u : Tok} {Q : Value → AS → Prop} (hj : j ≠ 0) (hb : j.natAbs.log2 < 9000) (h : ∀ t, Q (.int (i.fdiv j) t) a) : W c A (binaryOp .FloorDiv (.int i t) (.int j u)) Q E a := fun s hs =>
  AutoIntOps.floordiv_1 (by simpa using hj) (by rw [PyProof.noPylong_of_log2 hb]; simp) ⟨a, hs.of_eq, h _⟩
theorem slice_tail {a : AS} {s : Shared} {kd : Nat} {f : Array Value} {us : List Value} {l : List AV} {Q : Value → AS → Prop} (h : St c a s) (e : us.map er = l) (q : ∀ D, a.σ D = none → ∀ σ', σ' = upd a.σ D (some (kd, .list l)) → Q (.ref D) ⟨a.fs, σ', a.gens⟩) :
    ∃ a', St c a' { s with heap := (s.heap.push { cls := .type "slice", data := .fields f }).push { cls := .type "list", data := .seq us.toArray } } ∧ Q (.ref (s.heap.objs.size + 1)) a' := by
  have S1 := h.grow (h' := s.heap.push { cls := .type "slice", data := .fields f }) fun b o e => Heap.get?_push_of_some _ e
  have S2 := S1.alloc (k := kd) (cl := .list l) (o := { cls := .type "list", data := .seq us.toArray }) ⟨_, 0, rfl, e⟩ rfl
  have hf := S1.fresh.1
  rw [Heap.size_push] at S2 hf
  exact ⟨_, S2, q _ hf _ rfl⟩
inductive SlAt (c : Cx) (kd : Nat) (Q : Value → AS → Prop) (vl vu o : Value) (a : AS) : Prop
  | mk (l : Addr) (vs res : List AV) (lo hi : Option Int) : o = .ref l → (∀ s, St c a s → ∃ us : Array Value, s.heap.IsList l us ∧ us.toList.map er = vs) → vs.length ≤ 1000000 → IsPart vl lo → IsPart vu hi → (∀ us : Array Value, us.toList.map er = vs → ∃ r : List Value, slicePick us lo hi none = r.toArray ∧ r.map er = res) →
      (∀ D, a.σ D = none → ∀ σ', σ' = upd a.σ D (some (kd, .list res)) → Q (.ref D) ⟨a.fs, σ', a.gens⟩) → SlAt c kd Q vl vu o a
theorem slOwn {a : AS} {l : Addr} {k : Nat} {vs : List AV} (h : a.σ l = some (k, .list vs)) : ∀ s, St c a s → ∃ us : Array Value, s.heap.IsList l us ∧ us.toList.map er = vs := fun s hs => (own_list hs h).elim fun us z => z.elim fun n z => ⟨us, isList_of z.1, z.2⟩
theorem SlAt.lo {kd : Nat} {Q : Value → AS → Prop} {a : AS} {l : Addr} {vs : List AV} {i : Int} {t : Tok} (hl : ∀ s, St c a s → ∃ us : Array Value, s.heap.IsList l us ∧ us.toList.map er = vs) (hz : vs.length ≤ 1000000) (h0 : 0 ≤ i) (hi : i.toNat ≤ vs.length)
    (q : ∀ D, a.σ D = none → ∀ σ', σ' = upd a.σ D (some (kd, .list (vs.drop i.toNat))) → Q (.ref D) ⟨a.fs, σ', a.gens⟩) : SlAt c kd Q (.int i t) .none (.ref l) a := by
  obtain ⟨j, rfl⟩ := Int.eq_ofNat_of_zero_le h0
  exact .mk l vs _ (some j) none rfl hl hz (.int j t) .none (fun us e => ⟨us.toList.drop j, slicePick_from us j (by rw [size_of e]; exact hi), by rw [List.map_drop, e]; rfl⟩) q
theorem SlAt.up {kd : Nat} {Q : Value → AS → Prop} {a : AS} {l : Addr} {vs : List AV} {i : Int} {t : Tok} (hl : ∀ s, St c a s → ∃ us : Array Value, s.heap.IsList l us ∧ us.toList.map er = vs) (hz : vs.length ≤ 1000000) (h0 : 0 ≤ i)
    (q : ∀ D, a.σ D = none → ∀ σ', σ' = upd a.σ D (some (kd, .list (vs.take i.toNat))) → Q (.ref D) ⟨a.fs, σ', a.gens⟩) : SlAt c kd Q .none (.int i t) (.ref l) a := by
  obtain ⟨j, rfl⟩ := Int.eq_ofNat_of_zero_le h0
  exact .mk l vs _ none (some j) rfl hl hz .none (.int j t) (fun us e => ⟨us.toList.take j, slicePick_upto' us j, by rw [List.map_take, e]; rfl⟩) q
theorem W_slice {kd : Nat} {value : Expr} {lo up : Option Expr} {p pos : Pos} {Q : Value → AS → Prop}
    (h : W c A (eval value env) (fun o a₁ => W c A (evalPart lo env) (fun vl a₂ => W c A (evalPart up env) (fun vu a₃ => SlAt c kd Q vl vu o a₃) E a₂) E a₁) E a)
    (ht : ∀ o r, letTemporaryGo value o r = pure () := by intro _ _; with_unfolding_all rfl) : W c A (eval (.Subscript value (.Slice lo up none p) pos) env) Q E a := fun s hs => by
  refine wpAny_Subscript_list_slice (wpAny_mono (h s hs) (fun o s₁ pq => pq.elim fun a₁ pq => ?_) fun _ _ x => x) ht
  refine wpAny_mono (pq.2 s₁ pq.1) (fun vl s₂ pq => pq.elim fun a₂ pq => ?_) fun _ _ x => x
  refine wpAny_mono (pq.2 s₂ pq.1) (fun vu s₃ pq => pq.elim fun a₃ pq => ?_) fun _ _ x => x
  obtain ⟨h3, l, vs, res, lo, hi, e1, hL, hz, p1, p2, hp, q⟩ := pq
  refine (hL s₃ h3).elim fun us z => (hp us z.2).elim fun r y => ⟨l, us, lo, hi, e1, z.1, ?_, p1, p2, ?_⟩
  · rw [size_of z.2]; exact sizeLine_big hz
  · rw [y.1]; exact slice_tail h3 y.2 q
theorem W_part_none {Q : Value → AS → Prop} (q : Q .none a) : W c A (evalPart none env) Q E a := fun s hs => wpAny_pure ⟨a, hs, q⟩
theorem W_slice_from {value lower : Expr} {p pos : Pos} {Q : Value → AS → Prop} (kd : Nat) (h : W c A (eval value env) (fun o a₁ => W c A (eval lower env) (fun vl a₂ => SlAt c kd Q vl .none o a₂) E a₁) E a)
    (ht : ∀ o r, letTemporaryGo value o r = pure () := by intro _ _; with_unfolding_all rfl) : W c A (eval (.Subscript value (.Slice (some lower) none none p) pos) env) Q E a :=
  W_slice (kd := kd) (W_mono h (fun _ _ h => W_mono h (fun _ _ q => W_part_none q) fun _ _ x => x) fun _ _ x => x) ht
theorem W_slice_to {value upper : Expr} {p pos : Pos} {Q : Value → AS → Prop} (kd : Nat) (h : W c A (eval value env) (fun o a₁ => W c A (eval upper env) (fun vl a₂ => SlAt c kd Q .none vl o a₂) E a₁) E a)
    (ht : ∀ o r, letTemporaryGo value o r = pure () := by intro _ _; with_unfolding_all rfl) : W c A (eval (.Subscript value (.Slice none (some upper) none p) pos) env) Q E a :=
  W_slice (kd := kd) (W_mono h (fun _ _ h => W_part_none h) fun _ _ x => x) ht
end
end Mine.Internal
namespace Mine.Internal
open PySem PySem.W PyProof.Rows PySem.Calls PySem.F
section
variable {c : Cx} {A : Around} {E : Value → AS → Prop} {a : AS} {env : Env} {fs : List Frm} {σ : Addr → Option (Nat × Cell)} {g : Array GenState} {k : Nat}
noncomputable def boundCell (f x : Addr) : Cell := .raw fun o => o = methodObj (.ref f) (.ref x)
structure BindOk (K : Frag) (C : Addr) (name : Str) (f : Addr) : Prop where
  get : plainGet K C name = true
  dict : hasDictIn K C = true
  find : findIn K (.ref C) name = some (some (.ref f))
  fn : isFn K (.ref f) = true
  gf : specialIn K (.ref f) "__get__" = some (some (.builtin "function.__get__"))
  takes : takesIn K (.ref f) = some false
  copied : copiedNames.contains name = false
theorem W_getBound {x C dx f : Addr} {sl : List (Option AV)} {k k' : Nat} {kvs : List (Str × AV)} {name : Str} {e : Bool} {Q : Value → AS → Prop} (hx : σ x = some (k, .inst C dx sl)) (hd : σ dx = some (k', .attrs kvs))
    (hg : BindOk c.K C name f) (hv : name ∉ kvs.map (·.1)) (h : ∀ m, σ m = none → ∀ σ', σ' = upd σ m (some (9, boundCell f x)) → Q (.ref m) ⟨fs, σ', g⟩) : W c A (getAttr (.ref x) name e) Q E ⟨fs, σ, g⟩ := by
  intro s hs
  obtain ⟨ox, es, n, I, _, _, _, hf', _⟩ := inst_at hs hx hd
  have X : c.K.In s.heap := c.inK.keeps hs.keep
  refine get_bind X I (plainGet_of hg.get).1 (findObj_fn hg.dict hg.find hg.gf hg.takes hg.copied (by show lookIn name (dictOf es n) = _; rw [lookIn_dict, getL_none hf' hv])) (plainGet_of hg.get).2
    (wpAny_call (fn_get (s := { s with toks := s.toks + 1 }) X (beq_iff_eq.mp hg.fn) (handed_on rfl ?_)))
  exact ⟨_, (hs.alloc (k := 9) (cl := boundCell f x) rfl rfl).of_eq, h _ hs.fresh.1 _ rfl⟩
theorem Kp.bound {m f x : Addr} {o : Obj} {fd : FuncData} (hm : a.σ m = some (k, boundCell f x)) (ho : c.K.lookup f = some o) (hd : o.data = .func fd) : Kp c (.ref m) a := fun s hs => by
  obtain ⟨⟨om, hom, e⟩, _⟩ := hs.own m k _ hm
  have e' : om = methodObj (.ref f) (.ref x) := e
  subst e'
  have hof := (c.inK.keeps hs.keep) _ _ ho
  refine ⟨.boundFrame, fun A Q E s' kk q => ?_⟩
  unfold keeperOf
  refine wpAny_bind (wpAny_load (kk _ _ hom) ?_)
  show wpAny _ _ (load f >>= _) _ _ _
  refine wpAny_bind (wpAny_load (kk _ _ hof) ?_)
  rw [hd]
  exact wpAny_pure q
theorem Wk_bound {m f x : Addr} {args : List Value} {kw : List (Str × Value)} {R : Result → AS → Prop} (hm : a.σ m = some (k, boundCell f x)) (h : Wk c A (.call (.ref f) ⟨.ref x :: args, kw⟩) R a) : Wk c A (.call (.ref m) ⟨args, kw⟩) R a := fun s hs => by
  obtain ⟨⟨om, hom, e⟩, _⟩ := hs.own m k _ hm
  have e' : om = methodObj (.ref f) (.ref x) := e
  subst e'
  exact method_call hom (h s hs)
theorem W_isnot_bool {b b' : Bool} {Q : Value → AS → Prop} (h : Q (.bool (!(b == b'))) a) : W c A (compareOp .IsNot (.bool b) (.bool b')) Q E a := by
  cases b <;> cases b' <;> exact W_pure h
theorem W_Delete_Sub {o i : Expr} {p pos : Pos} {Q : Flow → AS → Prop} (h : W c A (eval o env) (fun ov a₁ => W c A (eval i env) (fun iv a₂ => W c A (delItem ov iv) (fun _ => Q .next) E a₂) E a₁) E a) : W c A (exec (.Delete [.Subscript o i p] pos) env) Q E a := by
  show W c A (standAt pos >>= _) Q E a
  refine W_bind (W_standAt (W_bind ?_))
  show W c A (delete (.Subscript o i p) env >>= fun _ => pure ()) _ E a
  refine W_bind ?_
  show W c A (eval o env >>= _) _ E a
  refine W_bind (W_mono h (fun ov a₁ q => W_bind (W_holding (W_mono q (fun iv a₂ q => W_bind (W_standAt (W_bind (W_holding (W_mono q (fun _ a₃ q => ?_) fun _ _ x => x))))) fun _ _ x => x))) fun _ _ x => x)
  intro s hs Γ p' hΓ
  rw [Sem.wp_release]
  exact ⟨a₃, hs, W_pure (W_pure q)⟩
theorem W_Call_Sub {o i : Expr} {p pos : Pos} {args : List Expr} {Q : Value → AS → Prop}
    (h : W c A (eval (.Subscript o i p) env) (fun f a₁ => W c A (callWith pos f [] (backTo pos (starEach args env)) []) Q E a₁) E a) : W c A (eval (.Call (.Subscript o i p) args [] pos) env) Q E a := by
  show W c A (eval (.Subscript o i p) env >>= _) Q E a
  exact W_bind h
theorem W_iadd {i j : Int} {t u : Tok} {Q : Value → AS → Prop} (h : ∀ t, Q (.int (i + j) t) a) : W c A (inplaceOp .Add (.int i t) (.int j u)) Q E a := fun s hs => AutoIntOps.iadd_0 ⟨a, hs.of_eq, h _⟩
theorem W_isub {i j : Int} {t u : Tok} {Q : Value → AS → Prop} (h : ∀ t, Q (.int (i - j) t) a) : W c A (inplaceOp .Sub (.int i t) (.int j u)) Q E a := fun s hs => AutoIntOps.isub_0 ⟨a, hs.of_eq, h _⟩
theorem preSum_list (l : List Int) : ∀ j, preSum (fun i => l.getD i 0) j = (l.take j).sum := PyProof.Rows.preSum_getD l
theorem W_sum {l : Addr} {is : List Int} {Q : Value → AS → Prop} (hh : A.handled = none) (hl : a.σ l = some (k, .list (is.map AV.int))) (h : ∀ t, Q (.int is.sum t) a) : W c A (call (.builtin "sum") [.ref l]) Q E a := fun s hs => by
  obtain ⟨us, n, ho, e⟩ := own_list hs hl
  have hsz : us.size = is.length := by have := size_of e; simpa using this
  have hlt : l < s.heap.objs.size := Heap.lt_size ho
  refine call_sum_walkG (wpAny_pyIter_list (isList_of ho) ?_)
  refine ⟨_, _, _, us.size, _, _, fun i => is.getD i 0, rfl, Walks.list (A := A.in1) hh s.heap.objs.size l (Nat.ne_of_lt hlt) us, ⟨⟨_, Heap.get?_push_size _ rfl, rfl, rfl⟩, (isList_of ho).push _⟩, ?_, ?_, ?_⟩
  · intro b hb
    dsimp only
    rw [Heap.size_push]
    simp only [List.mem_cons, List.not_mem_nil, or_false] at hb
    rcases hb with rfl | rfl
    · exact Nat.lt_succ_self _
    · exact Nat.lt_succ_of_lt hlt
  · intro i v hv
    have : (us.toList.map er)[i]? = some (er v) := by rw [List.getElem?_map, Array.getElem?_toList, hv]; rfl
    rw [e, List.getElem?_map] at this
    cases q : is[i]? with
    | none => rw [q] at this; cases this
    | some j =>
      rw [q] at this
      obtain ⟨t, ht⟩ := er_int (Option.some.inj this).symm
      exact ⟨t, by rw [ht]; simp [List.getD_eq_getElem?_getD, q]⟩
  · intro h' tk t' kk
    rw [preSum_list, hsz, List.take_length]
    refine ⟨a, (hs.grow (h' := h') fun b o e => kk b o (fun q => ?_) (Heap.get?_push_of_some _ e)).of_eq, h _⟩
    simp only [List.mem_cons, List.not_mem_nil, or_false] at q
    rw [q] at e
    exact absurd (Heap.lt_size e) (Nat.lt_irrefl _)
end
end Mine.Internal
namespace Mine.Internal
open PySem PySem.W PyProof.Rows PySem.Calls PySem.F
section
variable {c : Cx} {A : Around} {E : Value → AS → Prop} {a : AS} {env : Env} {fs : List Frm} {σ : Addr → Option (Nat × Cell)} {g : Array GenState} {k : Nat}
theorem W_neg {i : Int} {t : Tok} {Q : Value → AS → Prop} (h : ∀ t, Q (.int (-i) t) a) : W c A (unaryOp .USub (.int i t)) Q E a := fun s hs => P.neg_int ⟨a, hs.of_eq, h _⟩
theorem W_truthy_none {Q : Bool → AS → Prop} (h : Q false a) : W c A (truthy .none) Q E a := fun s hs _ _ _ => ⟨a, hs, h⟩
theorem W_Joined1 {v : Expr} {pos : Pos} {Q : Value → AS → Prop} (h : W c A (eval v env) Q E a) : W c A (eval (.JoinedStr [v] pos) env) Q E a := fun s hs => wpAny_JoinedStr_one (h s hs)
theorem IterSelf.dictValues {D : Addr} {n ep : Nat} : IterSelf c A (iterCell4 "dict_valueiterator" D n ep) := fun {it i fs σ g Q E} h q s hs => by
  obtain ⟨⟨o, ho, hc, hd⟩, _⟩ := hs.own it 9 _ h
  exact wpAny_pyIter_valiter (d := D) (i := i) (n := n) (ep := ep) ⟨o, ho, hc, hd⟩ ⟨_, hs, q⟩
theorem CapOk.nil {cl : List (Str × Addr)} (hk : env.scope.kind = .function) : CapOk env cl [] := ⟨hk, fun _ h => by cases h⟩
noncomputable def recol (f : Nat → Nat) (σ : Addr → Option (Nat × Cell)) : Addr → Option (Nat × Cell) := fun x => (σ x).map fun p => (f p.1, p.2)
theorem St.recol {s : Shared} (f : Nat → Nat) (h : St c ⟨fs, σ, g⟩ s) : St c ⟨fs, recol f σ, g⟩ s :=
  ⟨h.keep, h.fr, h.nb, h.nd, fun x k cl e => by
    obtain ⟨p, h1, h2⟩ := map_some_of e
    cases h2
    exact h.own x p.1 p.2 h1, h.os, h.gens⟩
theorem W_recol {α : Type} {t : Sem α} {Q : α → AS → Prop} (f : Nat → Nat) (h : W c A t Q E ⟨fs, recol f σ, g⟩) : W c A t Q E ⟨fs, σ, g⟩ := fun s hs => h s (hs.recol f)
noncomputable def fk (k n : Nat) : Nat := if n = k then 0 else n
theorem Ext.recolk {C : List Nat} {k : Nat} (h : k ∈ C) : Ext C σ (recol (fk k) σ) := fun x k' cl e n => by
  have : fk k k' = k' := by unfold fk; rw [if_neg (fun (z : k' = k) => n (by rw [z]; exact h))]
  show (σ x).map _ = _
  rw [e]; simp [this]
theorem recolk_at {x : Addr} {k : Nat} {cl : Cell} (h : σ x = some (k, cl)) : recol (fk k) σ x = some (0, cl) := by
  show (σ x).map _ = _
  rw [h]; simp [fk]
theorem recolk_ne {x : Addr} {k k' : Nat} {cl : Cell} (h : σ x = some (k', cl)) (hn : k' ≠ k) : recol (fk k) σ x = some (k', cl) := by
  show (σ x).map _ = _
  rw [h]; simp [fk, hn]
noncomputable def fz (σ : Addr → Option (Nat × Cell)) : Addr → Option (Nat × Cell) := fun x => match σ x with
  | some (0, cl) => some (0, cl)
  | _ => none
theorem fz_iff {x : Addr} {k : Nat} {cl : Cell} : fz σ x = some (k, cl) ↔ k = 0 ∧ σ x = some (0, cl) := by
  show (match σ x with | some (0, cl) => some (0, cl) | _ => none) = some (k, cl) ↔ _
  generalize σ x = y
  cases y with
  | none => exact ⟨(nomatch ·), fun z => (nomatch z.2)⟩
  | some p =>
    obtain ⟨k', cl'⟩ := p
    cases k' with
    | zero => exact ⟨fun e => by cases e; exact ⟨rfl, rfl⟩, fun e => by rw [e.1]; exact e.2⟩
    | succ n => exact ⟨(nomatch ·), fun z => (nomatch z.2)⟩
noncomputable def Dz (σ : Addr → Option (Nat × Cell)) (v : AV) (d : PyData) : Prop := RdV (fz σ) v d
noncomputable def DzL (σ : Addr → Option (Nat × Cell)) (v : List AV) (d : List PyData) : Prop := RdL (fz σ) v d
theorem fz_ext {C : List Nat} {σ' : Addr → Option (Nat × Cell)} (e : Ext C σ σ') (h0 : 0 ∉ C) : Ext [] (fz σ) (fz σ') := fun x k cl h _ => by
  obtain ⟨rfl, h1⟩ := fz_iff.mp h
  exact fz_iff.mpr ⟨rfl, e _ _ _ h1 h0⟩
theorem Dz.ext {C : List Nat} {σ' : Addr → Option (Nat × Cell)} {v : AV} {d : PyData} (h : Dz σ v d) (e : Ext C σ σ') (h0 : 0 ∉ C) : Dz σ' v d := RdV.ext (fz_ext e h0) h
theorem Dz.rd {v : AV} {d : PyData} (h : Dz σ v d) : RdV σ v d := RdV.ext (fun x k cl h _ => (fz_iff.mp h).1 ▸ (fz_iff.mp h).2) h
theorem Dz.list {l : Addr} {vs : List AV} {ds : List PyData} (h : σ l = some (0, .list vs)) (q : DzL σ vs ds) : Dz σ (.ref l) (.list ds) := RdV.list (fz_iff.mpr ⟨rfl, h⟩) q
theorem Dz.tuple {l : Addr} {vs : List AV} {ds : List PyData} (h : σ l = some (0, .tuple vs)) (q : DzL σ vs ds) : Dz σ (.ref l) (.tuple ds) := RdV.tuple (fz_iff.mpr ⟨rfl, h⟩) q
theorem DzL.nil : DzL σ [] [] := RdL.nil
theorem DzL.cons {v : AV} {vs : List AV} {d : PyData} {ds : List PyData} (h : Dz σ v d) (q : DzL σ vs ds) : DzL σ (v :: vs) (d :: ds) := RdL.cons h q
end
end Mine.Internal
namespace Mine.Internal
open PySem PySem.W PyProof.Rows PySem.Calls PySem.F
structure Nx (c : Cx) (A : Around) (rest : List Stmt) (env : Env) (Q : Flow → AS → Prop) (E : Value → AS → Prop) (P : Flow → AS → Prop) : Prop where
  nx : ∀ a, W c A (execs rest env) Q E a → P .next a
  br : ∀ a, Q .brk a → P .brk a
  co : ∀ a, Q .cont a → P .cont a
  re : ∀ v a, Q (.ret v) a → P (.ret v) a
structure Fx (fs : List Frm) (Q : Value → AS → Prop) (P : Flow → AS → Prop) : Prop where
  nx : ∀ f σ g, Q .none ⟨fs, σ, g⟩ → P .next ⟨f :: fs, σ, g⟩
  re : ∀ v f σ g, Q v ⟨fs, σ, g⟩ → P (.ret v) ⟨f :: fs, σ, g⟩
structure Ux (L : Addr) (fs : List Frm) (E P : Value → AS → Prop) : Prop where
  ex : ∀ e t cls args tb cl ns vs σ g, Exc σ e t cls args tb → (∀ σ' T, Ext [8] σ σ' → Exc σ' e t cls args (some T) → E (.ref e) ⟨fs, σ', g⟩) → P (.ref e) ⟨⟨L, cl, ns, vs⟩ :: fs, σ, g⟩
structure Lx (L : Addr) (cl : List (Str × Addr)) (ns : List Str) (fs : List Frm) (g : Array GenState) (C : List Nat) (σ : Addr → Option (Nat × Cell)) (J : List (Option AV) → (Addr → Option (Nat × Cell)) → Prop) (R : Result → AS → Prop) (P : Flow → AS → Prop) : Prop where
  nx : ∀ vv σ', Ext C σ σ' → J vv σ' → P .next ⟨⟨L, cl, ns, vv⟩ :: fs, σ', g⟩
  co : ∀ vv σ', Ext C σ σ' → J vv σ' → P .cont ⟨⟨L, cl, ns, vv⟩ :: fs, σ', g⟩
  br : ∀ a, R (.ok .next) a → P .brk a
  re : ∀ v a, R (.ok (.ret v)) a → P (.ret v) a
structure Wx (I : AS → Prop) (Q : Flow → AS → Prop) (P : Flow → AS → Prop) : Prop where
  nx : ∀ a, I a → P .next a
  co : ∀ a, I a → P .cont a
  br : ∀ a, Q .next a → P .brk a
  re : ∀ v a, Q (.ret v) a → P (.ret v) a
section
variable {c : Cx} {A : Around} {E : Value → AS → Prop} {a : AS} {env : Env} {fs : List Frm} {σ : Addr → Option (Nat × Cell)} {g : Array GenState} {k : Nat} {d : Nat}
theorem W_consG {st : Stmt} {rest : List Stmt} {Q : Flow → AS → Prop} (h : ∀ P, Nx c A rest env Q E P → W c A (exec st env) P E a) : W c A (execs (st :: rest) env) Q E a :=
  W_cons (h _ ⟨fun _ h => h, fun _ h => h, fun _ h => h, fun _ _ h => h⟩)
theorem W_cutG {t : Sem Flow} {Q : Flow → AS → Prop} (P : Flow → AS → Prop) (h1 : ∀ P', (∀ f a', P f a' → P' f a') → W c A t P' E a) (h2 : ∀ f a', P f a' → Q f a') : W c A t Q E a :=
  W_mono (h1 P fun _ _ h => h) h2 (fun _ _ x => x)
theorem W_cutN {t : Sem Flow} {Q : Flow → AS → Prop} (P : AS → Prop) (h1 : ∀ P', (∀ a', P a' → P' Flow.next a') → W c A t P' E a) (h2 : ∀ a', P a' → Q .next a') : W c A t Q E a :=
  W_mono (h1 (fun f a' => f = .next ∧ P a') fun _ h => ⟨rfl, h⟩) (fun f a' q => q.1 ▸ h2 a' q.2) (fun _ _ x => x)
theorem Wk_call_GD {K : Frag} {f : Addr} {ps rs ns : List Str} {gs : List (Str × Value)} {args vals : List Value} {us : List AV} {vs : List (Option AV)} {R : Result → AS → Prop}
    (hK : c.K = K) (hf : FnOk K f ps rs (gs.map (·.1))) (hns : ns = ps ++ rs) (hbind : ∀ s : Shared, K.In s.heap → BindsTo s (fdOf K f) ⟨args, []⟩ (ps.zip vals)) (hu : vals.map er = us) (hi : Init ps us rs vs) (hglob : ∀ p ∈ gs, Glob c p.1 p.2) (hA : AOk A fs (d + 1))
    (h : ∀ L env B P X, env.frame = some L → B.handled = none → σ L = none → AOk B (⟨L, [], ns, vs⟩ :: fs) d → (∃ outer, B.frames = some (env :: outer)) → EnvOk c env L [] ns gs → Fx fs (fun v => R (.ok (.ret v))) P → Ux L fs (fun e => R (.error e)) X →
      W c B (execs (bodyOf (fdOf K f)) env) P X ⟨⟨L, [], ns, vs⟩ :: fs, σ, g⟩) :
    Wk c A (.call (.ref f) ⟨args, []⟩) R ⟨fs, σ, g⟩ := by
  refine Wk_call_KD hK hf hns hbind hu hi hglob hA fun L env he hL hA' hE => ?_
  have hfr : env.frame = some L := by rw [he]; rfl
  have ho := hA.head env
  refine h L env _ _ _ hfr hA'.handled hL hA' ho hE ⟨fun _ _ _ q => Pop.mk q, fun _ _ _ _ q => Pop.mk q⟩ ⟨fun e t cls ar tb cl ns' vs' σ1 g1 hx q => ?_⟩
  obtain ⟨outer, ho⟩ := ho
  exact W_leaving (hA'.pop fun f hf => (List.mem_cons.mp hf).elim (fun z => ⟨⟨L, cl, ns', vs'⟩, List.mem_cons_self .., by rw [z]⟩) fun z => ⟨f, List.mem_cons_of_mem _ z, rfl⟩).link ho hfr hx fun σ' T x1 x2 => Pop.mk (q σ' T x1 x2)
theorem Wk_call_G {K : Frag} {f : Addr} {ps rs ns : List Str} {gs : List (Str × Value)} {args : List Value} {us : List AV} {vs : List (Option AV)} {R : Result → AS → Prop}
    (hK : c.K = K) (hf : FnOk K f ps rs (gs.map (·.1))) (hns : ns = ps ++ rs) (hbind : bindArgs (fdOf K f) ⟨args, []⟩ = pure (ps.zip args)) (hu : args.map er = us) (hi : Init ps us rs vs) (hglob : ∀ p ∈ gs, Glob c p.1 p.2) (hA : AOk A fs (d + 1))
    (h : ∀ L env B P X, env.frame = some L → B.handled = none → σ L = none → AOk B (⟨L, [], ns, vs⟩ :: fs) d → (∃ outer, B.frames = some (env :: outer)) → EnvOk c env L [] ns gs → Fx fs (fun v => R (.ok (.ret v))) P → Ux L fs (fun e => R (.error e)) X →
      W c B (execs (bodyOf (fdOf K f)) env) P X ⟨⟨L, [], ns, vs⟩ :: fs, σ, g⟩) :
    Wk c A (.call (.ref f) ⟨args, []⟩) R ⟨fs, σ, g⟩ := Wk_call_GD hK hf hns (fun _ _ => .of_eq hbind) hu hi hglob hA h
theorem W_call_G {K : Frag} {f : Addr} {ps rs ns : List Str} {gs : List (Str × Value)} {args : List Value} {us : List AV} {vs : List (Option AV)} {Q : Value → AS → Prop}
    (hK : c.K = K) (hf : FnOk K f ps rs (gs.map (·.1))) (hns : ns = ps ++ rs) (hbind : bindArgs (fdOf K f) ⟨args, []⟩ = pure (ps.zip args)) (hu : args.map er = us) (hi : Init ps us rs vs) (hglob : ∀ p ∈ gs, Glob c p.1 p.2) (hA : AOk A fs (d + 1))
    (h : ∀ L env B P X, env.frame = some L → B.handled = none → σ L = none → AOk B (⟨L, [], ns, vs⟩ :: fs) d → (∃ outer, B.frames = some (env :: outer)) → EnvOk c env L [] ns gs → Fx fs Q P → Ux L fs E X →
      W c B (execs (bodyOf (fdOf K f)) env) P X ⟨⟨L, [], ns, vs⟩ :: fs, σ, g⟩) :
    W c A (call (.ref f) args) Q E ⟨fs, σ, g⟩ := W_call (Wk_call_G hK hf hns hbind hu hi hglob hA h)
theorem Wk_call_GS {K : Frag} {f : Addr} {ps rs ns : List Str} {gs : List (Str × Value)} {pre rest : List Value} {us : List AV} {vs : Addr → List (Option AV)} {R : Result → AS → Prop}
    (hK : c.K = K) (hf : FnOk K f ps rs (gs.map (·.1))) (hns : ns = ps ++ rs) (hbind : bindArgs (fdOf K f) ⟨pre ++ rest, []⟩ = (do let t ← newTuple rest; pure (ps.zip (pre ++ [t])))) (hu : pre.map er = us)
    (hi : ∀ t, Init ps (us ++ [.ref t]) rs (vs t)) (hglob : ∀ p ∈ gs, Glob c p.1 p.2) (hA : AOk A fs (d + 1)) (hz : rest.length ≤ 1000000)
    (h : ∀ L env t σ' B P X, env.frame = some L → B.handled = none → σ t = none → σ' = upd σ t (some (0, .tuple (rest.map er))) → σ' L = none → AOk B (⟨L, [], ns, vs t⟩ :: fs) d → (∃ outer, B.frames = some (env :: outer)) → EnvOk c env L [] ns gs →
      Fx fs (fun v => R (.ok (.ret v))) P → Ux L fs (fun e => R (.error e)) X → W c B (execs (bodyOf (fdOf K f)) env) P X ⟨⟨L, [], ns, vs t⟩ :: fs, σ', g⟩) :
    Wk c A (.call (.ref f) ⟨pre ++ rest, []⟩) R ⟨fs, σ, g⟩ := by
  refine Wk_call_KS hK hf hns hbind hu hi hglob hA hz fun L env t σ' he ht e1 hL hA' hE => ?_
  have hfr : env.frame = some L := by rw [he]; rfl
  have ho := hA.head env
  refine h L env t σ' _ _ _ hfr hA'.handled ht e1 hL hA' ho hE ⟨fun _ _ _ q => Pop.mk q, fun _ _ _ _ q => Pop.mk q⟩ ⟨fun e t cls ar tb cl ns' vs' σ1 g1 hx q => ?_⟩
  obtain ⟨outer, ho⟩ := ho
  exact W_leaving (hA'.pop fun f hf => (List.mem_cons.mp hf).elim (fun z => ⟨⟨L, cl, ns', vs'⟩, List.mem_cons_self .., by rw [z]⟩) fun z => ⟨f, List.mem_cons_of_mem _ z, rfl⟩).link ho hfr hx fun σ' T x1 x2 => Pop.mk (q σ' T x1 x2)
theorem W_call_GC {K : Frag} {f : Addr} {nk : List (Str × Bool)} {ps rs ns : List Str} {gs : List (Str × Value)} {args : List Value} {us : List AV} {vs : List (Option AV)} {Q : Value → AS → Prop}
    (hK : c.K = K) (hf : FnOkC K f nk (gs.map (·.1))) (hnk : nk.map (·.1) = ps ++ rs) (hns : ns = ps ++ rs) (hbind : bindArgs (fdOf K f) ⟨args, []⟩ = pure (ps.zip args)) (hu : args.map er = us) (hi : Init ps us rs vs) (hglob : ∀ p ∈ gs, Glob c p.1 p.2) (hA : AOk A fs (d + 1))
    (h : ∀ L cl env B P X, env.globals = mainGlobals → env.builtins = builtinsNs → env.frame = some L → B.handled = none → σ L = none → AOk B (⟨L, cl, ns, vs⟩ :: fs) d → (∃ outer, B.frames = some (env :: outer)) → EnvOk c env L cl ns gs → CapOk env cl ((nk.filter (·.2)).map (·.1)) → Fx fs Q P → Ux L fs E X →
      W c B (execs (bodyOf (fdOf K f)) env) P X ⟨⟨L, cl, ns, vs⟩ :: fs, σ, g⟩) :
    W c A (call (.ref f) args) Q E ⟨fs, σ, g⟩ := by
  refine W_call_C hK hf hnk hns hbind hu hi hglob hA fun L cl env he hL hA' hE hC => ?_
  have hfr : env.frame = some L := by rw [he]; rfl
  have ho := hA.head env
  refine h L cl env _ _ _ hE.gl hE.bl hfr hA'.handled hL hA' ho hE hC ⟨fun _ _ _ q => Pop.mk q, fun _ _ _ _ q => Pop.mk q⟩ ⟨fun e t cls ar tb cl ns' vs' σ1 g1 hx q => ?_⟩
  obtain ⟨outer, ho⟩ := ho
  exact W_leaving (hA'.pop fun f hf => (List.mem_cons.mp hf).elim (fun z => ⟨⟨L, cl, ns', vs'⟩, List.mem_cons_self .., by rw [z]⟩) fun z => ⟨f, List.mem_cons_of_mem _ z, rfl⟩).link ho hfr hx fun σ' T x1 x2 => Pop.mk (q σ' T x1 x2)
theorem Wk_loopG {L : Addr} {cl : List (Str × Addr)} {ns : List Str} {target : Expr} {it : Addr} {body : List Stmt} {vs : List AV} {src : (Addr → Option (Nat × Cell)) → Prop} {cell : Nat → Cell} {vv₀ : List (Option AV)} {σ₀ σ₁ : Addr → Option (Nat × Cell)} {R : Result → AS → Prop}
    (IO : IterOf c A vs k src cell) (C : List Nat) (h9 : 9 ∉ C) (hk : k ∉ C) (J : Nat → List (Option AV) → (Addr → Option (Nat × Cell)) → Prop)
    (stab : ∀ i vv σ σ', J i vv σ → Ext [9] σ σ' → J i vv σ') (hit : σ₀ it = none) (e₁ : σ₁ = upd σ₀ it (some (9, cell 0))) (hsrc : src σ₁) (hJ : J 0 vv₀ σ₀)
    (turn : ∀ i v vv σ u P X, Lx L cl ns fs g C σ (J (i + 1)) R P → (∀ e a', Noted c A env (fun e a' => R (.error e) a') e a' → X e a') → J i vv σ → vs[i]? = some v → er u = v → src σ → Ext C σ₀ σ →
      W c A (assign target env u) (fun _ a₂ => W c A (execs body env) P X a₂) X ⟨⟨L, cl, ns, vv⟩ :: fs, σ, g⟩)
    (fin : ∀ vv σ, J vs.length vv σ → Ext C σ₀ σ → R (.ok .next) ⟨⟨L, cl, ns, vv⟩ :: fs, σ, g⟩) :
    Wk c A (.forLoop target (.ref it) body [] env) R ⟨⟨L, cl, ns, vv₀⟩ :: fs, σ₁, g⟩ :=
  Wk_loop IO C h9 hk J stab hit e₁ hsrc hJ (fun i v vv σ u hj hv eu hs hx => turn i v vv σ u _ _ ⟨fun vv σ' x j => ⟨vv, σ', rfl, x, j⟩, fun vv σ' x j => ⟨vv, σ', rfl, x, j⟩, fun _ h => h, fun _ _ h => h⟩ (fun _ _ h => h) hj hv eu hs hx) fin
theorem W_WhileG {test : Expr} {body orelse : List Stmt} {pos : Pos} {Q : Flow → AS → Prop} (I : Nat → AS → Prop)
    (turn : ∀ n a P X, Wx (fun a' => ∃ m, m < n ∧ I m a') Q P → (∀ e a', Noted c A env (Came c A env E) e a' → X e a') → I n a →
      W c A (isTrue test env (eval test env)) (fun b a₁ => if b then W c A (execs body env) P X a₁ else W c A (execs orelse env) Q X a₁) X a)
    (n : Nat) (h : I n a) : W c A (exec (.While test body orelse pos) env) Q E a :=
  W_While I (fun n a hI => turn n a _ _ ⟨fun _ h => h, fun _ h => h, fun _ h => h, fun _ _ h => h⟩ (fun _ _ h => h) hI) n h
end
end Mine.Internal
namespace Mine.Internal
open PySem PySem.W PyProof.Rows PySem.Calls PySem.F PySem.SeqAt
noncomputable def Sh (n : Nat) (d : PyData) : Prop := d.canLay0 = true ∧ d.depth ≤ n
theorem Sh.int {i : Int} {n : Nat} : Sh n (.int i) := ⟨rfl, Nat.zero_le _⟩
theorem Sh.none {n : Nat} : Sh n .none := ⟨rfl, Nat.zero_le _⟩
theorem Sh.all {n : Nat} {ds : List PyData} (h : ∀ d ∈ ds, Sh n d) : PyData.canLayAll0 ds = true ∧ PyData.depthAll ds ≤ n := by
  induction ds with
  | nil => exact ⟨rfl, Nat.zero_le _⟩
  | cons d ds ih =>
    obtain ⟨a, b⟩ := ih fun x hx => h x (List.mem_cons_of_mem _ hx)
    obtain ⟨a', b'⟩ := h d (List.mem_cons_self ..)
    exact ⟨by rw [PyData.canLayAll0, a, a']; rfl, by rw [PyData.depthAll]; exact Nat.max_le.mpr ⟨b', b⟩⟩
theorem Sh.list {n : Nat} {ds : List PyData} (h : ∀ d ∈ ds, Sh n d) : Sh (n + 1) (.list ds) := ⟨(Sh.all h).1, Nat.succ_le_succ (Sh.all h).2⟩
theorem Sh.tuple {n : Nat} {ds : List PyData} (h : ∀ d ∈ ds, Sh n d) : Sh (n + 1) (.tuple ds) := ⟨(Sh.all h).1, Nat.succ_le_succ (Sh.all h).2⟩
theorem Sh.ok {n : Nat} {d : PyData} (h : Sh n d) (hn : n ≤ 64 := by decide) : shaped d = true := by
  unfold shaped
  rw [h.1, Bool.true_and, decide_eq_true_eq]
  exact Nat.le_trans h.2 hn
theorem eqv_nil {ds : List PyData} : PyData.eqv (.list ds) (.list []) = ds.isEmpty := by
  cases ds <;> rfl
theorem eqv_self {n : Nat} {d : PyData} (h : Sh n d) : PyData.eqv d d = true := PySem.SeqAt.eqv_refl d h.1
section
variable {c : Cx} {A : Around} {E : Value → AS → Prop} {a : AS} {env : Env} {fs : List Frm} {σ : Addr → Option (Nat × Cell)} {g : Array GenState} {k : Nat} {d : Nat} {L : Addr} {ns : List Str} {gs : List (Str × Value)}
noncomputable def BL (c : Cx) (l : Addr) (vs : List AV) : Prop := ∃ us : Array Value, c.base.IsList l us ∧ us.toList.map er = vs
end
end Mine.Internal
namespace Mine.Internal
open PySem PySem.W PyProof.Rows PySem.Calls PySem.F PySem.AutoSeq1 PySem.MeetsSeq PySem.MeetsSeq3 PySem.SeqAt
noncomputable def ltL : List Int → List Int → Bool
  | [], [] => false
  | [], _ :: _ => true
  | _ :: _, [] => false
  | x :: xs, y :: ys => if x = y then ltL xs ys else decide (x < y)
theorem ltL_c {x y : Int} {xs ys : List Int} : ltL (x :: xs) (y :: ys) = if x = y then ltL xs ys else decide (x < y) := rfl
theorem ints_get {items : Array Value} {is : List Int} (h : items.toList.map er = is.map AV.int) {i : Nat} (hi : i < is.length) : ∃ t, items[i]? = some (.int is[i] t) := by
  have h1 : (items.toList.map er)[i]? = some (.int is[i]) := by rw [h]; simp [hi]
  rw [List.getElem?_map] at h1
  obtain ⟨u, hu, eu⟩ := map_some_of h1
  obtain ⟨t, rfl⟩ := er_int eu
  exact ⟨t, by simpa using hu⟩
theorem ints_len {items : Array Value} {is : List Int} (h : items.toList.map er = is.map AV.int) : items.size = is.length := by
  have := congrArg List.length h; simpa using this
set_option maxHeartbeats 2000000 in
theorem ord_loop (l b : Addr) (items items2 : Array Value) (n n2 : Nat) (is js : List Int) (h1 : items.toList.map er = is.map AV.int) (h2 : items2.toList.map er = js.map AV.int) (k : Nat) :
    ∀ i : Nat, is.length - i = k → i ≤ is.length → i ≤ js.length → Meets (Builtin.«list.__eq__.loop» ⟨[.ref l, .ref b, rawInt i, rawInt 0], []⟩)
      (fun A R s => s.heap.get? l = some { cls := .type "list", dict := none, data := .seq items n, slots := #[] } ∧ s.heap.get? b = some { cls := .type "list", dict := none, data := .seq items2 n2, slots := #[] } ∧
        R (.ok (.ret (.bool (ltL (is.drop i) (js.drop i))))) s) := by
  have z1 := ints_len h1
  have z2 := ints_len h2
  have out : ∀ {xs : Array Value} {i : Nat}, xs.size ≤ i → xs[((i : Nat) : Int).toNat]? = none := fun h => by rw [Int.toNat_natCast]; exact Array.getElem?_eq_none h
  induction k with
  | zero =>
    intro i hk hi1 hi2 prog w A R s h
    obtain ⟨hp, g, d, tk, os⟩ := s; obtain ⟨hl, hb, h⟩ := h
    have hle : is.length ≤ i := Nat.le_of_sub_eq_zero hk
    have e1 : items[((i : Nat) : Int).toNat]? = none := out (by rw [z1]; exact hle)
    rw [List.drop_eq_nil_of_le hle] at h
    wp_walk using wpAny_loadPart' hl, wpAny_loadPart' hb
    rw [e1]
    wp_walk using wpAny_loadPart' hl, wpAny_loadPart' hb
    have : ltL [] (js.drop i) = decide (items.size < items2.size) := by
      rw [z1, z2, Nat.le_antisymm hle hi1]
      by_cases hj : i < js.length
      · rw [List.drop_eq_getElem_cons hj]; exact (decide_eq_true hj).symm
      · rw [List.drop_eq_nil_of_le (Nat.le_of_not_lt hj)]; exact (decide_eq_false hj).symm
    rw [this] at h
    exact h
  | succ k ih =>
    intro i hk hi1 hi2 prog w A R s h
    obtain ⟨hp, g, d, tk, os⟩ := s; obtain ⟨hl, hb, h⟩ := h
    have hlt : i < is.length := Nat.lt_of_sub_pos (by rw [hk]; exact Nat.succ_pos k)
    obtain ⟨t, e1'⟩ := ints_get h1 hlt
    have e1 : items[((i : Nat) : Int).toNat]? = some (.int is[i] t) := by rw [Int.toNat_natCast]; exact e1'
    rw [List.drop_eq_getElem_cons hlt] at h
    by_cases hlt2 : i < js.length
    · obtain ⟨u, e2'⟩ := ints_get h2 hlt2
      have e2 : items2[((i : Nat) : Int).toNat]? = some (.int js[i] u) := by rw [Int.toNat_natCast]; exact e2'
      rw [List.drop_eq_getElem_cons hlt2] at h
      have hcc : ((i : Int) + 1) = ((i + 1 : Nat) : Int) := rfl
      rw [ltL_c] at h
      wp_walk using wpAny_loadPart' hl, wpAny_loadPart' hb
      rw [e1, e2]
      refine wpAny_bind (EqAt.int_int _ _ _ _ prog w _ _ ?_)
      by_cases hxy : is[i] = js[i]
      · rw [if_pos hxy] at h
        rw [show (is[i] == js[i]) = true from beq_iff_eq.mpr hxy]
        wp_walk
        rw [hcc]
        exact ⟨plainId_quiet plain_eq_loop _, codeAny_builtin entry_eq_loop (by
          rw [Around.under_plainId plain_eq_loop _]
          exact ih (i + 1) (by rw [Nat.sub_add_eq, hk]; rfl) hlt hlt2 prog w A R _ ⟨hl, hb, h⟩)⟩
      · rw [if_neg hxy] at h
        rw [show (is[i] == js[i]) = false from beq_eq_false_iff_ne.mpr hxy]
        wp_walk using wpAny_loadPart' hl, wpAny_loadPart' hb
        rw [e1, e2]
        refine wpAny_bind (show wpAny (model prog w) A.in1 (compareOp .Lt _ _) _ _ _ from P.lt_int ?_)
        wp_walk
        exact h
    · have hle := Nat.le_of_not_lt hlt2
      have e2 : items2[((i : Nat) : Int).toNat]? = none := out (by rw [z2]; exact hle)
      rw [List.drop_eq_nil_of_le hle] at h
      wp_walk using wpAny_loadPart' hl, wpAny_loadPart' hb
      rw [e1, e2]
      wp_walk using wpAny_loadPart' hl, wpAny_loadPart' hb
      have : ltL (is[i] :: is.drop (i + 1)) [] = decide (items.size < items2.size) := by
        rw [z1, z2]; exact (decide_eq_false fun q => hlt2 (Nat.lt_trans hlt q)).symm
      rw [this] at h
      exact h
end Mine.Internal
namespace Mine.Internal
open PySem PySem.W PyProof.Rows PySem.Calls PySem.F PySem.AutoSeq1 PySem.MeetsSeq PySem.MeetsSeq3 PySem.SeqAt
section
variable (l b : Addr) (items items2 : Array Value) (n n2 : Nat) (is js : List Int) (h1 : items.toList.map er = is.map AV.int) (h2 : items2.toList.map er = js.map AV.int)
include h1 h2
theorem list_ltAt : Meets (Builtin.«list.__lt__» ⟨[.ref l, .ref b], []⟩)
      (fun A R s => s.heap.get? l = some { cls := .type "list", dict := none, data := .seq items n, slots := #[] } ∧ s.heap.get? b = some { cls := .type "list", dict := none, data := .seq items2 n2, slots := #[] } ∧ R (.ok (.ret (.bool (ltL is js)))) s) := by
  intro prog w A R s h
  obtain ⟨hp, g, d, tk, os⟩ := s; obtain ⟨hl, hb, h⟩ := h
  have f3 := AutoSeq1.sub_list_list
  wp_walk using wpAny_loadPart' hl, wpAny_loadPart' hb
  exact ⟨plainId_quiet plain_eq_loop _, codeAny_builtin entry_eq_loop (by
    rw [Around.under_plainId plain_eq_loop _]
    exact ord_loop l b items items2 n n2 is js h1 h2 _ 0 rfl (Nat.zero_le _) (Nat.zero_le _) prog w A R _ ⟨hl, hb, h⟩)⟩
end
section
variable {prog : Program} {w : World} {A : Around} {E : Value → Shared → Prop} {s : Shared}
end
end Mine.Internal
namespace Mine.Internal
open PySem PySem.W PyProof.Rows PySem.Calls
theorem All.ref {a : Addr} {P : Value → Prop} (h : P (.ref a)) : All (.ref a) P := h
theorem All.none {P : Value → Prop} (h : P .none) : All .none P := h
theorem All.int {i : Int} {P : Value → Prop} (h : ∀ t, P (.int i t)) : All (.int i) P := h
theorem All.str {x : Str} {P : Value → Prop} (h : ∀ t, P (.str x t)) : All (.str x) P := h
theorem Kp.inK {c : Cx} {f : Value} {a : AS} (h : keepIn c.K f = true) : Kp c f a := fun s hs => by
  obtain ⟨k, _, l⟩ := looks_keep (M := model c.prog c.w) h (c.inK.keeps hs.keep)
  exact ⟨k, l⟩
theorem AOk.underMake {A : Around} {fs : List Frm} {d : Nat} {C : Addr} {args : List Value} (h : AOk A fs (d + 1)) : AOk (A.under (.builtin "type.__call__" ⟨.ref C :: args, []⟩)) fs d :=
  h.under (Nat.le_of_ble_eq_true rfl) (Nat.le_of_ble_eq_true rfl) rfl rfl
structure SS where
  keys : List AV
  np : AV → Int
  su : AV → List AV
  ready : Option (List AV)
  npass : Int
  nfin : Int
noncomputable def fset {α : Type} (f : AV → α) (k : AV) (v : α) : AV → α := fun y => if y = k then v else f y
@[simp] theorem fset_self {α : Type} {f : AV → α} {k : AV} {v : α} : fset f k v k = v := by simp [fset]
theorem fset_ne {α : Type} {f : AV → α} {k y : AV} {v : α} (h : y ≠ k) : fset f k v y = f y := by simp [fset, h]
noncomputable def SS.ens (st : SS) (k : AV) : SS := { st with keys := if k ∈ st.keys then st.keys else st.keys ++ [k] }
noncomputable def SS.succ (st : SS) (k p : AV) : SS := { st.ens p with su := fset st.su p (st.su p ++ [k]) }
noncomputable def SS.addN (st : SS) (k : AV) (n : Int) : SS := { st.ens k with np := fset st.np k (st.np k + n) }
noncomputable def SS.add (st : SS) (k : AV) (ps : List AV) : SS := ps.foldl (fun s p => s.succ k p) (st.addN k ps.length)
noncomputable def SS.out (np : AV → Int) (l : List AV) : AV → Int := l.foldl (fun f k => fset f k (-1)) np
noncomputable def SS.getReady (st : SS) (l : List AV) : SS := { st with np := SS.out st.np l, ready := some [], npass := st.npass + l.length }
noncomputable def SS.dec (st : SS) (k : AV) : SS := { st with np := fset st.np k (st.np k - 1), ready := if st.np k - 1 = 0 then some (st.ready.getD [] ++ [k]) else st.ready }
noncomputable def SS.done1 (st : SS) (k : AV) : SS := let s := (st.su k).foldl (fun s p => s.dec p) { st with np := fset st.np k (-2) }; { s with nfin := s.nfin + 1 }
noncomputable def SS.done (st : SS) (l : List AV) : SS := l.foldl SS.done1 st
noncomputable def SS.rl (st : SS) : Nat := (st.ready.getD []).length
theorem SS.dec_rl {st : SS} {k : AV} : (st.dec k).rl ≤ st.rl + 1 := by
  unfold SS.dec SS.rl; dsimp only
  split
  · simp
  · lia
theorem SS.decs_rl : ∀ {l : List AV} {st : SS}, (l.foldl (fun s p => s.dec p) st).rl ≤ st.rl + l.length
  | [], _ => Nat.le_refl _
  | k :: l, st => by
    have := SS.decs_rl (l := l) (st := st.dec k)
    have := SS.dec_rl (st := st) (k := k)
    simp only [List.foldl_cons, List.length_cons]; lia
theorem SS.decs_same : ∀ {l : List AV} {st : SS}, (l.foldl (fun s p => s.dec p) st).keys = st.keys ∧ (l.foldl (fun s p => s.dec p) st).su = st.su ∧ ((l.foldl (fun s p => s.dec p) st).ready.isSome = st.ready.isSome ∨ (l.foldl (fun s p => s.dec p) st).ready.isSome = true) ∧ (l.foldl (fun s p => s.dec p) st).npass = st.npass ∧ (l.foldl (fun s p => s.dec p) st).nfin = st.nfin
  | [], _ => ⟨rfl, rfl, .inl rfl, rfl, rfl⟩
  | k :: l, st => by
    obtain ⟨h1, h2, h3, h4, h5⟩ := SS.decs_same (l := l) (st := st.dec k)
    simp only [List.foldl_cons]
    refine ⟨h1, h2, ?_, h4, h5⟩
    rcases h3 with h3 | h3
    · by_cases q : st.np k - 1 = 0
      · right; rw [h3]; simp [SS.dec, q]
      · left; rw [h3]; simp [SS.dec, q]
    · exact .inr h3
theorem SS.done1_same {st : SS} {k : AV} : (st.done1 k).keys = st.keys ∧ (st.done1 k).su = st.su ∧ (st.ready.isSome = true → (st.done1 k).ready.isSome = true) ∧ (st.done1 k).npass = st.npass ∧ (st.done1 k).nfin = st.nfin + 1 ∧ (st.done1 k).rl ≤ st.rl + (st.su k).length := by
  obtain ⟨h1, h2, h3, h4, h5⟩ := SS.decs_same (l := st.su k) (st := { st with np := fset st.np k (-2) })
  refine ⟨h1, h2, fun q => ?_, h4, ?_, SS.decs_rl (l := st.su k) (st := { st with np := fset st.np k (-2) })⟩
  · rcases h3 with h3 | h3
    · exact h3.trans q
    · exact h3
  · unfold SS.done1; dsimp only; rw [h5]
theorem SS.done_same {N : Nat} : ∀ {l : List AV} {st : SS}, (∀ k, (st.su k).length ≤ N) → (st.done l).keys = st.keys ∧ (st.done l).su = st.su ∧ (st.ready.isSome = true → (st.done l).ready.isSome = true) ∧ (st.done l).npass = st.npass ∧ (st.done l).nfin = st.nfin + l.length ∧ (st.done l).rl ≤ st.rl + N * l.length
  | [], _, _ => ⟨rfl, rfl, id, rfl, by simp [SS.done], by simp [SS.done]⟩
  | k :: l, st, hN => by
    obtain ⟨a1, a2, a3, a4, a5, a6⟩ := SS.done1_same (st := st) (k := k)
    obtain ⟨h1, h2, h3, h4, h5, h6⟩ := SS.done_same (l := l) (st := st.done1 k) (N := N) (by rw [a2]; exact hN)
    have e : st.done (k :: l) = (st.done1 k).done l := rfl
    have hk := hN k
    refine ⟨by rw [e, h1, a1], by rw [e, h2, a2], fun q => by rw [e]; exact h3 (a3 q), by rw [e, h4, a4], by rw [e, h5, a5, List.length_cons]; lia, ?_⟩
    rw [e, List.length_cons, Nat.mul_succ]; lia
theorem SS.done_snoc {l : List AV} {k : AV} {st : SS} : st.done (l ++ [k]) = (st.done l).done1 k := by unfold SS.done; rw [List.foldl_append]; rfl
structure SS.Fit (st : SS) (N : Nat) : Prop where
  keys : st.keys.length ≤ N
  su : ∀ k, (st.su k).length ≤ N
theorem SS.Fit.mono {st : SS} {N M : Nat} (h : st.Fit N) (hm : N ≤ M) : st.Fit M := ⟨Nat.le_trans h.keys hm, fun k => Nat.le_trans (h.su k) hm⟩
theorem SS.ens_len {st : SS} {k : AV} : (st.ens k).keys.length ≤ st.keys.length + 1 := by
  unfold SS.ens; dsimp only; split <;> simp
theorem SS.Fit.addN {st : SS} {N : Nat} {k : AV} {n : Int} (h : st.Fit N) : (st.addN k n).Fit (N + 1) :=
  ⟨Nat.le_trans SS.ens_len (Nat.succ_le_succ h.keys), fun k => Nat.le_succ_of_le (h.su k)⟩
theorem SS.Fit.succ {st : SS} {N : Nat} {k p : AV} (h : st.Fit N) : (st.succ k p).Fit (N + 1) :=
  ⟨Nat.le_trans SS.ens_len (Nat.succ_le_succ h.keys), fun q => by
    show (fset st.su p (st.su p ++ [k]) q).length ≤ _
    by_cases e : q = p
    · subst e; rw [fset_self, List.length_append]; exact Nat.succ_le_succ (h.su q)
    · rw [fset_ne e]; exact Nat.le_succ_of_le (h.su q)⟩
theorem SS.Fit.succs {k : AV} : ∀ {ps : List AV} {st : SS} {N : Nat}, st.Fit N → (ps.foldl (fun s p => s.succ k p) st).Fit (N + ps.length)
  | [], _, _, h => h
  | p :: ps, st, N, h => by
    have := SS.Fit.succs (k := k) (ps := ps) (h.succ (k := k) (p := p))
    simpa [Nat.add_assoc, Nat.add_comm 1] using this
theorem SS.Fit.add {st : SS} {N : Nat} {k : AV} {ps : List AV} (h : st.Fit N) : (st.add k ps).Fit (N + 1 + ps.length) := h.addN.succs
structure NAd where
  i : Addr
  d : Addr
  s : Addr
noncomputable abbrev CNI : Addr := 33
noncomputable abbrev CTS : Addr := 130
structure NdAt (σ : Addr → Option (Nat × Cell)) (p : NAd) (k : AV) (n : Int) (su : List AV) : Prop where
  i : σ p.i = some (1, .inst CNI p.d [some k, some (.int n), some (.ref p.s)])
  d : σ p.d = some (1, .attrs [])
  s : σ p.s = some (2, .list su)
@[reducible] noncomputable def sAttrs (nd : Addr) (rv : AV) (st : SS) : List (Str × AV) := [("_node2info", .ref nd), ("_ready_nodes", rv), ("_npassedout", .int st.npass), ("_nfinished", .int st.nfin)]
noncomputable def RdyAt (σ : Addr → Option (Nat × Cell)) (rv : AV) (r : Option (List AV)) : Prop := match r with
  | none => rv = .none
  | some l => ∃ b, rv = .ref b ∧ σ b = some (1, .list l)
structure SAt (σ : Addr → Option (Nat × Cell)) (x : Addr) (st : SS) (dx nd : Addr) (rv : AV) (as : List NAd) (ep : Nat) : Prop where
  x : σ x = some (1, .inst CTS dx [])
  dx : σ dx = some (1, .attrs (sAttrs nd rv st))
  nd : σ nd = some (1, .dict (st.keys.zip (as.map fun p => AV.ref p.i)) ep)
  len : as.length = st.keys.length
  nds : ∀ (j : Nat) (p : NAd) (k : AV), as[j]? = some p → st.keys[j]? = some k → NdAt σ p k (st.np k) (st.su k)
  rdy : RdyAt σ rv st.ready
  ni : (as.map (·.i)).Nodup
  nsu : (as.map (·.s)).Nodup
  key : ∀ k ∈ st.keys, k.isKey = true
  knd : st.keys.Nodup
  dflt : ∀ k, k ∉ st.keys → st.np k = 0 ∧ st.su k = []
theorem nodup_idx {α β : Type} {f : α → β} {l : List α} (h : (l.map f).Nodup) {i j : Nat} {a b : α} (ha : l[i]? = some a) (hb : l[j]? = some b) (e : f a = f b) : i = j := by
  obtain ⟨hi, ha⟩ := List.getElem?_eq_some_iff.mp ha
  obtain ⟨hj, hb⟩ := List.getElem?_eq_some_iff.mp hb
  have h' := List.pairwise_iff_getElem.mp h
  rcases Nat.lt_trichotomy i j with q | q | q
  · exact (h' i j (by simpa using hi) (by simpa using hj) q (by simp [ha, hb, e])).elim
  · exact q
  · exact (h' j i (by simpa using hj) (by simpa using hi) q (by simp [ha, hb, e])).elim
theorem nodup_idx' {α : Type} {l : List α} (h : l.Nodup) {i j : Nat} {a : α} (ha : l[i]? = some a) (hb : l[j]? = some a) : i = j :=
  nodup_idx (f := id) (by simpa using h) ha hb rfl
theorem dget_zip : ∀ {ks vs : List AV} {j : Nat} {k v : AV}, ks.Nodup → ks[j]? = some k → vs[j]? = some v → dget (ks.zip vs) k = some v
  | a :: ks, b :: vs, 0, k, v, _, h1, h2 => by
    simp only [List.getElem?_cons_zero, Option.some.injEq] at h1 h2
    subst h1 h2; simp [dget]
  | a :: ks, b :: vs, j + 1, k, v, hd, h1, h2 => by
    simp only [List.getElem?_cons_succ] at h1 h2
    have hm := List.mem_of_getElem? h1
    have hne : a ≠ k := fun e => (List.nodup_cons.mp hd).1 (e ▸ hm)
    have := dget_zip (List.nodup_cons.mp hd).2 h1 h2
    simpa [dget, hne] using this
  | [], _, _, _, _, _, h, _ => by simp at h
  | _ :: _, [], _, _, _, _, _, h => by simp at h
theorem dget_zip_none : ∀ {ks vs : List AV} {k : AV}, k ∉ ks → dget (ks.zip vs) k = none
  | a :: ks, b :: vs, k, h => by
    simp only [List.mem_cons, not_or] at h
    have := dget_zip_none (vs := vs) h.2
    simpa [dget, Ne.symm h.1] using this
  | [], _, _, _ => by simp [dget]
  | _ :: _, [], _, _ => by simp [dget]
theorem dset_zip {ks vs : List AV} {k v : AV} (hl : ks.length = vs.length) (h : k ∉ ks) : dset (ks.zip vs) k v = (ks ++ [k]).zip (vs ++ [v]) := by
  have : (ks.zip vs).any (fun p => p.1 = k) = false := by
    rw [List.any_eq_false]
    intro p hp
    have := (List.of_mem_zip hp).1
    simp only [decide_eq_true_eq]
    exact fun e => h (e ▸ this)
  unfold dset
  rw [this, List.zip_append hl]
  simp
section
variable {σ σ' : Addr → Option (Nat × Cell)} {x dx nd : Addr} {rv : AV} {as : List NAd} {ep : Nat} {st : SS}
theorem NdAt.ext {C : List Nat} {p : NAd} {k : AV} {n : Int} {su : List AV} (h : NdAt σ p k n su) (e : Ext C σ σ') (h1 : 1 ∉ C) (h2 : 2 ∉ C) : NdAt σ' p k n su := ⟨e _ _ _ h.i h1, e _ _ _ h.d h1, e _ _ _ h.s h2⟩
theorem RdyAt.ext {C : List Nat} {r : Option (List AV)} (h : RdyAt σ rv r) (e : Ext C σ σ') (h1 : 1 ∉ C) : RdyAt σ' rv r := by
  cases r with
  | none => exact h
  | some l => obtain ⟨b, h2, h3⟩ := h; exact ⟨b, h2, e _ _ _ h3 h1⟩
theorem SAt.ext {C : List Nat} (h : SAt σ x st dx nd rv as ep) (e : Ext C σ σ') (h1 : 1 ∉ C) (h2 : 2 ∉ C) : SAt σ' x st dx nd rv as ep :=
  ⟨e _ _ _ h.x h1, e _ _ _ h.dx h1, e _ _ _ h.nd h1, h.len, fun j p k a b => (h.nds j p k a b).ext e h1 h2, h.rdy.ext e h1, h.ni, h.nsu, h.key, h.knd, h.dflt⟩
theorem SAt.find (h : SAt σ x st dx nd rv as ep) {k : AV} (hk : k ∈ st.keys) : ∃ (j : Nat) (p : NAd), st.keys[j]? = some k ∧ as[j]? = some p ∧ dget (st.keys.zip (as.map fun p => AV.ref p.i)) k = some (.ref p.i) := by
  obtain ⟨j, hj, e⟩ := List.mem_iff_getElem.mp hk
  have hj' : j < as.length := by rw [h.len]; exact hj
  refine ⟨j, as[j], by simp [hj, e], by simp [hj'], dget_zip h.knd (j := j) (by simp [hj, e]) (by simp [hj'])⟩
theorem SAt.find_none (h : SAt σ x st dx nd rv as ep) {k : AV} (hk : k ∉ st.keys) : dget (st.keys.zip (as.map fun p => AV.ref p.i)) k = none := dget_zip_none hk
theorem SAt.setNp (h : SAt σ x st dx nd rv as ep) {j : Nat} {p : NAd} {k : AV} {n : Int} (hk : st.keys[j]? = some k) (hp : as[j]? = some p) :
    SAt (upd σ p.i (some (1, .inst CNI p.d [some k, some (.int n), some (.ref p.s)]))) x { st with np := fset st.np k n } dx nd rv as ep := by
  have N := h.nds j p k hp hk
  have ne : ∀ {y c' cl}, σ y = some (c', cl) → (∀ d sl, cl ≠ .inst CNI d sl) → y ≠ p.i := fun {y c' cl} e q z => by rw [z, N.i] at e; cases e; exact q _ _ rfl
  have nx : x ≠ p.i := fun z => by have := h.x; rw [z, N.i] at this; cases this
  refine ⟨(upd_ne nx).trans h.x, (upd_ne (ne h.dx (by intro _ _ q; cases q))).trans h.dx, (upd_ne (ne h.nd (by intro _ _ q; cases q))).trans h.nd, h.len, fun j' p' k' a b => ?_, ?_, h.ni, h.nsu, h.key, h.knd, fun k' hk' => ?_⟩
  · have N' := h.nds j' p' k' a b
    have hd := ne N'.d (by intro _ _ q; cases q)
    have hs := ne N'.s (by intro _ _ q; cases q)
    by_cases e : p'.i = p.i
    · have := nodup_idx h.ni a hp e
      subst this
      rw [hp] at a; cases a
      rw [hk] at b; cases b
      exact ⟨by simp, (upd_ne hd).trans N.d, (upd_ne hs).trans N.s⟩
    · have hkk : k' ≠ k := fun z => e (by
        subst z
        have := nodup_idx' h.knd hk b
        subst this
        rw [hp] at a; cases a; rfl)
      refine ⟨by rw [upd_ne e]; dsimp only; rw [fset_ne hkk]; exact N'.i, (upd_ne hd).trans N'.d, (upd_ne hs).trans N'.s⟩
  · have := h.rdy
    dsimp only
    cases q : st.ready with
    | none => rw [q] at this; exact this
    | some l =>
      rw [q] at this
      obtain ⟨b, h2, h3⟩ := this
      exact ⟨b, h2, (upd_ne (ne h3 (by intro _ _ q; cases q))).trans h3⟩
  · have hne : k' ≠ k := fun z => hk' (by rw [z]; exact List.mem_of_getElem? hk)
    dsimp only
    rw [fset_ne hne]; exact h.dflt k' hk'
theorem SAt.setSu (h : SAt σ x st dx nd rv as ep) {j : Nat} {p : NAd} {k : AV} {su : List AV} (hk : st.keys[j]? = some k) (hp : as[j]? = some p) :
    SAt (upd σ p.s (some (2, .list su))) x { st with su := fset st.su k su } dx nd rv as ep := by
  have N := h.nds j p k hp hk
  have ne : ∀ {y cl}, σ y = some (1, cl) → y ≠ p.s := fun {y cl} e z => by rw [z, N.s] at e; cases e
  refine ⟨(upd_ne (ne h.x)).trans h.x, (upd_ne (ne h.dx)).trans h.dx, (upd_ne (ne h.nd)).trans h.nd, h.len, fun j' p' k' a b => ?_, ?_, h.ni, h.nsu, h.key, h.knd, fun k' hk' => ?_⟩
  · have N' := h.nds j' p' k' a b
    have hd := ne N'.d
    have hi := ne N'.i
    by_cases e : p'.s = p.s
    · have := nodup_idx h.nsu a hp e
      subst this
      rw [hp] at a; cases a
      rw [hk] at b; cases b
      exact ⟨(upd_ne hi).trans N.i, (upd_ne hd).trans N.d, by simp⟩
    · have hkk : k' ≠ k := fun z => e (by
        subst z
        have := nodup_idx' h.knd hk b
        subst this
        rw [hp] at a; cases a; rfl)
      refine ⟨(upd_ne hi).trans N'.i, (upd_ne hd).trans N'.d, by rw [upd_ne e]; dsimp only; rw [fset_ne hkk]; exact N'.s⟩
  · have := h.rdy
    dsimp only
    cases q : st.ready with
    | none => rw [q] at this; exact this
    | some l =>
      rw [q] at this
      obtain ⟨b, h2, h3⟩ := this
      refine ⟨b, h2, (upd_ne (ne h3)).trans h3⟩
  · have hne : k' ≠ k := fun z => hk' (by rw [z]; exact List.mem_of_getElem? hk)
    dsimp only
    rw [fset_ne hne]; exact h.dflt k' hk'
theorem SAt.setReady (h : SAt σ x st dx nd rv as ep) {l l' : List AV} {b : Addr} (hr : st.ready = some l) (hb : rv = .ref b) :
    SAt (upd σ b (some (1, .list l'))) x { st with ready := some l' } dx nd rv as ep := by
  have hb' : σ b = some (1, .list l) := by
    have := h.rdy
    rw [hr] at this
    obtain ⟨b', h2, h3⟩ := this
    rw [h2] at hb; cases hb; exact h3
  have ne : ∀ {y cl}, σ y = some (1, cl) → (∀ l, cl ≠ .list l) → y ≠ b := fun {y cl} e q z => by rw [z, hb'] at e; cases e; exact q _ rfl
  refine ⟨(upd_ne (ne h.x (by intro _ q; cases q))).trans h.x, (upd_ne (ne h.dx (by intro _ q; cases q))).trans h.dx, (upd_ne (ne h.nd (by intro _ q; cases q))).trans h.nd, h.len, fun j' p' k' a b' => ?_, ⟨b, hb, by simp⟩, h.ni, h.nsu, h.key, h.knd, h.dflt⟩
  have N' := h.nds j' p' k' a b'
  exact ⟨(upd_ne (ne N'.i (by intro _ q; cases q))).trans N'.i, (upd_ne (ne N'.d (by intro _ q; cases q))).trans N'.d, (upd_ne (fun z => by have := N'.s; rw [z, hb'] at this; cases this)).trans N'.s⟩
theorem SAt.setAttrs (h : SAt σ x st dx nd rv as ep) {st' : SS} {rv' : AV} (e1 : st'.keys = st.keys) (e2 : st'.np = st.np) (e3 : st'.su = st.su) (hr : RdyAt σ rv' st'.ready) :
    SAt (upd σ dx (some (1, .attrs (sAttrs nd rv' st')))) x st' dx nd rv' as ep := by
  have ne : ∀ {y c' cl}, σ y = some (c', cl) → (∀ l, l ≠ [] → cl ≠ .attrs l) → y ≠ dx := fun {y c' cl} e q z => by rw [z, h.dx] at e; cases e; exact q _ (by simp [sAttrs]) rfl
  refine ⟨(upd_ne (ne h.x (by intro _ _ q; cases q))).trans h.x, by simp, by rw [upd_ne (ne h.nd (by intro _ _ q; cases q)), e1]; exact h.nd, by rw [e1]; exact h.len, fun j' p' k' a b' => ?_, ?_, h.ni, h.nsu, by rw [e1]; exact h.key, by rw [e1]; exact h.knd, by rw [e1, e2, e3]; exact h.dflt⟩
  · rw [e1] at b'
    have N' := h.nds j' p' k' a b'
    rw [e2, e3]
    exact ⟨(upd_ne (ne N'.i (by intro _ _ q; cases q))).trans N'.i, (upd_ne (ne N'.d (by intro l hl q; cases q; exact hl rfl))).trans N'.d, (upd_ne (ne N'.s (by intro _ _ q; cases q))).trans N'.s⟩
  · cases q : st'.ready with
    | none => rw [q] at hr; exact hr
    | some l =>
      rw [q] at hr
      obtain ⟨b, h2, h3⟩ := hr
      exact ⟨b, h2, (upd_ne (ne h3 (by intro _ _ q; cases q))).trans h3⟩
theorem SAt.new (h : SAt σ x st dx nd rv as ep) {k : AV} {p : NAd} {ep' : Nat} (hk : k ∉ st.keys) (hkey : k.isKey = true) (e : Ext [] σ σ') (hi : σ p.i = none) (hs : σ p.s = none) (hN : NdAt σ' p k 0 [])  :
    SAt (upd σ' nd (some (1, .dict ((st.keys ++ [k]).zip ((as ++ [p]).map fun p => AV.ref p.i)) ep'))) x { st with keys := st.keys ++ [k] } dx nd rv (as ++ [p]) ep' := by
  have h' := h.ext e (by first | decide | simp) (by first | decide | simp)
  have ne : ∀ {y c' cl}, σ' y = some (c', cl) → (∀ l n, cl ≠ .dict l n) → y ≠ nd := fun {y c' cl} e q z => by rw [z, h'.nd] at e; cases e; exact q _ _ rfl
  have old : ∀ {q : NAd}, q ∈ as → ∃ j k, as[j]? = some q ∧ st.keys[j]? = some k := fun {q} hq => by
    obtain ⟨j, hj, e⟩ := List.mem_iff_getElem.mp hq
    have hj' : j < st.keys.length := by rw [← h.len]; exact hj
    exact ⟨j, st.keys[j], by rw [List.getElem?_eq_getElem hj, e], by rw [List.getElem?_eq_getElem hj']⟩
  refine ⟨(upd_ne (ne h'.x (by intro _ _ q; cases q))).trans h'.x, (upd_ne (ne h'.dx (by intro _ _ q; cases q))).trans h'.dx, upd_self, by simp [h.len], fun j' p' k' a b' => ?_, ?_, ?_, ?_, ?_, ?_, ?_⟩
  · by_cases hj : j' < as.length
    · rw [List.getElem?_append_left hj] at a
      dsimp only at b'
      rw [List.getElem?_append_left (by rw [← h.len]; exact hj)] at b'
      have N := h'.nds j' p' k' a b'
      exact ⟨(upd_ne (ne N.i (by intro _ _ q; cases q))).trans N.i, (upd_ne (ne N.d (by intro _ _ q; cases q))).trans N.d, (upd_ne (ne N.s (by intro _ _ q; cases q))).trans N.s⟩
    · have hlt := (List.getElem?_eq_some_iff.mp a).1
      simp only [List.length_append, List.length_singleton] at hlt
      have : j' = as.length := by lia
      subst this
      simp only [List.getElem?_append_right (Nat.le_refl _), Nat.sub_self, List.getElem?_cons_zero, Option.some.injEq] at a
      dsimp only at b'
      rw [h.len, List.getElem?_append_right (Nat.le_refl _), Nat.sub_self, List.getElem?_cons_zero, Option.some.injEq] at b'
      subst a b'
      obtain ⟨d1, d2⟩ := h.dflt k hk
      dsimp only
      rw [d1, d2]
      exact ⟨(upd_ne (ne hN.i (by intro _ _ q; cases q))).trans hN.i, (upd_ne (ne hN.d (by intro _ _ q; cases q))).trans hN.d, (upd_ne (ne hN.s (by intro _ _ q; cases q))).trans hN.s⟩
  · have := h'.rdy
    dsimp only
    cases q : st.ready with
    | none => rw [q] at this; exact this
    | some l =>
      rw [q] at this
      obtain ⟨b, h2, h3⟩ := this
      exact ⟨b, h2, (upd_ne (ne h3 (by intro _ _ q; cases q))).trans h3⟩
  · rw [List.map_append]
    refine List.nodup_append.mpr ⟨h.ni, by simp, fun a ha b hb e => ?_⟩
    obtain ⟨q, hq, rfl⟩ := List.mem_map.mp ha
    simp only [List.map_cons, List.map_nil, List.mem_singleton] at hb
    obtain ⟨j, k0, h1, h2⟩ := old hq
    have := (h.nds j q k0 h1 h2).i
    rw [e, hb, hi] at this; cases this
  · rw [List.map_append]
    refine List.nodup_append.mpr ⟨h.nsu, by simp, fun a ha b hb e => ?_⟩
    obtain ⟨q, hq, rfl⟩ := List.mem_map.mp ha
    simp only [List.map_cons, List.map_nil, List.mem_singleton] at hb
    obtain ⟨j, k0, h1, h2⟩ := old hq
    have := (h.nds j q k0 h1 h2).s
    rw [e, hb, hs] at this; cases this
  · intro k' hk'
    rcases List.mem_append.mp hk' with hk' | hk'
    · exact h.key k' hk'
    · simp only [List.mem_singleton] at hk'; rw [hk']; exact hkey
  · refine List.nodup_append.mpr ⟨h.knd, by simp, fun a ha b hb e => hk ?_⟩
    simp only [List.mem_singleton] at hb
    rw [← hb, ← e]; exact ha
  · intro k' hk'
    exact h.dflt k' fun q => hk' (List.mem_append_left _ q)
end
end Mine.Internal
namespace Mine.Internal
open PySem PySem.W PyProof.Rows PySem.Calls PySem.AutoSeq1 PySem.MeetsSeq PySem.MeetsSeq3 PySem.SeqAt
section
variable {c : Cx} {A : Around} {E : Value → AS → Prop} {a : AS} {k : Nat} {D : Addr} {vs : List AV}
theorem W_index {u : Value} {j : Nat} {Q : Value → AS → Prop} (hl : a.σ D = some (k, .list vs)) (hz : vs.length ≤ 1000000) (hu : (er u).isKey = true) (hk : ∀ v ∈ vs, v.isKey = true) (hj : vs[j]? = some (er u)) (hno : ∀ m : Nat, m < j → vs[m]? ≠ some (er u)) (h : ∀ t, Q (.int j t) a) :
    W c A (call (.builtin "list.index") [.ref D, u]) Q E a := fun s hs => by
  obtain ⟨us, n, ho, e⟩ := own_list hs hl
  have he : ∀ y, y ∈ us → EqGives y u (decide (er y = er u)) := fun y hy => eqGives_key (hk _ (by rw [← e]; exact List.mem_map_of_mem (Array.mem_toList_iff.mpr hy))) hu
  have hlt : j < us.size := by rw [size_of e]; exact (List.getElem?_eq_some_iff.mp hj).1
  have at_ : ∀ m (hm : m < us.size), vs[m]? = some (er us[m]) := fun m hm => by rw [← e]; simp [hm]
  refine call_meets F.slot_list_index ⟨_, ho, rfl⟩ F.entry_list_index (F.args_list_index_2 _ _) (MeetsSeq.list_index D us n u (fun y => decide (er y = er u)) he j hlt (by have := size_of e; lia) ?_ ?_) ⟨ho, ?_⟩
  · have := (at_ j hlt).symm.trans hj
    simpa using this
  · intro m hm hmj
    have := hno m hmj
    rw [at_ m hm] at this
    simpa using this
  · exact ⟨a, hs.of_eq, h _⟩
end
end Mine.Internal
namespace Mine.Internal
open PySem PySem.W PyProof.Rows PySem.Calls PySem.F
theorem band_nat {x y : Nat} : Builtin.bitAnd (x : Int) (y : Int) = ((x &&& y : Nat) : Int) := by
  unfold Builtin.bitAnd
  rw [decide_eq_true (Int.natCast_nonneg x), decide_eq_true (Int.natCast_nonneg y)]
  rfl
theorem bnot_neg {x : Nat} : decide (0 ≤ Builtin.bitNot (x : Int)) = false := by
  unfold Builtin.bitNot; rw [decide_eq_false_iff_not]; lia
theorem bnot_not {x : Int} : Builtin.bitNot (Builtin.bitNot x) = x := by unfold Builtin.bitNot; lia
theorem bor_nat {x y : Nat} : Builtin.bitOr (x : Int) (y : Int) = ((x ||| y : Nat) : Int) := by
  unfold Builtin.bitOr Builtin.bitAnd
  rw [bnot_neg, bnot_neg]
  show Builtin.bitNot (Builtin.bitNot _) = _
  rw [bnot_not, bnot_not, bnot_not]; rfl
noncomputable def rp : AV → Str
  | .int i => Str.ofString (toString i)
  | .str x => reprText x
  | _ => Str.empty
noncomputable def RpOk (v : AV) : Prop := match v with
  | .int i => i.natAbs.log2 < 1000
  | .str x => (reprText x).length ≤ 1000
  | _ => False
theorem RpOk.len {v : AV} (h : RpOk v) : (rp v).length ≤ 1001 := by
  cases v with
  | int i => exact (by rw [show (rp (.int i)).length = (Str.ofString (toString i)).length from rfl, PySem.ofString_length]; exact int_text_length_le (k := 1000) (by decide) h)
  | str x => exact Nat.le_succ_of_le h
  | _ => cases h
theorem str_len_app {x y : Str} : (x ++ y).length = x.length + y.length := Array.size_append
theorem str_empty {x : Str} : Str.empty ++ x = x := congrArg Str.mk Array.empty_append
section
variable {c : Cx} {A : Around} {E : Value → AS → Prop} {a : AS} {env : Env} {fs : List Frm} {σ : Addr → Option (Nat × Cell)} {g : Array GenState} {k : Nat} {D : Addr} {vs : List AV} {d : Nat}
theorem W_pow {i n : Int} {t u : Tok} {Q : Value → AS → Prop} (hn : 0 ≤ n) (hn2 : n ≤ 1000000) (hi : i.natAbs < 2 ^ 64) (h : ∀ t, Q (.int (i ^ n.toNat) t) a) : W c A (binaryOp .Pow (.int i t) (.int n u)) Q E a := fun s hs =>
  pow_int_small hn hn2 hi ⟨a, hs.of_eq, h _⟩
theorem W_band {i j : Nat} {t u : Tok} {Q : Value → AS → Prop} (h : ∀ t, Q (.int ((i &&& j : Nat) : Int) t) a) : W c A (binaryOp .BitAnd (.int i t) (.int j u)) Q E a := fun s hs =>
  and_int ⟨a, hs.of_eq, by rw [band_nat]; exact h _⟩
theorem W_bor {i j : Nat} {t u : Tok} {Q : Value → AS → Prop} (h : ∀ t, Q (.int ((i ||| j : Nat) : Int) t) a) : W c A (binaryOp .BitOr (.int i t) (.int j u)) Q E a := fun s hs =>
  or_int ⟨a, hs.of_eq, by rw [bor_nat]; exact h _⟩
theorem W_add_str {x y : Str} {t u : Tok} {Q : Value → AS → Prop} (hz : x.length + y.length ≤ 1000000) (h : ∀ t, Q (.str (x ++ y) t) a) : W c A (binaryOp .Add (.str x t) (.str y u)) Q E a := fun s hs =>
  PyProof.Rows.add_str (fun t' tk => ⟨a, hs.of_eq, h _⟩) (sizeLine_big hz)
theorem W_setItem_list {i : Int} {t : Tok} {u : Value} {Q : Unit → AS → Prop} (hl : σ D = some (k, .list vs)) (h0 : 0 ≤ i) (hn : i.toNat < vs.length) (hz : vs.length ≤ 1000000)
    (h : ∀ σ', σ' = upd σ D (some (k, .list (vs.set i.toNat (er u)))) → Q () ⟨fs, σ', g⟩) : W c A (setItem (.ref D) (.int i t) u) Q E ⟨fs, σ, g⟩ := fun s hs => by
  obtain ⟨us, n, ho, e⟩ := own_list hs hl
  have hsz := size_of e
  refine ki_setAt ho h0 (by first | exact Nat.le_trans (by assumption) (by decide) | exact Nat.le_add_right .. | exact Nat.lt_succ_self _ | exact Nat.le_of_lt (by assumption) | lia) (by first | exact Nat.le_trans (by assumption) (by decide) | exact Nat.le_add_right .. | exact Nat.lt_succ_self _ | exact Nat.le_of_lt (by assumption) | lia) ⟨_, hs.put hl upd_keeps (Heap.get?_update_self _ ho rfl) (cl' := .list (vs.set i.toNat (er u))) ⟨us.setIfInBounds i.toNat u, _, rfl, ?_⟩, h _ rfl⟩
  rw [Array.toList_setIfInBounds, List.map_set, e]
theorem W_repr {v : AV} {u : Value} {Q : Value → AS → Prop} (hu : er u = v) (hr : RpOk v) (h : ∀ t, Q (.str (rp v) t) a) : W c A (call (.builtin "repr") [u]) Q E a := fun s hs => by
  cases v with
  | int i =>
    obtain ⟨t, rfl⟩ := er_int hu
    exact P.repr_of_int (Nat.lt_trans hr (by decide)) ⟨a, hs.of_eq, h _⟩
  | str x =>
    obtain ⟨t, rfl⟩ := er_str hu
    exact P.repr_of_str ⟨a, hs.of_eq, h _⟩ (sizeLine_big (Nat.le_trans hr (by decide)))
  | _ => cases hr
theorem W_Joined3 {x y : Str} {e : Expr} {k1 k2 : Nat} {p1 p2 p3 pos : Pos} {Q : Value → AS → Prop} (hx : x.length ≤ 1000) (hy : y.length ≤ 1000)
    (h : W c A (eval e env) (fun u a₁ => RpOk (er u) ∧ ∀ t, Q (.str ((x ++ rp (er u)) ++ y) t) a₁) E a) :
    W c A (eval (.JoinedStr [.Constant (.str x) k1 p1, .FormattedValue e 114 none p2, .Constant (.str y) k2 p3] pos) env) Q E a := fun s hs => by
  refine wpAny_JoinedStr ?_
  show wpAny _ _ (eval (.Constant (.str x) k1 p1) env) _ _ _
  refine wpAny_mkText ?_
  refine ⟨x, _, rfl, by rw [str_empty]; exact sizeLine_big (Nat.le_trans hx (by decide)), ?_⟩
  rw [str_empty]
  refine wpAny_FormattedValue_repr (wpAny_mono (h _ hs.of_eq) (fun u s₁ pz30 => pz30.elim fun a₁ pz31 => pz31.elim fun h1 pz32 => pz32.elim fun hr q => ?_) fun _ _ x => x)
  have hl := hr.len
  have fin : ∀ (y' : Str) (t : Tok) (s₂ : Shared), St c a₁ s₂ → y' = rp (er u) → ∃ y1 t1, Value.str y' t = .str y1 t1 ∧ (x ++ y1).length ≤ sizeLine ∧ Joins (model c.prog c.w) A (fun e s' => ∃ a', St c a' s' ∧ E e a') [eval (.Constant (.str y) k2 p3) env] (x ++ y1) (fun out s₁ => out.length ≤ sizeLine ∧ ∃ a', St c a' { s₁ with toks := s₁.toks + 1 } ∧ Q (.str out s₁.toks) a') s₂ := fun y' t s₂ h2 ey => by
    subst ey
    refine ⟨_, _, rfl, sizeLine_big (by rw [str_len_app]; lia), ?_⟩
    refine wpAny_mkText ⟨y, _, rfl, sizeLine_big (by rw [str_len_app, str_len_app]; lia), sizeLine_big (by rw [str_len_app, str_len_app]; lia), a₁, h2.of_eq, q _⟩
  cases u with
  | int i t => exact pyReprObj_int (Nat.lt_trans hr (by decide)) (wpAny_formatField_str (fin _ _ _ h1.of_eq rfl) (fin _ _ _ h1.of_eq rfl) (sizeLine_big (Nat.le_trans hl (by decide))))
  | str x t => exact pyReprObj_str (wpAny_formatField_str (fin _ _ _ h1.of_eq rfl) (fin _ _ _ h1.of_eq rfl) (sizeLine_big (Nat.le_trans hl (by decide)))) (sizeLine_big (Nat.le_trans hl (by decide)))
  | _ => cases hr
theorem W_str_exc {e t : Addr} {m : Str} {tb : Option Addr} {Q : Value → AS → Prop} (hA : A.units + 2 < cLine) (hX : Exc a.σ e t (.type "ValueError") [.str m] tb) (h : ∀ u, Q (.str m u) a) : W c A (call (.type "str") [.ref e]) Q E a := fun s hs => by
  obtain ⟨o, vs, ho, hc, _, hd, h0, _, _⟩ := exc_get hs hX
  obtain ⟨us, n, ht, eu⟩ := own_tuple hs hX.ht
  obtain ⟨u, ul, e1, e2, e3⟩ := List.map_eq_cons_iff.mp eu
  rw [List.map_eq_nil_iff] at e3; subst e3
  obtain ⟨t', rfl⟩ := er_str e2
  refine P.str_of_exc_one (tk := t') PySem.F.excStr_ValueError hA ⟨o, vs, ho, hc, hd, h0⟩ ⟨_, n, ht, rfl, ?_⟩ ⟨a, hs, h _⟩
  show Data.seq us n = Data.seq _ n
  rw [show us = [Value.str m t'].toArray from Array.toList_inj.mp e1]
end
end Mine.Internal
open PySem PySem.W PyProof.Rows
set_option maxRecDepth 100000
namespace Mine.Internal
abbrev ROW := PySem.Challenge.rw_du0008_04
noncomputable def stN : Stmt := .Pass ⟨0, 0, 0, 0⟩
noncomputable def topS (i : Nat) : Stmt := PySem.Challenge.pw_du0008_04.main.body.getD i stN
noncomputable def inS (i j : Nat) : Stmt := match topS i with
  | .ClassDef _ _ _ b _ _ _ _ _ _ _ => b.getD j stN
  | s => s
noncomputable def sv (x : String) (t : Nat) : Value := .str (Str.ofString x) t
noncomputable def tuO (l : List Value) : Obj := { cls := .type "tuple", data := .seq l.toArray }
noncomputable def fiO (c : String) (l : List Value) : Obj := { cls := .type c, data := .fields l.toArray }
noncomputable def diO (P : Params) (l : List (String × Nat × Value)) (n : Nat) : Obj :=
  { cls := .type "dict", data := .dict (l.map fun e => { hash := PyData.keyHash P (Str.ofString e.1), key := sv e.1 e.2.1, val := e.2.2 }).toArray n }
noncomputable def coO (x q : String) (t line args fl r1 k r2 : Nat) (v1 v2 : Value) (r3 t2 t3 : Nat) : Obj := fiO "code"
  [sv x t, sv q (t + 1), sv "/claim/cut.py" (t + 2), .int line 0, .int args 0, .int 0 0, .int 0 0, .int fl 0, .ref r1, .bool true, .int k 0, .ref r2, .none, v1, v2, .ref r3, .int t2 0, .int line 0, sv "/claim/cut.py" t3]
noncomputable def fnO (s : Stmt) (q : String) (df pm : Value) (c : Nat) : Obj := match s with
  | .FunctionDef n ps b _ _ _ sc _ _ _ => { cls := .type "function", data := .func { name := n, qualname := Str.ofString q, params := ps, body := .stmts b, scope := sc, globals := 3, closure := [], defaults := df, kwdefaults := .none, pyModule := pm, code := .ref c } }
  | _ => { cls := .none, data := .plain }
noncomputable def ko3 (P : Params) : Obj := diO P [("__name__", 165, (sv "law_du0008_04" 370)), ("__doc__", 166, Value.none), ("__package__", 167, Value.none), ("__loader__", 168, Value.builtin "__main__.__loader__#opaque"), ("__spec__", 169, Value.none), ("__annotations__", 170, Value.ref 6), ("__builtins__", 171, Value.ref 4), ("__file__", 173, (sv "/claim/cut.py" 172)), ("__cached__", 174, Value.none), ("_NODE_OUT", 191, Value.int (-1) 190), ("_NODE_DONE", 194, Value.int (-2) 193), ("_NodeInfo", 231, Value.ref 33), ("CycleError", 249, Value.ref 48), ("TopologicalSorter", 369, Value.ref 130), ("_law_ring", 377, Value.ref 139), ("_law_free", 383, Value.ref 144), ("_law_adds", 399, Value.ref 151), ("_law_added", 408, Value.ref 158), ("_law_first", 417, Value.ref 165), ("_law_walk", 431, Value.ref 172), ("_law_tell", 437, Value.ref 177), ("_law_groups", 449, Value.ref 184), ("_law_stopped", 461, Value.ref 191), ("_law_rest", 467, Value.ref 196), ("law", 473, Value.ref 201)] 25
noncomputable def ko28 : Obj := coO "__init__" "_NodeInfo.__init__" 211 7 2 3 23 181 24 (Value.ref 25) (Value.ref 26) 27 216 217
noncomputable def ko29 : Obj := fnO (inS 3 1) "_NodeInfo.__init__" (Value.none) (sv "cpy313.graphlib" 187) 28
noncomputable def ko32 (P : Params) : Obj := diO P [("__module__", 202, (sv "cpy313.graphlib" 187)), ("__firstlineno__", 206, Value.int 4 205), ("__slots__", 210, Value.ref 22), ("__init__", 218, Value.ref 29), ("__static_attributes__", 222, Value.ref 30), ("node", 224, Value.ref 34), ("npredecessors", 226, Value.ref 35), ("successors", 228, Value.ref 36), ("__doc__", 229, Value.none)] 5
noncomputable def ko33 : Obj := { cls := Value.type "type", data := Data.cls { name := Str.ofString "_NodeInfo", bases := [Value.type "object"], mro := [Value.ref 33, Value.type "object"], ns := 32, qualname := Str.ofString "_NodeInfo", hasDict := false, slotNames := [Str.ofString "node", Str.ofString "npredecessors", Str.ofString "successors"] }, slots := #[none, none, some ((sv "_NodeInfo" 195)), some ((sv "_NodeInfo" 203)), some (Value.builtin "object.__new__"), some (Value.bool false)] }
noncomputable def ko34 : Obj := fiO "member_descriptor" [(sv "node" 223), Value.ref 33, Value.builtin "proto.slot", Value.builtin "proto.slot#set", Value.int 2 0]
noncomputable def ko35 : Obj := fiO "member_descriptor" [(sv "npredecessors" 225), Value.ref 33, Value.builtin "proto.slot", Value.builtin "proto.slot#set", Value.int 1 0]
noncomputable def ko36 : Obj := fiO "member_descriptor" [(sv "successors" 227), Value.ref 33, Value.builtin "proto.slot", Value.builtin "proto.slot#set", Value.int 0 0]
noncomputable def ko47 (P : Params) : Obj := diO P [("__module__", 239, (sv "cpy313.graphlib" 187)), ("__firstlineno__", 243, Value.int 11 242), ("__static_attributes__", 244, Value.ref 46), ("__weakref__", 246, Value.ref 49), ("__doc__", 247, Value.none)] 3
noncomputable def ko48 : Obj := { cls := Value.type "type", data := Data.cls { name := Str.ofString "CycleError", bases := [Value.type "ValueError"], mro := [Value.ref 48, Value.type "ValueError", Value.type "Exception", Value.type "BaseException", Value.type "object"], ns := 47, qualname := Str.ofString "CycleError" }, slots := #[some (Value.ref 39), none, some ((sv "CycleError" 232)), some ((sv "CycleError" 240)), some (Value.builtin "ValueError.__new__"), some (Value.bool true)] }
noncomputable def ko59 : Obj := tuO [Value.none]
noncomputable def ko65 : Obj := coO "__init__" "TopologicalSorter.__init__" 262 15 2 3 60 181 61 (Value.ref 62) (Value.ref 63) 64 269 270
noncomputable def ko66 : Obj := fnO (inS 5 0) "TopologicalSorter.__init__" (Value.ref 59) (sv "cpy313.graphlib" 187) 65
noncomputable def ko72 : Obj := coO "_get_nodeinfo" "TopologicalSorter._get_nodeinfo" 272 24 2 3 67 181 68 (Value.ref 69) (Value.ref 70) 71 278 279
noncomputable def ko73 : Obj := fnO (inS 5 1) "TopologicalSorter._get_nodeinfo" (Value.none) (sv "cpy313.graphlib" 187) 72
noncomputable def ko79 : Obj := coO "add" "TopologicalSorter.add" 281 29 2 7 74 181 75 (Value.ref 76) (Value.ref 77) 78 290 291
noncomputable def ko80 : Obj := fnO (inS 5 2) "TopologicalSorter.add" (Value.none) (sv "cpy313.graphlib" 187) 79
noncomputable def ko84 : Obj := coO "prepare" "TopologicalSorter.prepare" 293 38 1 3 81 181 82 (Value.none) (Value.none) 83 296 297
noncomputable def ko85 : Obj := fnO (inS 5 3) "TopologicalSorter.prepare" (Value.none) (sv "cpy313.graphlib" 187) 84
noncomputable def ko91 : Obj := coO "get_ready" "TopologicalSorter.get_ready" 299 46 1 3 86 181 87 (Value.ref 88) (Value.ref 89) 90 306 307
noncomputable def ko92 : Obj := fnO (inS 5 4) "TopologicalSorter.get_ready" (Value.none) (sv "cpy313.graphlib" 187) 91
noncomputable def ko98 : Obj := coO "is_active" "TopologicalSorter.is_active" 309 57 1 3 93 181 94 (Value.ref 95) (Value.ref 96) 97 313 314
noncomputable def ko99 : Obj := fnO (inS 5 5) "TopologicalSorter.is_active" (Value.none) (sv "cpy313.graphlib" 187) 98
noncomputable def ko105 : Obj := coO "__bool__" "TopologicalSorter.__bool__" 316 62 1 3 100 181 101 (Value.ref 102) (Value.ref 103) 104 320 321
noncomputable def ko106 : Obj := fnO (inS 5 6) "TopologicalSorter.__bool__" (Value.none) (sv "cpy313.graphlib" 187) 105
noncomputable def ko112 : Obj := coO "done" "TopologicalSorter.done" 323 65 1 7 107 181 108 (Value.ref 109) (Value.ref 110) 111 334 335
noncomputable def ko113 : Obj := fnO (inS 5 7) "TopologicalSorter.done" (Value.none) (sv "cpy313.graphlib" 187) 112
noncomputable def ko119 : Obj := coO "_find_cycle" "TopologicalSorter._find_cycle" 337 88 1 3 114 181 115 (Value.ref 116) (Value.ref 117) 118 347 348
noncomputable def ko120 : Obj := fnO (inS 5 8) "TopologicalSorter._find_cycle" (Value.none) (sv "cpy313.graphlib" 187) 119
noncomputable def ko126 : Obj := coO "static_order" "TopologicalSorter.static_order" 350 117 1 35 121 181 122 (Value.ref 123) (Value.ref 124) 125 355 356
noncomputable def ko127 : Obj := fnO (inS 5 9) "TopologicalSorter.static_order" (Value.none) (sv "cpy313.graphlib" 187) 126
noncomputable def ko129 (P : Params) : Obj := diO P [("__module__", 257, (sv "cpy313.graphlib" 187)), ("__firstlineno__", 261, Value.int 13 260), ("__init__", 271, Value.ref 66), ("_get_nodeinfo", 280, Value.ref 73), ("add", 292, Value.ref 80), ("prepare", 298, Value.ref 85), ("get_ready", 308, Value.ref 92), ("is_active", 315, Value.ref 99), ("__bool__", 322, Value.ref 106), ("done", 336, Value.ref 113), ("_find_cycle", 349, Value.ref 120), ("static_order", 357, Value.ref 127), ("__static_attributes__", 362, Value.ref 128), ("__dict__", 364, Value.ref 131), ("__weakref__", 366, Value.ref 132), ("__doc__", 367, Value.none)] 4
noncomputable def ko130 : Obj := { cls := Value.type "type", data := Data.cls { name := Str.ofString "TopologicalSorter", bases := [Value.type "object"], mro := [Value.ref 130, Value.type "object"], ns := 129, qualname := Str.ofString "TopologicalSorter" }, slots := #[none, none, some ((sv "TopologicalSorter" 250)), some ((sv "TopologicalSorter" 258)), some (Value.builtin "object.__new__"), some (Value.bool true)] }
noncomputable def ko138 : Obj := coO "_law_ring" "_law_ring" 372 124 2 3 135 181 136 (Value.none) (Value.none) 137 375 376
noncomputable def ko139 : Obj := fnO (topS 7) "_law_ring" (Value.none) (sv "law_du0008_04" 370) 138
noncomputable def ko143 : Obj := coO "_law_free" "_law_free" 378 139 5 3 140 181 141 (Value.none) (Value.none) 142 381 382
noncomputable def ko144 : Obj := fnO (topS 8) "_law_free" (Value.none) (sv "law_du0008_04" 370) 143
noncomputable def ko150 : Obj := coO "_law_adds" "_law_adds" 384 152 3 3 145 181 146 (Value.ref 147) (Value.ref 148) 149 397 398
noncomputable def ko151 : Obj := fnO (topS 9) "_law_adds" (Value.none) (sv "law_du0008_04" 370) 150
noncomputable def ko157 : Obj := coO "_law_added" "_law_added" 400 166 2 3 152 181 153 (Value.ref 154) (Value.ref 155) 156 406 407
noncomputable def ko158 : Obj := fnO (topS 10) "_law_added" (Value.none) (sv "law_du0008_04" 370) 157
noncomputable def ko164 : Obj := coO "_law_first" "_law_first" 409 171 1 3 159 181 160 (Value.ref 161) (Value.ref 162) 163 415 416
noncomputable def ko165 : Obj := fnO (topS 11) "_law_first" (Value.none) (sv "law_du0008_04" 370) 164
noncomputable def ko171 : Obj := coO "_law_walk" "_law_walk" 418 178 4 3 166 181 167 (Value.ref 168) (Value.ref 169) 170 429 430
noncomputable def ko172 : Obj := fnO (topS 12) "_law_walk" (Value.none) (sv "law_du0008_04" 370) 171
noncomputable def ko176 : Obj := coO "_law_tell" "_law_tell" 432 193 4 3 173 181 174 (Value.none) (Value.none) 175 435 436
noncomputable def ko177 : Obj := fnO (topS 13) "_law_tell" (Value.none) (sv "law_du0008_04" 370) 176
noncomputable def ko183 : Obj := coO "_law_groups" "_law_groups" 438 214 3 3 178 181 179 (Value.ref 180) (Value.ref 181) 182 447 448
noncomputable def ko184 : Obj := fnO (topS 14) "_law_groups" (Value.none) (sv "law_du0008_04" 370) 183
noncomputable def ko190 : Obj := coO "_law_stopped" "_law_stopped" 450 223 3 3 185 181 186 (Value.ref 187) (Value.ref 188) 189 459 460
noncomputable def ko191 : Obj := fnO (topS 15) "_law_stopped" (Value.none) (sv "law_du0008_04" 370) 190
noncomputable def ko195 : Obj := coO "_law_rest" "_law_rest" 462 231 7 3 192 181 193 (Value.none) (Value.none) 194 465 466
noncomputable def ko196 : Obj := fnO (topS 16) "_law_rest" (Value.none) (sv "law_du0008_04" 370) 195
noncomputable def ko200 : Obj := coO "law" "law" 468 244 1 3 197 181 198 (Value.none) (Value.none) 199 471 472
noncomputable def ko201 : Obj := fnO (topS 17) "law" (Value.none) (sv "law_du0008_04" 370) 200
noncomputable def KF (P : Params) : Frag := [(3, ko3 P), (28, ko28), (29, ko29), (32, ko32 P), (33, ko33), (34, ko34), (35, ko35), (36, ko36), (47, ko47 P), (48, ko48), (59, ko59), (65, ko65), (66, ko66), (72, ko72), (73, ko73), (79, ko79), (80, ko80), (84, ko84), (85, ko85), (91, ko91), (92, ko92), (98, ko98), (99, ko99), (105, ko105), (106, ko106), (112, ko112), (113, ko113), (119, ko119), (120, ko120), (126, ko126), (127, ko127), (129, ko129 P), (130, ko130), (138, ko138), (139, ko139), (143, ko143), (144, ko144), (150, ko150), (151, ko151), (157, ko157), (158, ko158), (164, ko164), (165, ko165), (171, ko171), (172, ko172), (176, ko176), (177, ko177), (183, ko183), (184, ko184), (190, ko190), (191, ko191), (195, ko195), (196, ko196), (200, ko200), (201, ko201)]
noncomputable def KA : List Addr := [3, 28, 29, 32, 33, 34, 35, 36, 47, 48, 59, 65, 66, 72, 73, 79, 80, 84, 85, 91, 92, 98, 99, 105, 106, 112, 113, 119, 120, 126, 127, 129, 130, 138, 139, 143, 144, 150, 151, 157, 158, 164, 165, 171, 172, 176, 177, 183, 184, 190, 191, 195, 196, 200, 201]
theorem KA_eq (P : Params) : KA = (KF P).map (·.1) := by kernel_rfl
noncomputable def LO : List Str := ["_NODE_OUT", "_NODE_DONE", "_NodeInfo", "CycleError", "TopologicalSorter", "_law_ring", "_law_free", "_law_adds", "_law_added", "_law_first", "_law_walk", "_law_tell", "_law_groups", "_law_stopped", "_law_rest"].map Str.ofString
noncomputable def VW : Program := view ROW.prog [17]
noncomputable def lawD : DefRec := ((defOf VW ROW.name).get (by kernel_rfl)).1
theorem left : LeftO ROW.prog VW LO (fun s => xlAt VW [] s && recOk [] s) (Hook.obs (kHook KF KA KA_eq)) (Hook.val (kHook KF KA KA_eq)) 4000 := fun w => by
  unfold openEnds fencedOpening topFrom
  rw [Fast.te10274390034422433532, Fast.te14364793385576792824, Fast.te4187177175401517315, Fast.te14289696077712309145, Fast.te14082659384304107361]
  kernel_rfl
theorem said : ROW.wellSaid = true := by
  rw [Fast.te9446332074065402090]
  kernel_rfl
end Mine.Internal
namespace Mine.Internal
open PySem PySem.W PyProof.Rows PySem.Calls
noncomputable abbrev KK (w : World) : Frag := KF w.params
structure Lw (c : Cx) : Prop where
  K : c.K = KK c.w
  len : Glob c "len" (.builtin "len")
  bool : Glob c "bool" (.type "bool")
  tuple : Glob c "tuple" (.type "tuple")
  ValueError : Glob c "ValueError" (.type "ValueError")
  NodeInfo : Glob c "_NodeInfo" (.ref CNI)
  set : Glob c "set" (.type "set")
  iter : Glob c "iter" (.builtin "iter")
  StopIteration : Glob c "StopIteration" (.type "StopIteration")
  NODE_OUT : ∃ t, Glob c "_NODE_OUT" (.int (-1) t)
  NODE_DONE : ∃ t, Glob c "_NODE_DONE" (.int (-2) t)
theorem a_node2info {w : World} : AttrOk (KK w) CTS "_node2info" := ⟨by rfl, by rfl, ⟨none, by rfl, by rfl⟩, by rfl, by rfl, by rfl⟩
theorem a_ready {w : World} : AttrOk (KK w) CTS "_ready_nodes" := ⟨by rfl, by rfl, ⟨none, by rfl, by rfl⟩, by rfl, by rfl, by rfl⟩
theorem a_npass {w : World} : AttrOk (KK w) CTS "_npassedout" := ⟨by rfl, by rfl, ⟨none, by rfl, by rfl⟩, by rfl, by rfl, by rfl⟩
theorem a_nfin {w : World} : AttrOk (KK w) CTS "_nfinished" := ⟨by rfl, by rfl, ⟨none, by rfl, by rfl⟩, by rfl, by rfl, by rfl⟩
theorem sl_node {w : World} : SlotOk (KK w) CNI "node" 0 := ⟨by rfl, by rfl, by rfl, by rfl, ⟨_, by rfl, by rfl, by rfl, by rfl, by rfl, by rfl⟩⟩
theorem sl_np {w : World} : SlotOk (KK w) CNI "npredecessors" 1 := ⟨by rfl, by rfl, by rfl, by rfl, ⟨_, by rfl, by rfl, by rfl, by rfl, by rfl, by rfl⟩⟩
theorem sl_su {w : World} : SlotOk (KK w) CNI "successors" 2 := ⟨by rfl, by rfl, by rfl, by rfl, ⟨_, by rfl, by rfl, by rfl, by rfl, by rfl, by rfl⟩⟩
theorem fn_ninit {w : World} : FnOk (KK w) 29 ["self", "node"] [] [] := ⟨rfl, rfl, rfl, rfl, rfl, rfl, rfl, rfl, rfl, by decide +kernel⟩
theorem fn_getinfo {w : World} : FnOk (KK w) 73 ["self", "node"] ["result"] ["_NodeInfo"] := ⟨rfl, rfl, rfl, rfl, rfl, rfl, rfl, rfl, rfl, by decide +kernel⟩
theorem fn_is_active {w : World} : FnOk (KK w) 99 ["self"] [] ["ValueError", "bool"] := ⟨rfl, rfl, rfl, rfl, rfl, rfl, rfl, rfl, rfl, by decide +kernel⟩
theorem makes_NI {w : World} : makesIn (KK w) CNI = true := by rfl
theorem keep_NI {w : World} : keepIn (KK w) (.ref CNI) = true := by rfl
theorem keep_getinfo {w : World} : keepIn (KK w) (.ref 73) = true := by rfl
theorem init_NI {w : World} : findIn (KK w) (.ref CNI) "__init__" = some (some (.ref 29)) := by rfl
theorem fnt_NI {w : World} : typeIn (KK w) (.ref 29) = some (.type "function") := by rfl
theorem fn_add {w : World} : FnOk (KK w) 80 ["self", "node", "predecessors"] ["nodeinfo", "pred", "pred_info"] ["ValueError", "len"] := ⟨rfl, rfl, rfl, rfl, rfl, rfl, rfl, rfl, rfl, by decide +kernel⟩
theorem bind_add {w : World} {u1 u2 : Value} {rest : List Value} : bindArgs (fdOf (KK w) 80) ⟨[u1, u2] ++ rest, []⟩ = (do let t ← newTuple rest; pure ((["self", "node", "predecessors"] : List Str).zip ([u1, u2] ++ [t]))) := by
  cases rest <;> kernel_rfl
theorem bo_getinfo {w : World} : BindOk (KK w) CTS "_get_nodeinfo" 73 := ⟨rfl, rfl, rfl, rfl, rfl, rfl, by decide +kernel⟩
theorem bo_add {w : World} : BindOk (KK w) CTS "add" 80 := ⟨rfl, rfl, rfl, rfl, rfl, rfl, by decide +kernel⟩
theorem bo_done {w : World} : BindOk (KK w) CTS "done" 113 := ⟨rfl, rfl, rfl, rfl, rfl, rfl, by decide +kernel⟩
theorem no_attr {nd : Addr} {rv : AV} {st : SS} {name : Str} (h : codeOf name ∉ (["_node2info", "_ready_nodes", "_npassedout", "_nfinished"] : List Str).map codeOf) : name ∉ (sAttrs nd rv st).map (·.1) := fun q => h (List.mem_map_of_mem q)
theorem fn_tinit {w : World} : FnOk (KK w) 66 ["self", "graph"] ["node", "predecessors"] [] := ⟨rfl, rfl, rfl, rfl, rfl, rfl, rfl, rfl, rfl, by decide +kernel⟩
theorem bind_tinit {w : World} {u : Value} {s : Shared} (X : (KK w).In s.heap) : BindsTo s (fdOf (KK w) 66) ⟨[u], []⟩ ((["self", "graph"] : List Str).zip [u, .none]) :=
  BindsTo.of_defaults rfl (X _ _ rfl) rfl rfl (by kernel_rfl)
theorem makes_TS {w : World} : makesIn (KK w) CTS = true := by rfl
theorem init_TS {w : World} : findIn (KK w) (.ref CTS) "__init__" = some (some (.ref 66)) := by rfl
theorem fnt_TS {w : World} : typeIn (KK w) (.ref 66) = some (.type "function") := by rfl
theorem keep_TS {w : World} : keepIn (KK w) (.ref CTS) = true := by rfl
theorem fn_get_ready {w : World} : FnOk (KK w) 92 ["self"] ["result", "n2i", "node"] ["ValueError", "tuple", "_NODE_OUT", "len"] := ⟨rfl, rfl, rfl, rfl, rfl, rfl, rfl, rfl, rfl, by decide +kernel⟩
theorem fn_done {w : World} : FnOk (KK w) 113 ["self", "nodes"] ["n2i", "node", "nodeinfo", "stat", "successor", "successor_info"] ["ValueError", "_NODE_OUT", "_NODE_DONE"] := ⟨rfl, rfl, rfl, rfl, rfl, rfl, rfl, rfl, rfl, by decide +kernel⟩
theorem bind_done {w : World} {u1 : Value} {rest : List Value} : bindArgs (fdOf (KK w) 113) ⟨[u1] ++ rest, []⟩ = (do let t ← newTuple rest; pure ((["self", "nodes"] : List Str).zip ([u1] ++ [t]))) := by
  cases rest <;> kernel_rfl
theorem fn_find {w : World} : FnOk (KK w) 120 ["self"] ["n2i", "stack", "itstack", "seen", "node2stacki", "node"] ["set", "iter", "len", "StopIteration"] := ⟨rfl, rfl, rfl, rfl, rfl, rfl, rfl, rfl, rfl, by decide +kernel⟩
theorem sAttrs_nd {nd : Addr} {rv : AV} {st : SS} : ((sAttrs nd rv st).map (·.1)).Nodup := nodup_of_codes (by show ((["_node2info", "_ready_nodes", "_npassedout", "_nfinished"] : List Str).map codeOf).Nodup; decide +kernel)
end Mine.Internal
open Mine.Internal PySem PySem.W PyProof.Rows PySem.Calls
local macro_rules | `(tactic| walk_at $s:str) => do
  let x ← match s.getString with
    | "var" => pure "aVarAt.nth :nm urfl"
    | "nm" => pure "aNameAt.here|aNameAt.there wnm"
    | "set" => pure "aSetVar.here|aSetVar.there wset"
    | "mem" => pure "aList.mem_cons_self|aList.mem_cons_of_mem wmem"
    | "le" => pure "aNat.le_trans . d|aNat.le_add_right|l"
    | "t" => pure "urfl"
    | "f" => pure "uBool.false_ne_true"
    | "st" => pure "rW_consG j|aW_Name . :var|1Nx.nx|rW_isTrue_Compare1|rW_spl|rW_If|rW_truthy_bool|aW_storeName . :set|rW_spl_nil|aW_Glob . :mem|rW_Const_int i|rW_callWith|rW_args|rW_nil|rAll.int i|rAll.ref|rW_Call_Name|rW_Call_method|rW_Attribute|rW_Assign_Name|rW_Const_str i|rW_BinOp|ws2"
    | "s2" => pure "rW_Compare1|rW_args_nil|rW_slice_from0|rW_slice_to0|rW_Subscript|rAll.none|rAll.bool|rAll.str i|rW_isTrue_Not|rW_isTrue_BoolOp|rW_allTrue_and|rW_allTrue_or|rW_allTrue_nil|rW_And2|rW_Or2|rW_UnaryOp|rW_IfExp|rW_Return_some|rW_Assign_Attr|rW_NamedExpr|rW_AugAttr|rW_Assign_two|rW_Assign_Sub|rW_assign_Sub|rW_assign_Name|rW_Break|rW_Continue|rW_Pass|rW_Const_none|rW_Const_bool|rW_List|rW_Tuple|rW_is_none|rW_isnot_none|rW_lt_int|rW_le_int|rW_gt_int|rW_ge_int|rW_eq_int|rW_ne_int|rW_eq_str|rW_ne_str|rW_isinst_bool|rW_isTrue_Compare2|rW_isTrue_any|rW_add i|rW_sub i|rW_iadd i|rW_isub i|rW_neg i|0W_ExprE|1Nx.br|1Nx.co|2Nx.re|3Fx.nx|4Fx.re|aW_NameCap . :mem :mem :var .|aite_t :t|aite_f :f"
    | _ => Lean.Macro.throwUnsupported
  let nd (k : String) (a : List Lean.Syntax) : Lean.Syntax := .node .none k.toName a.toArray
  let tm (k : String) (a : List Lean.Syntax) := nd ("Lean.Parser.Term." ++ k) a
  let tc (k : String) (a : List Lean.Syntax) := nd ("Lean.Parser.Tactic." ++ k) a
  let str (k : String) : Lean.Syntax := .atom .none k
  let sq (l : List Lean.Syntax) := tc "tacticSeq" [tc "tacticSeq1Indented" [nd "null" (l.intersperse (str ";"))]]
  let walk (k : String) := nd "PyProof.Rows.tacticWalk_at_" [str "walk_at", Lean.Syntax.mkStrLit k]
  let dot (t : Lean.Syntax) := nd "Lean.cdot" [nd "Lean.cdotTk" [str "·"], sq [t]]
  let hole := tm "hole" [str "_"]
  let asm := tc "assumption" [str "assumption"]
  let word (w : String) : Lean.Syntax :=
    let n := (w.drop 1).toString
    let i : Lean.Syntax := Lean.mkIdent n.toName
    let arg (l : List Lean.Syntax) := tc "refine" [str "refine", tm "app" [i, nd "null" (l ++ [tm "syntheticHole" [str "?", str "_"]])]]
    let opt (k : String) := tc k [str k, tc "optConfig" [nd "null" []]]
    match w.front with
    | 'r' => arg []
    | 'a' => tc "apply" [str "apply", i]
    | 'i' => tc "intro" [str "intro", nd "null" [hole]]
    | 'j' => tc "intro" [str "intro", nd "null" [hole, hole]]
    | 'w' => walk n
    | ':' => dot (walk n)
    | '.' => dot asm
    | 'd' => opt "decide"
    | 'l' => opt "lia"
    | 'u' => tc "withUnfoldingAll" [str "with_unfolding_all", sq [tc "exact" [str "exact", i]]]
    | c => arg (tm "byTactic" [str "by", sq [asm]] :: List.replicate (c.toNat - 48) hole)
  let f := tc "first" [str "first", nd "null" ((x.splitOn "|").map fun a => nd "group" [str "|", sq ((a.splitOn " ").map word)])]
  return if s.getString == "le" then f else tc "withReducible" [str "with_reducible", sq [f]]
namespace Mine.Internal
open PySem PySem.W PyProof.Rows PySem.Calls
section
variable {c : Cx} {A : Around} {E : Value → AS → Prop} {fs : List Frm} {σ : Addr → Option (Nat × Cell)} {g : Array GenState} {d : Nat} {x dx nd : Addr} {rv : AV} {as : List NAd} {ep : Nat} {st : SS}
theorem ninit_spec {u : Value} {k : AV} {y dy : Addr} {R : Result → AS → Prop} (lw : Lw c) (hA : AOk A fs (d + 1)) (hu : er u = k) (hk : k.isKey = true) (hy : σ y = some (1, .inst CNI dy [])) (hdy : σ dy = some (1, .attrs []))
    (h : ∀ s σ', σ s = none → s ≠ y → σ' = upd (upd σ s (some (2, .list []))) y (some (1, .inst CNI dy [some k, some (.int 0), some (.ref s)])) → R (.ok (.ret .none)) ⟨fs, σ', g⟩) : Wk c A (.call (.ref 29) ⟨[.ref y, u], []⟩) R ⟨fs, σ, g⟩ := by
  refine Wk_call_G lw.K (ns := ["self", "node"]) (us := [.ref y, k]) (gs := []) fn_ninit rfl (by kernel_rfl) (by simp [hu]) (.cons (.cons .nil)) (by first | decide | simp) hA (fun L env B P X hfr hh hL hA' hout hE hF hU => ?_)
  have ne : dy ≠ y := fun q => by rw [q, hy] at hdy; cases hdy
  refine W_consG (fun _ _ => ?_)
  repeat walk_at "st"
  refine All.key hk fun u' e' => ?_
  repeat walk_at "st"
  refine W_setSlot hy hdy (lw.K ▸ sl_node) (by decide) ?_
  repeat walk_at "st"
  refine W_setSlot upd_self ((upd_ne ne).trans hdy) (lw.K ▸ sl_np) (by decide) ?_
  repeat walk_at "st"
  refine W_newList 2 (by first | exact Nat.zero_le _ | decide | simp) (fun s h0 σ' e => ?_)
  subst e
  repeat walk_at "st"
  have hs : σ s = none ∧ s ≠ y := by
    rw [upd_upd] at h0
    by_cases q : s = y
    · subst q; simp at h0
    · rw [upd_ne q] at h0; exact ⟨h0, q⟩
  refine W_setSlot ((upd_ne (Ne.symm hs.2)).trans upd_self) ((upd_ne (fun q => by rw [← q, hdy] at hs; cases hs.1)).trans ((upd_ne ne).trans ((upd_ne ne).trans hdy))) (lw.K ▸ sl_su) (by decide) ?_
  repeat walk_at "st"
  refine h s _ hs.1 hs.2 ?_
  subst e'
  funext z
  by_cases q1 : z = y
  · subst q1; simp [upd, padSet]
  · by_cases q2 : z = s
    · subst q2; simp [upd, q1]
    · simp [upd, q1, q2]
theorem getinfo_spec {u : Value} {k : AV} {Q : Value → AS → Prop} (lw : Lw c) (hA : AOk A fs (d + 3)) (S : SAt σ x st dx nd rv as ep) (hu : er u = k) (hk : k.isKey = true) (hz : st.keys.length ≤ 100000)
    (h : ∀ σ' (as' : List NAd) ep' (j : Nat) (p : NAd) st', Ext [1, 2] σ σ' → st' = { st with keys := if k ∈ st.keys then st.keys else st.keys ++ [k] } → SAt σ' x st' dx nd rv as' ep' → st'.keys[j]? = some k → as'[j]? = some p → Q (.ref p.i) ⟨fs, σ', g⟩) :
    W c A (call (.ref 73) [.ref x, u]) Q E ⟨fs, σ, g⟩ := by
  refine W_call_G lw.K (ns := ["self", "node", "result"]) (us := [.ref x, k]) (gs := [("_NodeInfo", .ref CNI)]) fn_getinfo rfl (by kernel_rfl) (by simp [hu]) (.cons (.cons (.rest .nil))) (by simp [lw.NodeInfo]) hA (fun L env B P X hfr hh hL hA' hout hE hF hU => ?_)
  refine W_consG (fun _ _ => ?_)
  repeat walk_at "st"
  refine W_getAttr S.x S.dx (lw.K ▸ a_node2info) sAttrs_nd (by walk_at "mem") ?_
  intro pl
  refine W_meth_dict F.slot_dict_get F.type_dict_get S.nd ?_
  repeat walk_at "st"
  refine All.key hk fun u' e' => ?_
  repeat walk_at "st"
  refine ⟨Kp.builtin, W_dict_get S.nd (by rw [e']; exact hk) ?_⟩
  rw [e']
  by_cases hin : k ∈ st.keys
  · obtain ⟨j, p, hj, hp, hg⟩ := S.find hin
    rw [hg]
    show All (.ref p.i) _
    repeat walk_at "st"
    refine h σ as ep j p _ Ext.refl rfl ?_ ?_ hp
    · rw [if_pos hin]; exact S
    · rw [if_pos hin]; exact hj
  · rw [S.find_none hin]
    show All .none _
    repeat walk_at "st"
    refine All.key hk fun u2 e2 => ?_
    repeat walk_at "st"
    refine ⟨Kp.inK (lw.K ▸ keep_NI), W_make 1 (lw.K ▸ makes_NI) (lw.K ▸ init_NI) (lw.K ▸ fnt_NI) (fun y dy hy hdy hne σ1 e1 => ?_)⟩
    refine ninit_spec lw (d := d) ?_ e2 hk (at_upd e1) ((put_ne e1 (Ne.symm hne)).trans upd_self) (fun s σ2 hs hsy e3 => ⟨rfl, ?_⟩)
    · exact hA'.vs.underMake
    repeat walk_at "st"
    have s1 : σ s = none ∧ s ≠ dy := by
      rw [e1, upd_ne hsy] at hs
      by_cases q : s = dy
      · rw [q] at hs; simp at hs
      · rw [upd_ne q] at hs; exact ⟨hs, q⟩
    have X1 : Ext [] σ σ2 := by
      rw [e3, e1]
      intro z k' cl' q _
      have n1 : z ≠ y := ne_new q hy
      have n2 : z ≠ dy := ne_new q hdy
      have n3 : z ≠ s := ne_new q s1.1
      simp only [upd_ne n1, upd_ne n2, upd_ne n3]; exact q
    have N : NdAt σ2 ⟨y, dy, s⟩ k 0 [] := by
      rw [e3, e1]
      refine ⟨upd_self, ?_, ?_⟩
      · dsimp only; rw [upd_ne (Ne.symm hne), upd_ne (Ne.symm s1.2), upd_ne (Ne.symm hne)]; exact upd_self
      · dsimp only; rw [upd_ne hsy]; exact upd_self
    have S2 := S.ext X1 (by first | decide | simp) (by first | decide | simp)
    refine W_getAttr S2.x S2.dx (lw.K ▸ a_node2info) sAttrs_nd (by walk_at "mem") ?_
    repeat walk_at "st"
    refine All.key hk fun u3 e4 => ?_
    refine W_dict_set S2.nd (by rw [e4]; exact hk) (by simp [S.len]; lia) (fun ep' σ3 e5 => ?_)
    rw [e4, dset_zip (by simp [S.len]) hin] at e5
    repeat walk_at "st"
    have S3 := S.new (p := ⟨y, dy, s⟩) (ep' := ep') hin hk X1 hy s1.1 N
    refine h σ3 (as ++ [⟨y, dy, s⟩]) ep' st.keys.length ⟨y, dy, s⟩ _ ?_ rfl ?_ ?_ ?_
    · rw [e5]; exact X1.nil.trans (Ext.upd_own S2.nd (by first | decide | simp))
    · rw [if_neg hin, e5]
      have : (as ++ [(⟨y, dy, s⟩ : NAd)]).map (fun p => AV.ref p.i) = as.map (fun p => AV.ref p.i) ++ [er (Value.ref y)] := by simp
      rw [← this]; exact S3
    · rw [if_neg hin]; simp
    · rw [← S.len]; simp
theorem is_active_spec {l : List AV} {Q : Value → AS → Prop} (lw : Lw c) (hA : AOk A fs (d + 1)) (S : SAt σ x st dx nd rv as ep) (hr : st.ready = some l) (hz : l.length ≤ 1000000)
    (h : Q (.bool (decide (st.nfin < st.npass) || !l.isEmpty)) ⟨fs, σ, g⟩) : W c A (call (.ref 99) [.ref x]) Q E ⟨fs, σ, g⟩ := by
  have rd := S.rdy
  rw [hr] at rd
  obtain ⟨b, rfl, hb⟩ := rd
  refine W_call_G lw.K (ns := ["self"]) (us := [.ref x]) (gs := [("ValueError", .type "ValueError"), ("bool", .type "bool")]) fn_is_active rfl (by kernel_rfl) rfl (.cons .nil) (by simp [lw.ValueError, lw.bool]) hA (fun L env B P X hfr hh hL hA' hout hE hF hU => ?_)
  refine W_consG (fun _ _ => ?_)
  repeat walk_at "st"
  refine W_getAttr S.x S.dx (lw.K ▸ a_ready) sAttrs_nd (by walk_at "mem") ?_
  repeat walk_at "st"
  refine W_getAttr S.x S.dx (lw.K ▸ a_nfin) sAttrs_nd (by walk_at "mem") ?_
  repeat walk_at "st"
  refine W_getAttr S.x S.dx (lw.K ▸ a_npass) sAttrs_nd (by walk_at "mem") ?_
  repeat walk_at "st"
  by_cases q : st.nfin < st.npass
  · simp only [q, decide_true, if_true]
    repeat walk_at "st"
    simpa [q] using h
  · simp only [q, decide_false, Bool.false_eq_true, if_false]
    repeat walk_at "st"
    refine W_getAttr S.x S.dx (lw.K ▸ a_ready) sAttrs_nd (by walk_at "mem") ?_
    repeat walk_at "st"
    refine ⟨Kp.type, W_bool_list hb hz ?_⟩
    repeat walk_at "st"
    simpa [q] using h
end
end Mine.Internal
namespace Mine.Internal
open PySem PySem.W PyProof.Rows PySem.Calls
section
variable {c : Cx} {A : Around} {E : Value → AS → Prop} {fs : List Frm} {σ : Addr → Option (Nat × Cell)} {g : Array GenState} {d : Nat} {x dx nd : Addr} {rv : AV} {as : List NAd} {ep : Nat} {st : SS}
theorem add_spec {u : Value} {k : AV} {us : List Value} {ps : List AV} {N : Nat} {R : Result → AS → Prop} (lw : Lw c) (hA : AOk A fs (d + 4)) (S : SAt σ x st dx nd rv as ep) (hr : st.ready = none) (hF : st.Fit N) (hN : N + ps.length + 1 ≤ 100000)
    (hu : er u = k) (hk : k.isKey = true) (hus : us.map er = ps) (hps : ∀ p ∈ ps, p.isKey = true)
    (h : ∀ σ' as' ep', Ext [1, 2] σ σ' → SAt σ' x (st.add k ps) dx nd rv as' ep' → R (.ok (.ret .none)) ⟨fs, σ', g⟩) :
    Wk c A (.call (.ref 80) ⟨.ref x :: u :: us, []⟩) R ⟨fs, σ, g⟩ := by
  have hrv : rv = .none := by have := S.rdy; rw [hr] at this; exact this
  subst hrv
  have hlen : us.length = ps.length := by rw [← hus]; simp
  refine Wk_call_GS (pre := [.ref x, u]) (rest := us) lw.K (ns := ["self", "node", "predecessors", "nodeinfo", "pred", "pred_info"]) (us := [.ref x, k]) (vs := fun t => [some (.ref x), some k, some (.ref t), none, none, none])
    (gs := [("ValueError", .type "ValueError"), ("len", .builtin "len")]) fn_add rfl bind_add (by simp [hu]) (fun t => .cons (.cons (.cons (.rest (.rest (.rest .nil)))))) (by simp [lw.ValueError, lw.len]) hA (by walk_at "le") (fun L env t σ1 B P X hfr hh ht e1 hL hA' hout hE hFx hUx => ?_)
  rw [hus] at e1
  have X1 : Ext [] σ σ1 := Ext.new_eq e1 ht
  have S1 := S.ext X1 (by first | decide | simp) (by first | decide | simp)
  have ht1 : σ1 t = some (0, .tuple ps) := at_upd e1
  refine W_consG (fun _ _ => ?_)
  repeat walk_at "st"
  refine W_getAttr S1.x S1.dx (lw.K ▸ a_ready) sAttrs_nd (by walk_at "mem") ?_
  repeat walk_at "st"
  intro pl
  refine W_getMethod S1.x S1.dx (lw.K ▸ bo_getinfo.get) (lw.K ▸ bo_getinfo.find) (lw.K ▸ bo_getinfo.fn) (no_attr (by decide +kernel)) ?_
  repeat walk_at "st"
  refine All.key hk fun u2 e2 => ?_
  repeat walk_at "st"
  refine ⟨Kp.inK (lw.K ▸ keep_getinfo), getinfo_spec lw (d := d) hA' S1 e2 hk (by have := hF.keys; lia) (fun σ2 as2 ep2 j p st2 X2 e3 S2 hj hp => ?_)⟩
  repeat walk_at "st"
  have N2 := S2.nds j p k hp hj
  refine W_getSlot N2.i N2.d (lw.K ▸ sl_np) (by rfl) ?_
  repeat walk_at "st"
  have ht2 : σ2 t = some (0, .tuple ps) := X2 _ _ _ ht1 (by first | decide | simp)
  refine ⟨Kp.builtin, W_len_tuple ht2 (by walk_at "le") (fun t2 => ?_)⟩
  repeat walk_at "st"
  refine W_setSlot N2.i N2.d (lw.K ▸ sl_np) (by decide) ?_
  have S3 := S2.setNp (n := st2.np k + ps.length) hj hp
  generalize e4 : upd σ2 p.i _ = σ3
  have e4' : upd σ2 p.i (some (1, .inst CNI p.d [some k, some (.int (st2.np k + ps.length)), some (.ref p.s)])) = σ3 := e4
  rw [e4'] at S3
  have X3 : Ext [1, 2] σ2 σ3 := by rw [← e4']; exact Ext.upd_own N2.i (by first | decide | simp)
  have ht3 : σ3 t = some (0, .tuple ps) := X3 _ _ _ ht2 (by first | decide | simp)
  have est : ({ st2 with np := fset st2.np k (st2.np k + ps.length) } : SS) = st.addN k ps.length := by rw [e3]; rfl
  rw [est] at S3
  repeat walk_at "st"
  refine W_For ?_
  repeat walk_at "st"
  refine W_iter_tuple ht3 (fun it h0 σ4 e5 => ?_)
  refine Wk_loopG (IterOf.tuple (k := 0) hh) [1, 2] (by first | decide | simp) (by first | decide | simp)
    (fun i vv σ => ∃ b1 b2 as' ep', vv = [some (.ref x), some k, some (.ref t), some (.ref p.i), b1, b2] ∧ SAt σ x ((ps.take i).foldl (fun s p => s.succ k p) (st.addN k ps.length)) dx nd .none as' ep')
    (fun i vv σ σ' pz33 X => pz33.elim fun b1 pz34 => pz34.elim fun b2 pz35 => pz35.elim fun as' pz36 => pz36.elim fun ep' pz37 => pz37.elim fun hv S => ⟨b1, b2, as', ep', hv, S.ext X (by first | decide | simp) (by first | decide | simp)⟩) h0 e5
    ((put_ne e5 (ne_new ht3 h0)).trans ht3) ⟨_, _, as2, ep2, rfl, S3⟩ ?_ ?_
  · rintro i v vv σ5 u5 P5 X5 hP5 hX5 ⟨b1, b2, as5, ep5, rfl, S5⟩ hv eu hsrc Y5
    have hi : i < ps.length := (List.getElem?_eq_some_iff.mp hv).1
    have hvk : v.isKey = true := hps v (List.mem_of_getElem? hv)
    have F5 : ((ps.take i).foldl (fun s p => s.succ k p) (st.addN k ps.length)).Fit (N + 1 + i) := by
      have := (hF.addN (k := k) (n := ps.length)).succs (k := k) (ps := ps.take i)
      rwa [List.length_take, Nat.min_eq_left (by walk_at "le")] at this
    repeat walk_at "st"
    intro pl
    refine W_getMethod S5.x S5.dx (lw.K ▸ bo_getinfo.get) (lw.K ▸ bo_getinfo.find) (lw.K ▸ bo_getinfo.fn) (no_attr (by decide +kernel)) ?_
    repeat walk_at "st"
    rw [eu]
    refine All.key hvk fun u6 e6 => ?_
    repeat walk_at "st"
    refine ⟨Kp.inK (lw.K ▸ keep_getinfo), getinfo_spec lw (d := d) hA'.vs S5 e6 hvk (by have := F5.keys; lia) (fun σ6 as6 ep6 j6 p6 st6 X6 e7 S6 hj6 hp6 => ?_)⟩
    repeat walk_at "st"
    have N6 := S6.nds j6 p6 v hp6 hj6
    refine W_getSlot N6.i N6.d (lw.K ▸ sl_su) (by rfl) ?_
    repeat walk_at "st"
    intro pl
    refine W_meth_list F.slot_list_append F.type_list_append N6.s ?_
    repeat walk_at "st"
    refine All.key hk fun u8 e8 => ?_
    repeat walk_at "st"
    refine ⟨Kp.builtin, W_append N6.s ?_ (fun σ7 e9 => ?_)⟩
    · rw [e7]; have := F5.su v; dsimp only; lia
    repeat walk_at "st"
    have S7 := S6.setSu (su := st6.su v ++ [k]) hj6 hp6
    rw [e8] at e9
    rw [← e9] at S7
    refine hP5.nx _ σ7 (X6.trans (Ext.own_eq e9 N6.s (by first | decide | simp))) ⟨_, _, as6, ep6, rfl, ?_⟩
    have : (ps.take (i + 1)).foldl (fun s p => s.succ k p) (st.addN k ps.length) = { st6 with su := fset st6.su v (st6.su v ++ [k]) } := by
      rw [List.take_add_one, hv, List.foldl_append, e7]; rfl
    rw [this]; exact S7
  · rintro vv σ5 ⟨b1, b2, as5, ep5, rfl, S5⟩ X5
    repeat walk_at "st"
    rw [List.take_length] at S5
    exact h σ5 as5 ep5 (X1.nil.trans (X2.trans (X3.trans X5))) S5
end
end Mine.Internal
namespace Mine.Internal
open PySem PySem.W PyProof.Rows PySem.Calls
section
variable {c : Cx} {A : Around} {E : Value → AS → Prop} {fs : List Frm} {σ : Addr → Option (Nat × Cell)} {g : Array GenState} {d : Nat} {x dx nd : Addr} {rv : AV} {as : List NAd} {ep : Nat} {st : SS}
theorem tinit_spec {y dy : Addr} {R : Result → AS → Prop} (lw : Lw c) (hA : AOk A fs (d + 1)) (hy : σ y = some (1, .inst CTS dy [])) (hdy : σ dy = some (1, .attrs []))
    (h : ∀ σ' nd, Ext [1] σ σ' → SAt σ' y ⟨[], fun _ => 0, fun _ => [], none, 0, 0⟩ dy nd .none [] 0 → R (.ok (.ret .none)) ⟨fs, σ', g⟩) : Wk c A (.call (.ref 66) ⟨[.ref y], []⟩) R ⟨fs, σ, g⟩ := by
  refine Wk_call_GD lw.K (vals := [.ref y, .none]) (ns := ["self", "graph", "node", "predecessors"]) (us := [.ref y, .none]) (gs := []) fn_tinit rfl (fun s X => bind_tinit X) rfl (.cons (.cons (.rest (.rest .nil)))) (by first | decide | simp) hA (fun L env B P X hfr hh hL hA' hout hE hFx hUx => ?_)
  have ne : dy ≠ y := fun q => by rw [q, hy] at hdy; cases hdy
  refine W_consG (fun _ _ => ?_)
  repeat walk_at "st"
  refine W_Dict_nil (W_newDict 1 (fun nd h0 σ1 e1 => ?_))
  repeat walk_at "st"
  have n1 : y ≠ nd := ne_new hy h0
  have n2 : dy ≠ nd := ne_new hdy h0
  have y1 : σ1 y = some (1, .inst CTS dy []) := (put_ne e1 n1).trans hy
  refine W_setAttr y1 ((put_ne e1 n2).trans hdy) (lw.K ▸ a_node2info) .new (by first | decide | simp) (by first | decide | simp) ?_
  repeat walk_at "st"
  refine W_setAttr ((upd_ne (Ne.symm ne)).trans y1) upd_self (lw.K ▸ a_ready) (.there .new) (nodup_of_codes (by show ((["_node2info", "_ready_nodes"] : List Str).map codeOf).Nodup; decide +kernel)) (by first | decide | simp) ?_
  rw [upd_upd]
  repeat walk_at "st"
  refine W_setAttr ((upd_ne (Ne.symm ne)).trans y1) upd_self (lw.K ▸ a_npass) (.there (.there .new)) (nodup_of_codes (by show ((["_node2info", "_ready_nodes", "_npassedout"] : List Str).map codeOf).Nodup; decide +kernel)) (by first | decide | simp) ?_
  rw [upd_upd]
  repeat walk_at "st"
  refine W_setAttr ((upd_ne (Ne.symm ne)).trans y1) upd_self (lw.K ▸ a_nfin) (.there (.there (.there .new))) (nodup_of_codes (by show ((["_node2info", "_ready_nodes", "_npassedout", "_nfinished"] : List Str).map codeOf).Nodup; decide +kernel)) (by first | decide | simp) ?_
  rw [upd_upd]
  repeat walk_at "st"
  refine h _ nd ?_ ⟨(upd_ne (Ne.symm ne)).trans y1, upd_self, ?_, rfl, by simp, rfl, .nil, .nil, by simp, .nil, fun _ _ => ⟨rfl, rfl⟩⟩
  · rw [e1]; exact (Ext.upd_new h0).trans (Ext.upd_own ((upd_ne n2).trans hdy) (by first | decide | simp))
  · exact (upd_ne (Ne.symm n2)).trans (at_upd e1)
theorem get_ready_spec {l : List AV} {Q : Value → AS → Prop} (lw : Lw c) (hA : AOk A fs (d + 1)) (S : SAt σ x st dx nd rv as ep) (hr : st.ready = some l) (hl : ∀ k ∈ l, k ∈ st.keys) (hz : l.length ≤ 100000)
    (h : ∀ t σ', σ t = none → Ext [1] σ σ' → σ' t = some (0, .tuple l) → SAt σ' x (st.getReady l) dx nd rv as ep → Q (.ref t) ⟨fs, σ', g⟩) : W c A (call (.ref 92) [.ref x]) Q E ⟨fs, σ, g⟩ := by
  have rd := S.rdy
  rw [hr] at rd
  obtain ⟨b, rfl, hb⟩ := rd
  obtain ⟨tO, gO⟩ := lw.NODE_OUT
  refine W_call_G lw.K (ns := ["self", "result", "n2i", "node"]) (us := [.ref x]) (gs := [("ValueError", .type "ValueError"), ("tuple", .type "tuple"), ("_NODE_OUT", .int (-1) tO), ("len", .builtin "len")]) fn_get_ready rfl (by kernel_rfl) rfl (.cons (.rest (.rest (.rest .nil)))) (by simp [lw.ValueError, lw.tuple, lw.len, gO]) hA (fun L env B P X hfr hh hL hA' hout hE hFx hUx => ?_)
  refine W_consG (fun _ _ => ?_)
  repeat walk_at "st"
  refine W_getAttr S.x S.dx (lw.K ▸ a_ready) sAttrs_nd (by walk_at "mem") ?_
  repeat walk_at "st"
  refine W_getAttr S.x S.dx (lw.K ▸ a_ready) sAttrs_nd (by walk_at "mem") ?_
  repeat walk_at "st"
  refine ⟨Kp.type, W_tuple_list 0 hb (by walk_at "le") (fun t h0 σ1 e1 => ?_)⟩
  have X1 : Ext [] σ σ1 := Ext.new_eq e1 h0
  have S1 := S.ext X1 (by first | decide | simp) (by first | decide | simp)
  have ht1 : σ1 t = some (0, .tuple l) := at_upd e1
  repeat walk_at "st"
  refine W_getAttr S1.x S1.dx (lw.K ▸ a_node2info) sAttrs_nd (by walk_at "mem") ?_
  repeat walk_at "st"
  refine W_For ?_
  repeat walk_at "st"
  refine W_iter_tuple ht1 (fun it h1 σ2 e2 => ?_)
  refine Wk_loopG (IterOf.tuple (k := 0) hh) [1] (by first | decide | simp) (by first | decide | simp)
    (fun i vv σ => ∃ b1, vv = [some (.ref x), some (.ref t), some (.ref nd), b1] ∧ SAt σ x { st with np := SS.out st.np (l.take i) } dx nd (.ref b) as ep)
    (fun i vv σ σ' pz38 X => pz38.elim fun b1 pz39 => pz39.elim fun hv S => ⟨b1, hv, S.ext X (by first | decide | simp) (by first | decide | simp)⟩) h1 e2
    ((put_ne e2 (ne_new ht1 h1)).trans ht1) ⟨_, rfl, S1⟩ ?_ ?_
  · rintro i v vv σ5 u5 P5 X5 hP5 hX5 ⟨b1, rfl, S5⟩ hv eu hsrc Y5
    have hvk := hl v (List.mem_of_getElem? hv)
    have hkey := S.key v hvk
    obtain ⟨j, p, hj, hp, hg⟩ := S5.find hvk
    have N5 := S5.nds j p v hp hj
    repeat walk_at "st"
    rw [eu]
    refine All.key hkey fun u6 e6 => ?_
    repeat walk_at "st"
    refine ⟨noGet_dict S5.nd, W_dict_item S5.nd (by rw [e6]; exact hkey) (by rw [e6]; exact hg) ?_⟩
    repeat walk_at "st"
    refine W_setSlot N5.i N5.d (lw.K ▸ sl_np) (by decide) ?_
    repeat walk_at "st"
    have S6 := S5.setNp (n := -1) hj hp
    refine hP5.nx _ _ (Ext.upd_own N5.i (by first | decide | simp)) ⟨_, rfl, ?_⟩
    have : SS.out st.np (l.take (i + 1)) = fset (SS.out st.np (l.take i)) v (-1) := by
      unfold SS.out; rw [List.take_add_one, hv, List.foldl_append]; rfl
    rw [this]; exact S6
  · rintro vv σ5 ⟨b1, rfl, S5⟩ X5
    rw [List.take_length] at S5
    have ht5 : σ5 t = some (0, .tuple l) := X5 _ _ _ ht1 (by first | decide | simp)
    repeat walk_at "st"
    refine W_getAttr S5.x S5.dx (lw.K ▸ a_ready) sAttrs_nd (by walk_at "mem") ?_
    repeat walk_at "st"
    intro pl
    have hb5 : σ5 b = some (1, .list l) := by
      have := S5.rdy
      dsimp only at this
      rw [hr] at this
      obtain ⟨b', q1, q2⟩ := this
      cases q1; exact q2
    refine W_meth_list F.slot_list_clear F.type_list_clear hb5 ?_
    repeat walk_at "st"
    refine ⟨Kp.builtin, W_clear hb5 (by walk_at "le") (fun σ6 e6 => ?_)⟩
    have S6 := S5.setReady (l' := []) hr rfl
    rw [← e6] at S6
    have X6 : Ext [1] σ5 σ6 := Ext.own_eq e6 hb5 (by first | decide | simp)
    repeat walk_at "st"
    refine W_getAttr S6.x S6.dx (lw.K ▸ a_npass) sAttrs_nd (by walk_at "mem") ?_
    repeat walk_at "st"
    refine ⟨Kp.builtin, W_len_tuple (X6 _ _ _ ht5 (by first | decide | simp)) (by walk_at "le") (fun t2 => ?_)⟩
    repeat walk_at "st"
    refine W_setAttr S6.x S6.dx (lw.K ▸ a_npass) (.there (.there .here)) sAttrs_nd (by first | decide | simp) ?_
    have S7 := S6.setAttrs (st' := st.getReady l) (rv' := .ref b) rfl rfl rfl S6.rdy
    repeat walk_at "st"
    refine h t _ h0 ?_ ?_ S7
    · exact X1.nil.trans (X5.trans (X6.trans (Ext.upd_own S6.dx (by first | decide | simp))))
    ·
      exact (upd_ne (fun q => by have := S6.dx; rw [← q, X6 _ _ _ ht5 (by first | decide | simp)] at this; cases this)).trans (X6 _ _ _ ht5 (by first | decide | simp))
end
end Mine.Internal
namespace Mine.Internal
section
variable {α : Type}
noncomputable def Stay (su : α → List α) (v : α) : Prop := ∃ S : α → Prop, S v ∧ ∀ u, S u → ∃ w ∈ su u, S w
theorem Stay.step {su : α → List α} {v : α} (h : Stay su v) : ∃ w ∈ su v, Stay su w := by
  obtain ⟨S, h1, h2⟩ := h
  obtain ⟨w, hw, q⟩ := h2 v h1
  exact ⟨w, hw, S, q, h2⟩
theorem Stay.of_step {su : α → List α} {v w : α} (hw : w ∈ su v) (h : Stay su w) : Stay su v :=
  ⟨fun u => Stay su u ∨ u = v, .inr rfl, fun u hu => by
    rcases hu with hu | rfl
    · obtain ⟨w', h1, h2⟩ := hu.step
      exact ⟨w', h1, .inl h2⟩
    · exact ⟨w, hw, .inl h⟩⟩
noncomputable def FirstStay (su : α → List α) (u w : α) : Prop := ∃ a b, su u = a ++ w :: b ∧ (∀ t ∈ a, ¬ Stay su t) ∧ Stay su w
theorem FirstStay.unique {su : α → List α} {u w w' : α} (h : FirstStay su u w) (h' : FirstStay su u w') : w = w' := by
  obtain ⟨a, b, e, n, s⟩ := h
  obtain ⟨a', b', e', n', s'⟩ := h'
  rw [e] at e'
  rcases List.append_eq_append_iff.mp e' with ⟨c, h1, h2⟩ | ⟨c, h1, h2⟩
  · cases c with
    | nil => simp at h2; exact h2.1
    | cons x c =>
      simp at h2
      exact absurd (h2.1 ▸ s) (n' x (by rw [h1]; simp))
  · cases c with
    | nil => simp at h2; exact h2.1.symm
    | cons x c =>
      simp at h2
      exact absurd (h2.1 ▸ s') (n x (by rw [h1]; simp))
inductive Chain (R : α → α → Prop) : List α → Prop
  | one {v} : Chain R [v]
  | cons {u v l} : R u v → Chain R (v :: l) → Chain R (u :: v :: l)
theorem Chain.snoc {R : α → α → Prop} {a b : α} {l : List α} (q : Chain R (l ++ [a])) (h : R a b) : Chain R (l ++ [a] ++ [b]) := by
  induction l with
  | nil => exact .cons h .one
  | cons u l ih =>
    cases l with
    | nil => cases q with | cons h1 _ => exact .cons h1 (.cons h .one)
    | cons v l => cases q with | cons h1 h2 => exact .cons h1 (ih h2)
inductive RingRes (keys : List α) (su : α → List α) : Option (List α) → Prop
  | no : (∀ k ∈ keys, ¬ Stay su k) → RingRes keys su none
  | yes {pre post : List α} {v0 last w : α} {p q : List α} : keys = pre ++ v0 :: post → (∀ k ∈ pre, ¬ Stay su k) → (p ++ w :: q).Nodup → (p ++ w :: q).head? = some v0 → (p ++ w :: q).getLast? = some last →
      Chain (FirstStay su) (p ++ w :: q) → FirstStay su last w → RingRes keys su (some (w :: q ++ [w]))
inductive Lk (su : α → List α) (key : α) : List (α × Nat) → Prop
  | one {i} : Lk su key [(key, i)]
  | cons {u i p j rest} : (su p)[j]? = some u → (∀ t ∈ (su p).take j, ¬ Stay su t) → Lk su key ((p, j + 1) :: rest) → Lk su key ((u, i) :: (p, j + 1) :: rest)
structure Dfs (su : α → List α) (pre : List α) (key : α) (rp : List (α × Nat)) (seen : α → Bool) : Prop where
  fin : ∀ v, seen v = true → v ∉ rp.map (·.1) → ¬ Stay su v
  on : ∀ v ∈ rp.map (·.1), seen v = true
  pre : ∀ k ∈ pre, ¬ Stay su k
  nd : (rp.map (·.1)).Nodup
  lk : rp = [] ∨ Lk su key rp
noncomputable def TopIs (su : α → List α) (key : α) (rp : List (α × Nat)) (v : α) : Prop := match rp with
  | [] => v = key
  | (u, n) :: _ => ∃ i, n = i + 1 ∧ (su u)[i]? = some v ∧ ∀ t ∈ (su u).take i, ¬ Stay su t
noncomputable def RestIs (su : α → List α) (rp : List (α × Nat)) : Prop := match rp with
  | [] => True
  | (u, n) :: _ => ∀ t ∈ (su u).take n, ¬ Stay su t
variable {su : α → List α} {pre : List α} {key : α} {rp : List (α × Nat)} {seen : α → Bool}
theorem Dfs.push [DecidableEq α] {v : α} (h : Dfs su pre key rp seen) (ht : TopIs su key rp v) (hv : seen v = false) : Dfs su pre key ((v, 0) :: rp) (fun x => seen x || decide (x = v)) ∧ RestIs su ((v, 0) :: rp) := by
  refine ⟨⟨fun y hy hn => ?_, fun y hy => ?_, h.pre, ?_, .inr ?_⟩, by simp [RestIs]⟩
  · simp only [List.map_cons, List.mem_cons, not_or] at hn
    simp only [hn.1, decide_false, Bool.or_false] at hy
    exact h.fin y hy hn.2
  · simp only [List.map_cons, List.mem_cons] at hy
    rcases hy with rfl | hy
    · simp
    · simp [h.on y hy]
  · rw [List.map_cons, List.nodup_cons]
    exact ⟨fun q => absurd (h.on v q) (by rw [hv]; exact Bool.false_ne_true), h.nd⟩
  · cases rp with
    | nil => have : v = key := ht; subst this; exact .one
    | cons p rest =>
      obtain ⟨u, n⟩ := p
      obtain ⟨i, rfl, h1, h2⟩ := ht
      exact .cons h1 h2 (h.lk.resolve_left (by first | decide | simp))
theorem Dfs.skip {v : α} (h : Dfs su pre key rp seen) (ht : TopIs su key rp v) (hv : seen v = true) (hn : v ∉ rp.map (·.1)) : RestIs su rp := by
  cases rp with
  | nil => trivial
  | cons p rest =>
    obtain ⟨u, n⟩ := p
    obtain ⟨i, rfl, h1, h2⟩ := ht
    intro t hm
    rw [List.take_add_one, h1] at hm
    simp only [Option.toList_some, List.mem_append, List.mem_singleton] at hm
    rcases hm with hm | rfl
    · exact h2 t hm
    · exact h.fin t hv hn
theorem Dfs.item {u v : α} {i : Nat} {rest : List (α × Nat)} (h : Dfs su pre key ((u, i) :: rest) seen) (hr : RestIs su ((u, i) :: rest)) (hv : (su u)[i]? = some v) : Dfs su pre key ((u, i + 1) :: rest) seen ∧ TopIs su key ((u, i + 1) :: rest) v := by
  refine ⟨⟨h.fin, h.on, h.pre, h.nd, .inr ?_⟩, ⟨i, rfl, hv, hr⟩⟩
  cases h.lk.resolve_left (by first | decide | simp) with
  | one => exact .one
  | cons h1 h2 h3 => exact .cons h1 h2 h3
theorem Dfs.pop {u : α} {i : Nat} {rest : List (α × Nat)} (h : Dfs su pre key ((u, i) :: rest) seen) (hr : RestIs su ((u, i) :: rest)) (hi : (su u).length ≤ i) : Dfs su pre key rest seen ∧ RestIs su rest ∧ (rest = [] → u = key ∧ ¬ Stay su key) := by
  have hu : ¬ Stay su u := fun q => by
    obtain ⟨w, hw, s⟩ := q.step
    have := hr w
    rw [List.take_of_length_le hi] at this
    exact this hw s
  have hnd := h.nd
  rw [List.map_cons, List.nodup_cons] at hnd
  have hlk := h.lk.resolve_left (by first | decide | simp)
  refine ⟨⟨fun y hy hn => ?_, fun y hy => h.on y (by simp only [List.map_cons, List.mem_cons]; exact .inr hy), h.pre, hnd.2, ?_⟩, ?_, fun e => ?_⟩
  · by_cases q : y ∈ ((u, i) :: rest).map (·.1)
    · simp only [List.map_cons, List.mem_cons] at q
      rcases q with rfl | q
      · exact hu
      · exact absurd q hn
    · exact h.fin y hy q
  · cases hlk with
    | one => exact .inl rfl
    | cons _ _ h3 => exact .inr h3
  · cases hlk with
    | one => trivial
    | cons h1 h2 h3 =>
      intro t hm
      rw [List.take_add_one, h1] at hm
      simp only [Option.toList_some, List.mem_append, List.mem_singleton] at hm
      rcases hm with hm | rfl
      · exact h2 t hm
      · exact hu
  · subst e
    cases hlk with
    | one => exact ⟨rfl, hu⟩
theorem Lk.stay {S : α → Prop} (h : Lk su key rp) : ∀ p ∈ rp, p.1 ≠ (rp.head?.map (·.1)).getD p.1 → ∃ w ∈ su p.1, w ∈ rp.map (·.1) := by
  induction h with
  | one => intro p hp; simp at hp; subst hp; simp
  | @cons u i p j rest h1 h2 h3 ih =>
    intro q hq hne
    simp only [List.mem_cons] at hq
    rcases hq with rfl | rfl | hq
    · simp at hne
    · exact ⟨u, List.mem_of_getElem? h1, by simp⟩
    · by_cases e : q.1 = p
      · exact ⟨u, by rw [e]; exact List.mem_of_getElem? h1, by simp⟩
      · obtain ⟨w, hw, hm⟩ := ih q (List.mem_cons_of_mem _ hq) (by simpa using e)
        exact ⟨w, hw, by simp only [List.map_cons, List.mem_cons] at hm ⊢; exact .inr hm⟩
theorem Lk.chain (h : Lk su key rp) (hs : ∀ v ∈ rp.map (·.1), Stay su v) : Chain (FirstStay su) (rp.map (·.1)).reverse ∧ (rp.map (·.1)).reverse.head? = some key := by
  induction h with
  | one => exact ⟨.one, rfl⟩
  | @cons u i p j rest h1 h2 h3 ih =>
    obtain ⟨c, e⟩ := ih fun v hv => hs v (by simp only [List.map_cons, List.mem_cons] at hv ⊢; exact .inr hv)
    simp only [List.map_cons, List.reverse_cons] at c e ⊢
    refine ⟨c.snoc ⟨(su p).take j, (su p).drop (j + 1), ?_, h2, hs u (by first | decide | simp)⟩, ?_⟩
    · obtain ⟨hj, e⟩ := List.getElem?_eq_some_iff.mp h1
      rw [← e, List.getElem_cons_drop, List.take_append_drop]
    · rw [List.head?_append, e]; rfl
theorem Dfs.ring {v : α} {keys post : List α} {p q : List α} (h : Dfs su pre key rp seen) (ht : TopIs su key rp v) (hv : v ∈ rp.map (·.1)) (hk : keys = pre ++ key :: post) (e : (rp.map (·.1)).reverse = p ++ v :: q) : RingRes keys su (some (v :: q ++ [v])) := by
  cases rp with
  | nil => simp at hv
  | cons top rest =>
    obtain ⟨u, n⟩ := top
    obtain ⟨i, rfl, h1, h2⟩ := ht
    have hlk := h.lk.resolve_left (by first | decide | simp)
    have hs : ∀ y ∈ ((u, i + 1) :: rest).map (·.1), Stay su y := fun y hy => by
      refine ⟨fun z => z ∈ ((u, i + 1) :: rest).map (·.1), hy, fun z hz => ?_⟩
      by_cases ez : z = u
      · subst ez; exact ⟨v, List.mem_of_getElem? h1, hv⟩
      · obtain ⟨r, hr, rfl⟩ := List.mem_map.mp hz
        exact hlk.stay (S := fun _ => True) r hr (by simpa using ez)
    obtain ⟨c, hh⟩ := hlk.chain hs
    have hnd : (((u, i + 1) :: rest).map (·.1)).reverse.Nodup := (List.reverse_perm _).nodup_iff.mpr h.nd
    rw [e] at c hh hnd
    refine .yes hk h.pre hnd hh (last := u) ?_ c ⟨(su u).take i, (su u).drop (i + 1), ?_, h2, hs v hv⟩
    · rw [← e]; simp
    · obtain ⟨hj, e⟩ := List.getElem?_eq_some_iff.mp h1
      rw [← e, List.getElem_cons_drop, List.take_append_drop]
end
end Mine.Internal
namespace Mine.Internal
open PySem
noncomputable def idxsFrom : Nat → List AV → List (AV × AV)
  | _, [] => []
  | n, v :: l => (v, .int n) :: idxsFrom (n + 1) l
noncomputable def idxs (l : List AV) : List (AV × AV) := idxsFrom 0 l
theorem idxsFrom_keys : ∀ {n : Nat} {l : List AV}, (idxsFrom n l).map (·.1) = l
  | _, [] => rfl
  | n, v :: l => by simp [idxsFrom, idxsFrom_keys (l := l)]
theorem idxsFrom_append : ∀ {n : Nat} {l m : List AV}, idxsFrom n (l ++ m) = idxsFrom n l ++ idxsFrom (n + l.length) m
  | n, [], m => by simp [idxsFrom]
  | n, v :: l, m => by
    simp only [List.cons_append, idxsFrom, idxsFrom_append (l := l), List.length_cons]
    rw [show n + 1 + l.length = n + (l.length + 1) by lia]
theorem idxsFrom_len : ∀ {n : Nat} {l : List AV}, (idxsFrom n l).length = l.length
  | _, [] => rfl
  | n, v :: l => by simp [idxsFrom, idxsFrom_len (l := l)]
theorem dget_none {kvs : List (AV × AV)} {v : AV} (h : v ∉ kvs.map (·.1)) : dget kvs v = none := by
  unfold dget
  rw [Option.map_eq_none_iff, List.find?_eq_none]
  intro p hp
  simp only [decide_eq_true_eq]
  exact fun e => h (e ▸ List.mem_map_of_mem hp)
theorem dget_idxs {l p q : List AV} {v : AV} (e : l = p ++ v :: q) (h : v ∉ p) : dget (idxs l) v = some (.int p.length) := by
  subst e
  unfold idxs
  rw [idxsFrom_append]
  have h1 : (idxsFrom 0 p).find? (fun x => decide (x.1 = v)) = none := by
    rw [List.find?_eq_none]
    intro x hx
    simp only [decide_eq_true_eq]
    have : x.1 ∈ p := by rw [← idxsFrom_keys (n := 0) (l := p)]; exact List.mem_map_of_mem hx
    exact fun z => h (z ▸ this)
  unfold dget
  rw [List.find?_append, h1]
  simp [idxsFrom]
theorem dget_idxs_none {l : List AV} {v : AV} (h : v ∉ l) : dget (idxs l) v = none := dget_none (by unfold idxs; rw [idxsFrom_keys]; exact h)
theorem dset_idxs {l : List AV} {v : AV} (h : v ∉ l) : dset (idxs l) v (.int l.length) = idxs (l ++ [v]) := by
  have : (idxs l).any (fun p => p.1 = v) = false := by
    rw [List.any_eq_false]
    intro p hp
    simp only [decide_eq_true_eq]
    have : p.1 ∈ l := by rw [← idxsFrom_keys (n := 0) (l := l)]; exact List.mem_map_of_mem hp
    exact fun e => h (e ▸ this)
  unfold dset
  rw [this]
  unfold idxs
  rw [idxsFrom_append]
  simp [idxsFrom]
theorem ddel_idxs {l : List AV} {v : AV} (h : v ∉ l) : ddel (idxs (l ++ [v])) v = idxs l := by
  unfold ddel idxs
  rw [idxsFrom_append, List.filter_append]
  have : (idxsFrom 0 l).filter (fun p => decide (p.1 ≠ v)) = idxsFrom 0 l := by
    rw [List.filter_eq_self]
    intro p hp
    have : p.1 ∈ l := by rw [← idxsFrom_keys (n := 0) (l := l)]; exact List.mem_map_of_mem hp
    simp only [decide_eq_true_eq]
    exact fun e => h (e ▸ this)
  rw [this]
  simp [idxsFrom]
structure Ent where
  v : AV
  n : Nat
  m : Addr
  it : Addr
  s : Addr
structure DAt (σ : Addr → Option (Nat × Cell)) (su : AV → List AV) (K I D N : Addr) (es : List Ent) (seen : AV → Bool) (cnt ep : Nat) : Prop where
  hK : σ K = some (3, .list (es.map (·.v)).reverse)
  hI : σ I = some (3, .list (es.map fun e => AV.ref e.m).reverse)
  hD : σ D = some (3, .dict (idxs (es.map (·.v)).reverse) ep)
  hN : σ N = some (3, .set seen cnt)
  hm : ∀ e ∈ es, σ e.m = some (3, wrapCell e.it)
  hit : ∀ e ∈ es, σ e.it = some (4, iterCell "list_iterator" e.s e.n)
  hs : ∀ e ∈ es, σ e.s = some (2, .list (su e.v))
  nd : (es.map (·.it)).Nodup
  KI : K ≠ I
section
variable {σ σ' : Addr → Option (Nat × Cell)} {su : AV → List AV} {K I D N : Addr} {es : List Ent} {seen : AV → Bool} {cnt ep : Nat}
theorem DAt.ext {C : List Nat} (h : DAt σ su K I D N es seen cnt ep) (e : Ext C σ σ') (h2 : 2 ∉ C) (h3 : 3 ∉ C) (h4 : 4 ∉ C) : DAt σ' su K I D N es seen cnt ep :=
  ⟨e _ _ _ h.hK h3, e _ _ _ h.hI h3, e _ _ _ h.hD h3, e _ _ _ h.hN h3, fun x hx => e _ _ _ (h.hm x hx) h3, fun x hx => e _ _ _ (h.hit x hx) h4, fun x hx => e _ _ _ (h.hs x hx) h2, h.nd, h.KI⟩
theorem DAt.item {e : Ent} (h : DAt σ su K I D N (e :: es) seen cnt ep) : DAt (upd σ e.it (some (4, iterCell "list_iterator" e.s (e.n + 1)))) su K I D N ({ e with n := e.n + 1 } :: es) seen cnt ep := by
  have h0 := h.hit e (List.mem_cons_self ..)
  have ne : ∀ {y c' cl}, σ y = some (c', cl) → c' ≠ 4 → y ≠ e.it := fun q1 q2 z => by rw [z, h0] at q1; cases q1; exact q2 rfl
  have nd := h.nd
  rw [List.map_cons, List.nodup_cons] at nd
  refine ⟨(upd_ne (ne h.hK (by decide))).trans h.hK, (upd_ne (ne h.hI (by decide))).trans h.hI, (upd_ne (ne h.hD (by decide))).trans h.hD, (upd_ne (ne h.hN (by decide))).trans h.hN, fun x hx => ?_, fun x hx => ?_, fun x hx => ?_, h.nd, h.KI⟩
  · rcases List.mem_cons.mp hx with rfl | hx
    · have := h.hm e (List.mem_cons_self ..); dsimp only; rw [upd_ne (ne this (by decide))]; exact this
    · have := h.hm x (List.mem_cons_of_mem _ hx); rw [upd_ne (ne this (by decide))]; exact this
  · rcases List.mem_cons.mp hx with rfl | hx
    · exact upd_self
    · exact (upd_ne (fun z => nd.1 (by rw [← z]; exact List.mem_map_of_mem hx))).trans (h.hit x (List.mem_cons_of_mem _ hx))
  · rcases List.mem_cons.mp hx with rfl | hx
    · have := h.hs e (List.mem_cons_self ..); dsimp only; rw [upd_ne (ne this (by decide))]; exact this
    · have := h.hs x (List.mem_cons_of_mem _ hx); rw [upd_ne (ne this (by decide))]; exact this
theorem DAt.push {e : Ent} {ep' : Nat} {seen' : AV → Bool} {cnt' : Nat} (h : DAt σ su K I D N es seen cnt ep) (X : ∀ y p, y ≠ K → y ≠ I → y ≠ D → y ≠ N → σ y = some p → σ' y = some p)
    (hK : σ' K = some (3, .list ((es.map (·.v)).reverse ++ [e.v]))) (hI : σ' I = some (3, .list ((es.map fun e => AV.ref e.m).reverse ++ [.ref e.m]))) (hD : σ' D = some (3, .dict (idxs ((es.map (·.v)).reverse ++ [e.v])) ep')) (hN : σ' N = some (3, .set seen' cnt'))
    (hm : σ' e.m = some (3, wrapCell e.it)) (hit : σ' e.it = some (4, iterCell "list_iterator" e.s e.n)) (hs : σ' e.s = some (2, .list (su e.v))) (hn : σ e.it = none) : DAt σ' su K I D N (e :: es) seen' cnt' ep' := by
  have ne : ∀ {y c' P}, σ y = some (c', Cell.raw P) → y ≠ K ∧ y ≠ I ∧ y ≠ D ∧ y ≠ N := fun q => ⟨fun z => (by rw [z, h.hK] at q; cases q), fun z => (by rw [z, h.hI] at q; cases q), fun z => (by rw [z, h.hD] at q; cases q), fun z => (by rw [z, h.hN] at q; cases q)⟩
  have ne2 : ∀ {y cl}, σ y = some (2, cl) → y ≠ K ∧ y ≠ I ∧ y ≠ D ∧ y ≠ N := fun q => ⟨fun z => (by rw [z, h.hK] at q; cases q), fun z => (by rw [z, h.hI] at q; cases q), fun z => (by rw [z, h.hD] at q; cases q), fun z => (by rw [z, h.hN] at q; cases q)⟩
  refine ⟨by rw [hK]; simp, by rw [hI]; simp, by rw [hD]; simp, hN, fun x hx => ?_, fun x hx => ?_, fun x hx => ?_, ?_, h.KI⟩
  · rcases List.mem_cons.mp hx with rfl | hx
    · exact hm
    · have := h.hm x hx; obtain ⟨a, b, c, d⟩ := ne this; exact X _ _ a b c d this
  · rcases List.mem_cons.mp hx with rfl | hx
    · exact hit
    · have := h.hit x hx; obtain ⟨a, b, c, d⟩ := ne this; exact X _ _ a b c d this
  · rcases List.mem_cons.mp hx with rfl | hx
    · exact hs
    · have := h.hs x hx; obtain ⟨a, b, c, d⟩ := ne2 this; exact X _ _ a b c d this
  · rw [List.map_cons, List.nodup_cons]
    refine ⟨fun q => ?_, h.nd⟩
    obtain ⟨x, hx, e'⟩ := List.mem_map.mp q
    have := h.hit x hx
    rw [e', hn] at this; cases this
theorem DAt.pop {e : Ent} {ep' : Nat} (h : DAt σ su K I D N (e :: es) seen cnt ep) (X : ∀ y p, p.1 ≠ 8 → y ≠ K → y ≠ I → y ≠ D → y ≠ e.it → σ y = some p → σ' y = some p)
    (hK : σ' K = some (3, .list (es.map (·.v)).reverse)) (hI : σ' I = some (3, .list (es.map fun e => AV.ref e.m).reverse)) (hD : σ' D = some (3, .dict (idxs (es.map (·.v)).reverse) ep')) : DAt σ' su K I D N es seen cnt ep' := by
  have h0 := h.hit e (List.mem_cons_self ..)
  have nd := h.nd
  rw [List.map_cons, List.nodup_cons] at nd
  have ne : ∀ {y c' P}, σ y = some (c', Cell.raw P) → y ≠ K ∧ y ≠ I ∧ y ≠ D := fun q => ⟨fun z => (by rw [z, h.hK] at q; cases q), fun z => (by rw [z, h.hI] at q; cases q), fun z => (by rw [z, h.hD] at q; cases q)⟩
  have ne2 : ∀ {y cl}, σ y = some (2, cl) → y ≠ K ∧ y ≠ I ∧ y ≠ D := fun q => ⟨fun z => (by rw [z, h.hK] at q; cases q), fun z => (by rw [z, h.hI] at q; cases q), fun z => (by rw [z, h.hD] at q; cases q)⟩
  have n4 : ∀ {y c' cl}, σ y = some (c', cl) → c' ≠ 4 → y ≠ e.it := fun q1 q2 z => by rw [z, h0] at q1; cases q1; exact q2 rfl
  refine ⟨hK, hI, hD, ?_, fun x hx => ?_, fun x hx => ?_, fun x hx => ?_, nd.2, h.KI⟩
  · have := h.hN
    exact X _ _ (by first | decide | simp) (fun z => by rw [z, h.hK] at this; cases this) (fun z => by rw [z, h.hI] at this; cases this) (fun z => by rw [z, h.hD] at this; cases this) (n4 this (by decide)) this
  · have := h.hm x (List.mem_cons_of_mem _ hx); obtain ⟨a, b, c⟩ := ne this; exact X _ _ (by first | decide | simp) a b c (n4 this (by decide)) this
  · have := h.hit x (List.mem_cons_of_mem _ hx); obtain ⟨a, b, c⟩ := ne this; exact X _ _ (by first | decide | simp) a b c (fun z => nd.1 (by rw [← z]; exact List.mem_map_of_mem hx)) this
  · have := h.hs x (List.mem_cons_of_mem _ hx); obtain ⟨a, b, c⟩ := ne2 this; exact X _ _ (by first | decide | simp) a b c (n4 this (by decide)) this
end
end Mine.Internal
namespace Mine.Internal
open PySem
theorem filter_mark {keys : List AV} {v : AV} {seen : AV → Bool} (f : AV → Nat) (hd : keys.Nodup) (hv : v ∈ keys) (hs : seen v = false) :
    ((keys.filter fun k => !seen k).map f).sum = f v + ((keys.filter fun k => !(seen k || decide (k = v))).map f).sum ∧ (keys.filter fun k => seen k || decide (k = v)).length = (keys.filter seen).length + 1 := by
  induction keys with
  | nil => cases hv
  | cons k keys ih =>
    rw [List.nodup_cons] at hd
    by_cases e : k = v
    · subst e
      have h1 : ∀ y ∈ keys, (!(seen y || decide (y = k))) = !seen y := fun y hy => by
        have : y ≠ k := fun z => hd.1 (z ▸ hy)
        simp [this]
      have h2 : ∀ y ∈ keys, (seen y || decide (y = k)) = seen y := fun y hy => by
        have : y ≠ k := fun z => hd.1 (z ▸ hy)
        simp [this]
      rw [List.filter_cons, List.filter_cons, List.filter_cons, List.filter_cons, List.filter_congr h1, List.filter_congr h2]
      simp [hs]
    · have hv' : v ∈ keys := (List.mem_cons.mp hv).resolve_left (Ne.symm e)
      obtain ⟨i1, i2⟩ := ih hd.2 hv'
      rw [List.filter_cons, List.filter_cons, List.filter_cons, List.filter_cons]
      simp only [e, decide_false, Bool.or_false]
      cases q : seen k
      · simp only [Bool.not_false, if_true, Bool.false_eq_true, if_false, List.map_cons, List.sum_cons, i1, i2]
        exact ⟨by lia, trivial⟩
      · simp only [Bool.not_true, if_true, Bool.false_eq_true, if_false, List.length_cons, i1, i2]
        exact ⟨trivial, trivial⟩
theorem nodup_len {α : Type} [DecidableEq α] : ∀ {l m : List α}, l.Nodup → (∀ x ∈ l, x ∈ m) → l.length ≤ m.length
  | [], _, _, _ => Nat.zero_le _
  | a :: l, m, hd, h => by
    rw [List.nodup_cons] at hd
    have ha := h a (List.mem_cons_self ..)
    have := nodup_len (l := l) (m := m.erase a) hd.2 fun x hx => (List.mem_erase_of_ne (fun (z : x = a) => hd.1 (z ▸ hx))).mpr (h x (List.mem_cons_of_mem _ hx))
    have hl := List.length_erase_of_mem ha
    have hp := List.length_pos_of_mem ha
    rw [List.length_cons]; lia
structure FC (σ : Addr → Option (Nat × Cell)) (x : Addr) (st : SS) (dx nd : Addr) (rv : AV) (as : List NAd) (ep : Nat) (K I D N : Addr) (pre : List AV) (key : AV) (es : List Ent) (seen : AV → Bool) (cnt ep' : Nat) : Prop where
  S : SAt σ x st dx nd rv as ep
  D : DAt σ st.su K I D N es seen cnt ep'
  dfs : Dfs st.su pre key (es.map fun e => (e.v, e.n)) seen
  cnt : cnt = (st.keys.filter seen).length
  sk : ∀ v, seen v = true → v ∈ st.keys
noncomputable def meas (st : SS) (es : List Ent) (seen : AV → Bool) : Nat := (es.map fun e => (st.su e.v).length - e.n).sum + ((st.keys.filter fun k => !seen k).map fun k => (st.su k).length + 1).sum
section
variable {σ σ' : Addr → Option (Nat × Cell)} {x dx nd : Addr} {rv : AV} {as : List NAd} {ep : Nat} {st : SS} {K I D N : Addr} {pre : List AV} {key : AV} {es : List Ent} {seen : AV → Bool} {cnt ep' : Nat}
theorem FC.ext {C : List Nat} (h : FC σ x st dx nd rv as ep K I D N pre key es seen cnt ep') (e : Ext C σ σ') (h1 : 1 ∉ C) (h2 : 2 ∉ C) (h3 : 3 ∉ C) (h4 : 4 ∉ C) : FC σ' x st dx nd rv as ep K I D N pre key es seen cnt ep' :=
  ⟨h.S.ext e h1 h2, h.D.ext e h2 h3 h4, h.dfs, h.cnt, h.sk⟩
theorem FC.lt (h : FC σ x st dx nd rv as ep K I D N pre key es seen cnt ep') (hz : st.keys.length < 4000) : cnt < 4000 := by
  rw [h.cnt]; exact Nat.lt_of_le_of_lt (List.length_filter_le ..) hz
theorem FC.len (h : FC σ x st dx nd rv as ep K I D N pre key es seen cnt ep') : es.length ≤ st.keys.length := by
  have h1 : (es.map (·.v)).Nodup := by have := h.dfs.nd; rw [List.map_map] at this; exact this
  have h2 : ∀ v ∈ es.map (·.v), v ∈ st.keys := fun v hv => h.sk v (h.dfs.on v (by rw [List.map_map]; exact hv))
  have : (es.map (·.v)).length ≤ st.keys.length := nodup_len h1 h2
  simpa using this
end
end Mine.Internal
namespace Mine.Internal
open PySem PySem.W PyProof.Rows PySem.Calls
theorem Exc.looks {c : Cx} {a : AS} {e t : Addr} {cls : Value} {args : List AV} {tb : Option Addr} (h : Exc a.σ e t cls args tb) {s : Shared} (hs : St c a s) : Looks (model c.prog c.w) s.heap (typeOf (.ref e)) cls := by
  obtain ⟨o, vs, ho, hc, _⟩ := exc_get hs h
  subst hc
  exact (Looks.ld ho).andThen .now
theorem Exc.m {c : Cx} {a : AS} {e t : Addr} {cls cv : Value} {args : List AV} {tb : Option Addr} {b : Bool} (h : Exc a.σ e t cls args tb) (hx : exmOne c.K cls cv = some b) : ExcM c a (.ref e) cv b := fun s hs =>
  exm_one (c.inK.keeps hs.keep) (h.looks hs) hx
section
variable {st : SS} {es : List Ent} {seen : AV → Bool} {e : Ent}
theorem meas_item (h : e.n < (st.su e.v).length) : meas st ({ e with n := e.n + 1 } :: es) seen < meas st (e :: es) seen := by
  unfold meas; simp only [List.map_cons, List.sum_cons]; lia
theorem meas_pop : meas st es seen ≤ meas st (e :: es) seen := by
  unfold meas; simp only [List.map_cons, List.sum_cons]; lia
theorem meas_push (hd : st.keys.Nodup) (hv : e.v ∈ st.keys) (hs : seen e.v = false) (hn : e.n = 0) : meas st (e :: es) (fun x => seen x || decide (x = e.v)) < meas st es seen := by
  unfold meas
  rw [(filter_mark (fun k => (st.su k).length + 1) hd hv hs).1]
  simp only [List.map_cons, List.sum_cons, hn]; lia
end
end Mine.Internal
namespace Mine.Internal
open PySem PySem.W PyProof.Rows PySem.Calls
@[reducible] noncomputable def fcF (L x nd K I N D : Addr) (b : Option AV) : Frm := ⟨L, [], ["self", "n2i", "stack", "itstack", "seen", "node2stacki", "node"], [some (.ref x), some (.ref nd), some (.ref K), some (.ref I), some (.ref N), some (.ref D), b]⟩
inductive FcRet (L x nd K I N D : Addr) (fs : List Frm) (g : Array GenState) (st : SS) (σ : Addr → Option (Nat × Cell)) (v : Value) (a' : AS) : Prop
  | mk (b : Option AV) (r : List AV) (l : Addr) (σ' : Addr → Option (Nat × Cell)) : a' = ⟨fcF L x nd K I N D b :: fs, σ', g⟩ → v = .ref l → RingRes st.keys st.su (some r) → r.length ≤ st.keys.length + 1 → Ext [3, 4, 8] σ σ' → σ' l = some (0, .list r) → FcRet L x nd K I N D fs g st σ v a'
inductive FcJ (x nd K I N D dx : Addr) (rv : AV) (as : List NAd) (ep : Nat) (st : SS) (i : Nat) (vv : List (Option AV)) (σ' : Addr → Option (Nat × Cell)) : Prop
  | mk (b : Option AV) (seen : AV → Bool) (cnt ep' : Nat) : vv = [some (.ref x), some (.ref nd), some (.ref K), some (.ref I), some (.ref N), some (.ref D), b] → (∀ key, FC σ' x st dx nd rv as ep K I D N (st.keys.take i) key [] seen cnt ep') → FcJ x nd K I N D dx rv as ep st i vv σ'
inductive FcA (fs : List Frm) (g : Array GenState) (L x nd K I N D dx : Addr) (rv : AV) (as : List NAd) (ep : Nat) (st : SS) (pre : List AV) (key : AV) (σ₀ : Addr → Option (Nat × Cell)) (a' : AS) : Prop
  | mk (b : Option AV) (seen : AV → Bool) (cnt ep' : Nat) (σ' : Addr → Option (Nat × Cell)) : a' = ⟨fcF L x nd K I N D b :: fs, σ', g⟩ → Ext [3, 4, 8] σ₀ σ' → FC σ' x st dx nd rv as ep K I D N pre key [] seen cnt ep' → ¬ Stay st.su key → FcA fs g L x nd K I N D dx rv as ep st pre key σ₀ a'
inductive FcB (fs : List Frm) (g : Array GenState) (L x nd K I N D dx : Addr) (rv : AV) (as : List NAd) (ep : Nat) (st : SS) (pre : List AV) (key : AV) (σ₀ : Addr → Option (Nat × Cell)) (n : Nat) (a : AS) : Prop
  | mk (v : AV) (es : List Ent) (seen : AV → Bool) (cnt ep' : Nat) (σ' : Addr → Option (Nat × Cell)) : a = ⟨fcF L x nd K I N D (some v) :: fs, σ', g⟩ → n = meas st es seen → Ext [3, 4, 8] σ₀ σ' → FC σ' x st dx nd rv as ep K I D N pre key es seen cnt ep' → TopIs st.su key (es.map fun e => (e.v, e.n)) v → v ∈ st.keys → (es = [] → seen v = false) → FcB fs g L x nd K I N D dx rv as ep st pre key σ₀ n a
inductive FcC (fs : List Frm) (g : Array GenState) (L x nd K I N D dx : Addr) (rv : AV) (as : List NAd) (ep : Nat) (st : SS) (pre : List AV) (key : AV) (σ₀ : Addr → Option (Nat × Cell)) (v : AV) (m : Nat) (a' : AS) : Prop
  | mk (es' : List Ent) (seen' : AV → Bool) (cnt' ep'' : Nat) (σ' : Addr → Option (Nat × Cell)) : a' = ⟨fcF L x nd K I N D (some v) :: fs, σ', g⟩ → meas st es' seen' ≤ m → Ext [3, 4, 8] σ₀ σ' → FC σ' x st dx nd rv as ep K I D N pre key es' seen' cnt' ep'' → RestIs st.su (es'.map fun e => (e.v, e.n)) → es' ≠ [] → FcC fs g L x nd K I N D dx rv as ep st pre key σ₀ v m a'
inductive FcD (fs : List Frm) (g : Array GenState) (L x nd K I N D dx : Addr) (rv : AV) (as : List NAd) (ep : Nat) (st : SS) (pre : List AV) (key : AV) (σ₀ : Addr → Option (Nat × Cell)) (m : Nat) (a' : AS) : Prop
  | mk (v' : AV) (es' : List Ent) (seen' : AV → Bool) (cnt' ep'' : Nat) (σ' : Addr → Option (Nat × Cell)) : a' = ⟨fcF L x nd K I N D (some v') :: fs, σ', g⟩ → meas st es' seen' < m → Ext [3, 4, 8] σ₀ σ' → FC σ' x st dx nd rv as ep K I D N pre key es' seen' cnt' ep'' → TopIs st.su key (es'.map fun e => (e.v, e.n)) v' → v' ∈ st.keys → es' ≠ [] → FcD fs g L x nd K I N D dx rv as ep st pre key σ₀ m a'
inductive FcE (fs : List Frm) (g : Array GenState) (L x nd K I N D dx : Addr) (rv : AV) (as : List NAd) (ep : Nat) (st : SS) (pre : List AV) (key : AV) (σ₀ : Addr → Option (Nat × Cell)) (v : AV) (m n : Nat) (a : AS) : Prop
  | mk (es' : List Ent) (seen' : AV → Bool) (cnt' ep'' : Nat) (σ' : Addr → Option (Nat × Cell)) : a = ⟨fcF L x nd K I N D (some v) :: fs, σ', g⟩ → n = es'.length → meas st es' seen' ≤ m → Ext [3, 4, 8] σ₀ σ' → FC σ' x st dx nd rv as ep K I D N pre key es' seen' cnt' ep'' → RestIs st.su (es'.map fun e => (e.v, e.n)) → (es' = [] → ¬ Stay st.su key) → FcE fs g L x nd K I N D dx rv as ep st pre key σ₀ v m n a
section
variable {c : Cx} {A : Around} {E : Value → AS → Prop} {fs : List Frm} {σ : Addr → Option (Nat × Cell)} {g : Array GenState} {d : Nat} {x dx nd : Addr} {rv : AV} {as : List NAd} {ep : Nat} {st : SS}
set_option maxHeartbeats 4000000 in
theorem find_cycle_spec {Q : Value → AS → Prop} (lw : Lw c) (hA : AOk A fs (d + 1)) (S : SAt σ x st dx nd rv as ep) (hsu : ∀ k s, s ∈ st.su k → s ∈ st.keys) (hz : st.keys.length < 4000) (hzs : ∀ k, (st.su k).length ≤ 100000)
    (hN : ∀ σ', RingRes st.keys st.su none → Ext [3, 4, 8] σ σ' → Q .none ⟨fs, σ', g⟩)
    (hS : ∀ r l σ', RingRes st.keys st.su (some r) → r.length ≤ st.keys.length + 1 → Ext [3, 4, 8] σ σ' → σ' l = some (0, .list r) → Q (.ref l) ⟨fs, σ', g⟩) :
    W c A (call (.ref 120) [.ref x]) Q E ⟨fs, σ, g⟩ := by
  refine W_call_G lw.K (ns := ["self", "n2i", "stack", "itstack", "seen", "node2stacki", "node"]) (us := [.ref x]) (gs := [("set", .type "set"), ("iter", .builtin "iter"), ("len", .builtin "len"), ("StopIteration", .type "StopIteration")]) fn_find rfl (by kernel_rfl) rfl (.cons (.rest (.rest (.rest (.rest (.rest (.rest .nil))))))) (by simp [lw.set, lw.iter, lw.len, lw.StopIteration]) hA (fun L env B P X0 hfr hh hL hA' hout hE hFx hUx => ?_)
  refine W_consG (fun _ _ => ?_)
  repeat walk_at "st"
  refine W_getAttr S.x S.dx (lw.K ▸ a_node2info) sAttrs_nd (by walk_at "mem") ?_
  repeat walk_at "st"
  refine W_newList 3 (by first | decide | simp) (fun K hK σ1 e1 => ?_)
  repeat walk_at "st"
  refine W_newList 3 (by first | decide | simp) (fun I hI σ2 e2 => ?_)
  repeat walk_at "st"
  refine ⟨Kp.type, W_set0 3 (fun N hNn σ3 e3 => ?_)⟩
  repeat walk_at "st"
  refine W_Dict_nil (W_newDict 3 (fun D hD σ4 e4 => ?_))
  repeat walk_at "st"
  have X1 : Ext [] σ σ1 := Ext.new_eq e1 hK
  have X2 : Ext [] σ1 σ2 := Ext.new_eq e2 hI
  have X3 : Ext [] σ2 σ3 := Ext.new_eq e3 hNn
  have X4 : Ext [] σ3 σ4 := Ext.new_eq e4 hD
  have X : Ext [] σ σ4 := X1.trans (X2.trans (X3.trans X4))
  have DA : DAt σ4 st.su K I D N [] (fun _ => false) 0 0 := by
    refine ⟨X4 _ _ _ (X3 _ _ _ (X2 _ _ _ (at_upd e1) (by first | decide | simp)) (by first | decide | simp)) (by first | decide | simp), X4 _ _ _ (X3 _ _ _ (at_upd e2) (by first | decide | simp)) (by first | decide | simp), at_upd e4, X4 _ _ _ (at_upd e3) (by first | decide | simp), by first | exact fun _ h => nomatch h | simp, by first | exact fun _ h => nomatch h | simp, by first | exact fun _ h => nomatch h | simp, .nil, fun q => ?_⟩
    rw [← q, e1, upd_self] at hI; cases hI
  have S4 := S.ext X (by first | decide | simp) (by first | decide | simp)
  have F0 : ∀ key, FC σ4 x st dx nd rv as ep K I D N (st.keys.take 0) key [] (fun _ => false) 0 0 := fun key =>
    ⟨S4, DA, ⟨fun v q => (by cases q), fun v q => (by cases q), fun v q => (by cases q), .nil, .inl rfl⟩, (by rw [List.filter_eq_nil_iff.mpr (fun _ _ q => by cases q)]; rfl), fun v q => (by cases q)⟩
  clear e1 e2 e3 e4 hK hI hNn hD X1 X2 X3 X4
  refine W_cutG (fun f a' => match f with
    | .next => ∃ b σ', a' = ⟨fcF L x nd K I N D b :: fs, σ', g⟩ ∧ Ext [3, 4, 8] σ4 σ' ∧ RingRes st.keys st.su none
    | .ret v => FcRet L x nd K I N D fs g st σ4 v a'
    | _ => False) ?_ ?_
  rotate_left
  · intro f a' hf
    cases f with
    | next =>
      obtain ⟨b, σ', rfl, X', r⟩ := hf
      repeat walk_at "st"
      exact hN σ' r (X.nil.trans X')
    | ret v =>
      obtain ⟨b, r, l, σ', rfl, rfl, hr, hrl, X', hl'⟩ := hf
      repeat walk_at "st"
      exact hS r l σ' hr hrl (X.nil.trans X') hl'
    | brk => exact hf.elim
    | cont => exact hf.elim
  intro P1 hP1
  refine W_For ?_
  repeat walk_at "st"
  refine W_iter_dict S4.nd (fun it h0 σ5 e5 => ?_)
  refine Wk_loopG (IterOf.dictKeys (k := 1) hh (fun p hp => S.key p.1 (List.of_mem_zip hp).1)) [3, 4, 8] (by first | decide | simp) (by first | decide | simp)
    (FcJ x nd K I N D dx rv as ep st)
    (fun i vv σ σ' q X => by obtain ⟨b, seen, cnt, ep', hv, F⟩ := q; exact ⟨b, seen, cnt, ep', hv, fun key => (F key).ext X (by first | decide | simp) (by first | decide | simp) (by first | decide | simp) (by first | decide | simp)⟩) h0 e5
    ((put_ne e5 (ne_new S4.nd h0)).trans S4.nd) ⟨_, fun _ => false, 0, 0, rfl, F0⟩ ?_ ?_
  · rintro i key vv σ6 u6 P6 E6 hP6 hE6 ⟨b, seen, cnt, ep', rfl, F⟩ hv eu hsrc X6
    have hlz : (st.keys.zip (as.map fun p => AV.ref p.i)).map (·.1) = st.keys := by
      exact List.map_fst_zip (Nat.le_of_eq (by rw [List.length_map, S.len]))
    rw [hlz] at hv
    have hkm : key ∈ st.keys := List.mem_of_getElem? hv
    have hkey := S.key key hkm
    obtain ⟨hil, hie⟩ := List.getElem?_eq_some_iff.mp hv
    have htk : st.keys.take (i + 1) = st.keys.take i ++ [key] := by rw [List.take_add_one, hv]; rfl
    have hsplit : st.keys = st.keys.take i ++ key :: st.keys.drop (i + 1) := by
      rw [← hie, List.getElem_cons_drop, List.take_append_drop]
    have F6 := F key
    repeat walk_at "st"
    rw [eu]
    refine All.key hkey fun u7 e7 => ?_
    repeat walk_at "st"
    refine W_in_set F6.D.hN (by have := F6.lt hz; lia) (by rw [e7]; exact hkey) ?_
    rw [e7]
    have next : ∀ seen cnt ep' (σ7 : Addr → Option (Nat × Cell)), FC σ7 x st dx nd rv as ep K I D N (st.keys.take i) key [] seen cnt ep' → ¬ Stay st.su key →
        ∀ key', FC σ7 x st dx nd rv as ep K I D N (st.keys.take (i + 1)) key' [] seen cnt ep' := fun seen cnt ep' σ7 F7 hn key' =>
      ⟨F7.S, F7.D, ⟨F7.dfs.fin, F7.dfs.on, fun k hk => by
        rw [htk] at hk
        rcases List.mem_append.mp hk with hk | hk
        · exact F7.dfs.pre k hk
        · rw [List.mem_singleton.mp hk]; exact hn, .nil, .inl rfl⟩, F7.cnt, F7.sk⟩
    cases hsk : seen key
    · repeat walk_at "st"
      refine W_cutG (fun f a' => match f with
        | .next => FcA fs g L x nd K I N D dx rv as ep st (st.keys.take i) key σ6 a'
        | .ret v => FcRet L x nd K I N D fs g st σ6 v a'
        | _ => False) ?_ ?_
      rotate_left
      · intro f a' hf
        cases f with
        | next =>
          obtain ⟨b, seen, cnt, ep', σ', rfl, X', F', hn⟩ := hf
          repeat walk_at "st"
          exact hP6.nx _ σ' X' ⟨b, seen, cnt, ep', rfl, next _ _ _ _ F' hn⟩
        | ret v =>
          obtain ⟨b, r, l, σ', rfl, rfl, hr, hrl, X', hl'⟩ := hf
          repeat walk_at "st"
          exact hP6.re _ _ (hP1 (.ret _) _ ⟨b, r, l, σ', rfl, rfl, hr, hrl, X6.trans X', hl'⟩)
        | brk => exact hf.elim
        | cont => exact hf.elim
      intro P2 hP2
      refine W_WhileG (fun n a => FcB fs g L x nd K I N D dx rv as ep st (st.keys.take i) key σ6 n a) ?_ (meas st [] seen) ⟨key, [], seen, cnt, ep', σ6, rfl, rfl, Ext.refl, F6, rfl, hkm, fun _ => hsk⟩
      clear next hsk F6 F hsrc
      rintro n a P7 E7 hP7 hE7 ⟨v, es, seen, cnt, ep', σ7, rfl, rfl, X7, F7, T7, hvm, hnil⟩
      have hvk := S.key v hvm
      refine W_isTrue_any (W_Const_bool (W_truthy_bool (ite_t rfl ?_)))
      refine W_consG (fun P8 hP8 => W_cutG (fun f a' => match f with
        | .next => FcC fs g L x nd K I N D dx rv as ep st (st.keys.take i) key σ6 v (meas st es seen) a'
        | .ret v => FcRet L x nd K I N D fs g st σ6 v a'
        | _ => False) ?_ ?_)
      · intro P9 hP9
        have hlt := F7.lt hz
        have hel := F7.len
        have N7 := F7.D
        repeat walk_at "st"
        refine All.key hvk fun u8 e8 => ?_
        repeat walk_at "st"
        refine W_in_set N7.hN (by walk_at "le") (by rw [e8]; exact hvk) ?_
        rw [e8]
        cases hsv : seen v
        · repeat walk_at "st"
          intro pl
          refine W_meth_set_add N7.hN (by walk_at "le") ?_
          repeat walk_at "st"
          refine All.key hvk fun u9 e9 => ?_
          repeat walk_at "st"
          refine ⟨Kp.builtin, W_set_add N7.hN (by walk_at "le") (by rw [e9]; exact hvk) (fun σ8 e10 => ?_)⟩
          rw [e9, hsv] at e10
          have hKN : K ≠ N := fun z => by have := N7.hK; rw [z, N7.hN] at this; cases this
          have hIN : I ≠ N := fun z => by have := N7.hI; rw [z, N7.hN] at this; cases this
          have hDN : D ≠ N := fun z => by have := N7.hD; rw [z, N7.hN] at this; cases this
          have hDK : D ≠ K := fun z => by have := N7.hD; rw [z, N7.hK] at this; cases this
          have hDI : D ≠ I := fun z => by have := N7.hD; rw [z, N7.hI] at this; cases this
          have hI8 : σ8 I = some (3, .list (es.map fun e => AV.ref e.m).reverse) := (put_ne e10 hIN).trans N7.hI
          have X8 : Ext [3] σ7 σ8 := Ext.own_eq e10 N7.hN (by first | decide | simp)
          have S8 := F7.S.ext X8 (by first | decide | simp) (by first | decide | simp)
          obtain ⟨j, p, hj, hp, hg⟩ := S8.find hvm
          have N8 := S8.nds j p v hp hj
          repeat walk_at "st"
          intro pl2
          refine W_meth_list F.slot_list_append F.type_list_append hI8 ?_
          repeat walk_at "st"
          refine All.key hvk fun u10 e11 => ?_
          refine ⟨noGet_dict S8.nd, W_dict_item S8.nd (by rw [e11]; exact hvk) (by rw [e11]; exact hg) ?_⟩
          repeat walk_at "st"
          refine W_getSlot N8.i N8.d (lw.K ▸ sl_su) (by rfl) ?_
          repeat walk_at "st"
          refine ⟨Kp.builtin, W_iter_call 4 N8.s (fun it8 h9 σ9 e12 => ?_)⟩
          refine W_next_attr 3 (at_upd e12) (fun m hm9 hmit σ10 e13 => ?_)
          repeat walk_at "st"
          have X10 : ∀ y q, σ8 y = some q → σ10 y = some q := fun y q hq => by
            have n1 : y ≠ it8 := ne_new hq h9
            have n2 : y ≠ m := fun z => by rw [z] at hq n1; rw [e12, upd_ne n1, hq] at hm9; cases hm9
            exact (put_ne e13 n2).trans ((upd_ne n1).trans ((put_ne e12 n1).trans hq))
          have hI10 := X10 _ _ hI8
          have hpl : (es.map fun e => AV.ref e.m).reverse.length ≤ 4000 := by rw [List.length_reverse, List.length_map]; lia
          have hpl2 : (es.map (·.v)).reverse.length ≤ 4000 := by rw [List.length_reverse, List.length_map]; lia
          refine ⟨Kp.builtin, W_append hI10 (by walk_at "le") (fun σ11 e14 => ?_)⟩
          have hK11 : σ11 K = some (3, .list (es.map (·.v)).reverse) := (put_ne e14 N7.KI).trans (X10 _ _ ((put_ne e10 hKN).trans N7.hK))
          have hD11 : σ11 D = some (3, .dict (idxs (es.map (·.v)).reverse) ep') := (put_ne e14 hDI).trans (X10 _ _ ((put_ne e10 hDN).trans N7.hD))
          repeat walk_at "st"
          refine ⟨Kp.builtin, W_len_list hK11 (by walk_at "le") ?_⟩
          intro t11
          repeat walk_at "st"
          refine All.key hvk fun u12 e15 => ?_
          refine W_dict_set hD11 (by rw [e15]; exact hvk) (by unfold idxs; rw [idxsFrom_len]; lia) (fun ep2 σ12 e16 => ?_)
          have hnon : v ∉ (es.map (·.v)).reverse := fun z => by
            have := F7.dfs.on v (by rw [List.map_map]; exact List.mem_reverse.mp z)
            rw [hsv] at this; cases this
          rw [e15, show er (Value.int ((es.map (·.v)).reverse.length : Nat) t11) = AV.int ((es.map (·.v)).reverse.length : Nat) from rfl, dset_idxs hnon] at e16
          have hK12 : σ12 K = some (3, .list (es.map (·.v)).reverse) := (put_ne e16 (Ne.symm hDK)).trans hK11
          repeat walk_at "st"
          intro pl3
          refine W_meth_list F.slot_list_append F.type_list_append hK12 ?_
          repeat walk_at "st"
          refine All.key hvk fun u13 e17 => ?_
          repeat walk_at "st"
          refine ⟨Kp.builtin, W_append hK12 (by walk_at "le") (fun σ13 e18 => ?_)⟩
          rw [e17] at e18
          repeat walk_at "st"
          have X13 : Ext [3] σ7 σ13 := by
            refine X8.trans (Ext.trans (σ' := σ10) (fun y k cl h _ => X10 y _ h) ?_)
            refine Ext.trans ?_ (Ext.own_eq e18 hK12 (by first | decide | simp))
            refine Ext.trans ?_ (Ext.own_eq e16 hD11 (by first | decide | simp))
            exact Ext.own_eq e14 hI10 (by first | decide | simp)
          have hit8 : σ13 it8 = some (4, iterCell "list_iterator" p.s 0) := by
            have n : ∀ {y c' cl}, σ8 y = some (c', cl) → it8 ≠ y := fun hy z => by rw [← z, h9] at hy; cases hy
            exact (put_ne e18 (n (y := K) ((put_ne e10 hKN).trans N7.hK))).trans ((put_ne e16 (n (y := D) ((put_ne e10 hDN).trans N7.hD))).trans ((put_ne e14 (n hI8)).trans ((put_ne e13 (Ne.symm hmit)).trans upd_self)))
          have hm13 : σ13 m = some (3, wrapCell it8) := by
            have n : ∀ {y q}, σ8 y = some q → m ≠ y := fun {y q} hy z => by
              have n1 : y ≠ it8 := ne_new hy h9
              rw [z, e12, upd_ne n1, hy] at hm9; cases hm9
            exact (put_ne e18 (n (y := K) ((put_ne e10 hKN).trans N7.hK))).trans ((put_ne e16 (n (y := D) ((put_ne e10 hDN).trans N7.hD))).trans ((put_ne e14 (n hI8)).trans (at_upd e13)))
          have P := F7.dfs.push T7 hsv
          have hcnt := (filter_mark (fun _ => 0) F7.S.knd hvm hsv).2
          refine hP9 .next _ ⟨⟨v, 0, m, it8, p.s⟩ :: es, _, _, ep2, σ13, rfl, Nat.le_of_lt (meas_push (e := ⟨v, 0, m, it8, p.s⟩) F7.S.knd hvm hsv rfl), X7.trans (X13.mono (by first | decide | simp)), ⟨F7.S.ext X13 (by first | decide | simp) (by first | decide | simp), ?_, P.1, hcnt.symm ▸ congrArg (· + 1) F7.cnt, ?_⟩, P.2, by simp⟩
          · refine N7.push (e := ⟨v, 0, m, it8, p.s⟩) (fun y q n1 n2 n3 n4 hy => ?_) (at_upd e18) ?_ ?_ ?_ hm13 hit8 ?_ ?_
            ·
              exact (put_ne e18 n1).trans ((put_ne e16 n3).trans ((put_ne e14 n2).trans (X10 _ _ ((put_ne e10 n4).trans hy))))
            · exact (put_ne e18 (Ne.symm N7.KI)).trans ((put_ne e16 (Ne.symm hDI)).trans (at_upd e14))
            · exact (put_ne e18 hDK).trans (at_upd e16)
            ·
              exact (put_ne e18 (Ne.symm hKN)).trans ((put_ne e16 (Ne.symm hDN)).trans ((put_ne e14 (Ne.symm hIN)).trans (X10 _ _ (at_upd e10))))
            · exact X13 _ _ _ (F7.S.nds j p v hp hj).s (by first | decide | simp)
            · cases q : σ7 it8 with
              | none => rfl
              | some r =>
                exfalso
                by_cases z : it8 = N
                · rw [z, e10, upd_self] at h9; cases h9
                · rw [e10, upd_ne z, q] at h9; cases h9
          · intro y hy
            rcases Bool.or_eq_true_iff.mp hy with hy | hy
            · exact F7.sk y hy
            · rw [of_decide_eq_true hy]; exact hvm
        · repeat walk_at "st"
          refine All.key hvk fun u9 e9 => ?_
          repeat walk_at "st"
          refine W_in_dict N7.hD (by rw [e9]; exact hvk) ?_
          rw [e9]
          by_cases hon : v ∈ (es.map (·.v)).reverse
          · obtain ⟨p, q, hpq⟩ := List.append_of_mem hon
            have hnp : v ∉ p := fun w => by
              have h1 := F7.dfs.nd
              rw [List.map_map] at h1
              have h2 : (es.map (·.v)).reverse.Nodup := (List.reverse_perm _).nodup_iff.mpr h1
              rw [hpq] at h2
              exact (List.nodup_append.mp h2).2.2 v w v (List.mem_cons_self ..) rfl
            have hdg := dget_idxs hpq hnp
            rw [hdg]
            refine W_truthy_bool (ite_t rfl (W_consG fun _ _ => W_Return_some (W_BinOp (W_slice_from 9 ?_))))
            repeat walk_at "st"
            refine All.key hvk fun u10 e10 => ?_
            refine ⟨noGet_dict N7.hD, W_dict_item N7.hD (by rw [e10]; exact hvk) (by rw [e10]; exact hdg) ?_⟩
            intro t10
            have hpl : (es.map (·.v)).reverse.length ≤ 4000 := by rw [List.length_reverse, List.length_map]; lia
            refine SlAt.lo (slOwn N7.hK) (by lia) (by lia) (by rw [hpq, List.length_append]; exact Nat.le_add_right _ _) fun l hl σ8 e11 => ?_
            repeat walk_at "st"
            refine All.key hvk fun u11 e12 => ?_
            repeat walk_at "st"
            refine W_newList 9 (by first | decide | simp) (fun l2 hl2 σ9 e13 => ?_)
            have hll : l ≠ l2 := ne_new (at_upd e11) hl2
            refine W_list_add 0 ((put_ne e13 hll).trans (at_upd e11)) (at_upd e13) (by rw [List.length_drop]; exact Nat.le_trans (Nat.add_le_add_right (Nat.le_trans (Nat.sub_le ..) hpl) 1) (by decide)) (fun l3 hl3 σ10 e14 => ?_)
            repeat walk_at "st"
            refine hP9 (.ret _) _ ⟨some v, _, l3, σ10, rfl, rfl, F7.dfs.ring T7 (by rw [List.map_map]; exact List.mem_reverse.mp hon) hsplit (by rw [List.map_map]; exact hpq), ?_, X7.trans ?_, ?_⟩
            · have := congrArg List.length hpq
              simp at this ⊢; lia
            ·
              refine Ext.trans ?_ (Ext.new_eq e14 hl3)
              refine Ext.trans ?_ (Ext.new_eq e13 hl2)
              exact Ext.new_eq e11 hl
            · rw [e14, upd_self, hpq]
              simp [e12]
          · rw [dget_idxs_none hon]
            repeat walk_at "st"
            exact hP9 .next _ ⟨es, seen, cnt, ep', σ7, rfl, Nat.le_refl _, X7, F7, F7.dfs.skip T7 hsv (by rw [List.map_map]; exact fun q => hon (List.mem_reverse.mpr q)), fun q => by rw [hnil q] at hsv; cases hsv⟩
      · intro f a' hf
        cases f with
        | next =>
          obtain ⟨es', seen', cnt', ep'', σ', rfl, hme, X', F', R', hne⟩ := hf
          refine hP8.nx _ (W_consG fun P10 hP10 => W_cutG (fun f a' => match f with
            | .next => FcD fs g L x nd K I N D dx rv as ep st (st.keys.take i) key σ6 (meas st es seen) a'
            | .brk => FcA fs g L x nd K I N D dx rv as ep st (st.keys.take i) key σ6 a'
            | _ => False) ?_ ?_)
          rotate_left
          · intro f a' hf
            cases f with
            | next =>
              obtain ⟨v', es'', seen'', cnt'', ep3, σ'', rfl, hme', X'', F'', T'', hvm', hne'⟩ := hf
              repeat walk_at "st"
              exact hP7.nx _ ⟨_, hme', v', es'', seen'', cnt'', ep3, σ'', rfl, rfl, X'', F'', T'', hvm', fun q => absurd q hne'⟩
            | ret v => exact hf.elim
            | brk => exact hP10.br _ (hP7.br _ (hP2 .next _ hf))
            | cont => exact hf.elim
          intro P11 hP11
          refine W_WhileG (fun n a => FcE fs g L x nd K I N D dx rv as ep st (st.keys.take i) key σ6 v (meas st es seen) n a) ?_ es'.length
            ⟨es', seen', cnt', ep'', σ', rfl, rfl, hme, X', F', R', fun q => absurd q hne⟩
          clear hme X' F' R' hne T7 F7 hnil X7
          clear es' seen' cnt' ep'' σ'
          rintro n a P12 E12 hP12 hE12 ⟨es', seen', cnt', ep'', σ8, rfl, rfl, hme, X8, F8, R8, hnil⟩
          have hel := F8.len
          have N8 := F8.D
          repeat walk_at "st"
          refine W_truthy_list N8.hK (by rw [List.length_reverse, List.length_map]; lia) ?_
          cases es' with
          | nil =>
            repeat walk_at "st"
            exact hP11 .brk _ ⟨some v, seen', cnt', ep'', σ8, rfl, X8, F8, hnil rfl⟩
          | cons e es' =>
            have hemp : (!(List.map (fun x => x.v) (e :: es')).reverse.isEmpty) = true := by rw [List.isEmpty_reverse]; rfl
            rw [hemp]
            refine ite_t rfl (W_consG fun P13 hP13 => W_Try ?_)
            have hI8 : σ8 I = some (3, .list ((es'.map fun e => AV.ref e.m).reverse ++ [.ref e.m])) := by rw [N8.hI, List.map_cons, List.reverse_cons]
            have hm8 := N8.hm e (List.mem_cons_self ..)
            have hit8 := N8.hit e (List.mem_cons_self ..)
            have hs8 := N8.hs e (List.mem_cons_self ..)
            repeat walk_at "st"
            refine W_Call_Sub ?_
            repeat walk_at "st"
            refine ⟨noGet_list N8.hI, W_last_list hI8 (by first | (rw [List.length_reverse, List.length_map]; rw [List.length_cons] at hel; lia) | (simp at hel ⊢; lia)) ?_⟩
            repeat walk_at "st"
            refine ⟨Kp.wrap hm8, ?_⟩
            by_cases hi : e.n < (st.su e.v).length
            · have hx : (st.su e.v)[e.n]? = some (st.su e.v)[e.n] := List.getElem?_eq_getElem hi
              have hxm : (st.su e.v)[e.n] ∈ st.keys := hsu e.v _ (List.getElem_mem hi)
              refine W_wrap_item hm8 hit8 hs8 hx (fun σ9 u9 e9 eu9 => ?_)
              repeat walk_at "st"
              rw [eu9]
              obtain ⟨D1, T1⟩ := F8.dfs.item R8 hx
              refine hP12.br _ (hP11 .next _ ⟨_, { e with n := e.n + 1 } :: es', seen', cnt', ep'', σ9, rfl, Nat.lt_of_lt_of_le (meas_item hi) hme, X8.trans (Ext.own_eq e9 hit8 (by first | decide | simp)), ⟨F8.S.ext (C := [4]) (Ext.own_eq e9 hit8 (by first | decide | simp)) (by first | decide | simp) (by first | decide | simp), by rw [e9]; exact N8.item, D1, F8.cnt, F8.sk⟩, T1, hxm, by simp⟩)
            · obtain ⟨D1, R1, Z1⟩ := F8.dfs.pop R8 (Nat.le_of_not_lt hi)
              obtain ⟨outer, hout⟩ := hout
              refine W_wrap_end hh hm8 hit8 hs8 (Nat.le_of_not_lt hi) (fun σ9 ex tx h9 hex9 hX9 => ?_)
              refine W_noteFrame hA'.vs.link hout hfr hX9 (fun σ10 T X10 hX10 => W_setFlight hX10 (W_handle_hit ?_))
              have g10 : ∀ {y c' cl}, σ8 y = some (c', cl) → y ≠ e.it → c' ≠ 8 → σ10 y = some (c', cl) := fun h1 h2 h3 => X10 _ _ _ (h9 _ _ h2 h1) (fun q => h3 (List.mem_singleton.mp q))
              have n4 : ∀ {y c' cl}, σ8 y = some (c', cl) → c' ≠ 4 → y ≠ e.it := fun q1 q2 z => by rw [z, hit8] at q1; cases q1; exact q2 rfl
              have hK10 : σ10 K = some (3, .list ((es'.map (·.v)).reverse ++ [e.v])) := g10 (by rw [N8.hK, List.map_cons, List.reverse_cons]) (n4 N8.hK (by decide)) (by decide)
              have hI10 : σ10 I = some (3, .list ((es'.map fun e => AV.ref e.m).reverse ++ [.ref e.m])) := g10 hI8 (n4 N8.hI (by decide)) (by decide)
              have hD10 : σ10 D = some (3, .dict (idxs ((es'.map (·.v)).reverse ++ [e.v])) ep'') := g10 (by rw [N8.hD, List.map_cons, List.reverse_cons]) (n4 N8.hD (by decide)) (by decide)
              have hem : e.v ∈ st.keys := F8.sk _ (F8.dfs.on _ (by first | decide | simp))
              have hek := S.key e.v hem
              have hnon : e.v ∉ (es'.map (·.v)).reverse := fun z => by
                have := F8.dfs.nd
                rw [List.map_cons, List.map_cons, List.nodup_cons] at this
                exact this.1 (by rw [List.map_map]; exact List.mem_reverse.mp z)
              refine W_Glob hE (by walk_at "mem") ⟨hX10.m (by rw [lw.K]; rfl), W_setFlight hX10 ?_⟩
              repeat walk_at "st"
              refine W_Delete_Sub ?_
              repeat walk_at "st"
              intro pl
              refine W_meth_list F.slot_list_pop F.type_list_pop hK10 ?_
              repeat walk_at "st"
              refine ⟨Kp.builtin, W_pop hK10 (by first | (rw [List.length_reverse, List.length_map]; rw [List.length_cons] at hel; lia) | (simp at hel ⊢; lia)) (fun σ11 e11 => All.key hek fun u11 eu11 => ?_)⟩
              have hKD : K ≠ D := fun z => by rw [z, hD10] at hK10; cases hK10
              have hID : I ≠ D := fun z => by rw [z, hD10] at hI10; cases hI10
              have hD11 : σ11 D = some (3, .dict (idxs ((es'.map (·.v)).reverse ++ [e.v])) ep'') := (put_ne e11 (Ne.symm hKD)).trans hD10
              refine W_dict_del hD11 (by rw [eu11]; exact hek) ?_ (by unfold idxs; rw [idxsFrom_len, List.length_append, List.length_reverse, List.length_map]; rw [List.length_cons] at hel; show es'.length + 1 ≤ _; lia) (fun ep3 σ12 e12 => ?_)
              · rw [eu11, dget_idxs (p := (es'.map (·.v)).reverse) (q := []) rfl hnon]; rfl
              rw [eu11, ddel_idxs hnon] at e12
              have hI12 : σ12 I = some (3, .list ((es'.map fun e => AV.ref e.m).reverse ++ [.ref e.m])) := (put_ne e12 hID).trans ((put_ne e11 (Ne.symm N8.KI)).trans hI10)
              repeat walk_at "st"
              intro pl2
              refine W_meth_list F.slot_list_pop F.type_list_pop hI12 ?_
              repeat walk_at "st"
              refine ⟨Kp.builtin, W_pop hI12 (by first | (rw [List.length_reverse, List.length_map]; rw [List.length_cons] at hel; lia) | (simp at hel ⊢; lia)) (fun σ13 e13 => ?_)⟩
              repeat walk_at "st"
              have X13 : Ext [3, 4, 8] σ8 σ13 := fun y k' cl' h1 h2 => by
                replace h2 : k' ≠ 3 ∧ k' ≠ 4 ∧ k' ≠ 8 := ⟨fun q => h2 (by rw [q]; decide), fun q => h2 (by rw [q]; decide), fun q => h2 (by rw [q]; decide)⟩
                have q1 := g10 h1 (n4 h1 h2.2.1) h2.2.2
                exact (put_ne e13 (fun z => by rw [z, hI10] at q1; cases q1; exact h2.1 rfl)).trans ((put_ne e12 (fun z => by rw [z, hD10] at q1; cases q1; exact h2.1 rfl)).trans ((put_ne e11 (fun z => by rw [z, hK10] at q1; cases q1; exact h2.1 rfl)).trans q1))
              refine hP12.nx _ ⟨es'.length, Nat.lt_succ_self _, es', seen', cnt', ep3, σ13, rfl, rfl, Nat.le_trans meas_pop hme, X8.trans X13, ⟨F8.S.ext X13 (by first | decide | simp) (by first | decide | simp), ?_, D1, F8.cnt, F8.sk⟩, R1, fun q => (Z1 (by rw [q]; rfl)).2⟩
              refine N8.pop (fun y p n0 n1 n2 n3 n5 hy => ?_) ?_ ?_ ?_
              ·
                exact (put_ne e13 n2).trans ((put_ne e12 n3).trans ((put_ne e11 n1).trans (g10 hy n5 n0)))
              · exact (put_ne e13 N8.KI).trans ((put_ne e12 hKD).trans (at_upd e11))
              · rw [e13]; exact upd_self
              · exact (put_ne e13 (Ne.symm hID)).trans (at_upd e12)
        | ret v => exact hP8.re _ _ (hP7.re _ _ (hP2 (.ret _) _ hf))
        | brk => exact hf.elim
        | cont => exact hf.elim
    · repeat walk_at "st"
      exact hP6.co _ σ6 Ext.refl ⟨some key, seen, cnt, ep', rfl, next _ _ _ _ F6 (F6.dfs.fin key hsk (by first | decide | simp))⟩
  · rintro vv σ6 ⟨b, seen, cnt, ep', rfl, F⟩ X6
    refine hP1 .next _ ⟨b, σ6, rfl, X6, .no fun k hk => (F k).dfs.pre k ?_⟩
    have : ((st.keys.zip (as.map fun p => AV.ref p.i)).map (·.1)).length = st.keys.length := congrArg List.length (List.map_fst_zip (Nat.le_of_eq (by rw [List.length_map, S.len])))
    rw [this, List.take_length]; exact hk
end
end Mine.Internal
namespace Mine.Internal
open PySem PySem.W PyProof.Rows PySem.Calls
theorem fn_prepare {w : World} : FnOk (KK w) 85 ["self"] ["cycle"] ["ValueError", "CycleError"] := ⟨rfl, rfl, rfl, rfl, rfl, rfl, rfl, rfl, rfl, by decide +kernel⟩
theorem bo_find {w : World} : BindOk (KK w) CTS "_find_cycle" 120 := ⟨rfl, rfl, rfl, rfl, rfl, rfl, by decide +kernel⟩
theorem keep_find {w : World} : keepIn (KK w) (.ref 120) = true := by rfl
theorem cyc_cls {w : World} : ∃ nm q bs hdct sn sub ab col dd k0 k1 k2 k3 k5, (KK w).lookup 48 = some (excClassObj nm q 48 47 bs [.type "ValueError", .type "Exception", .type "BaseException", .type "object"] hdct sn sub ab col dd k0 k1 k2 k3 k5 "ValueError.__new__") :=
  ⟨_, _, _, _, _, _, _, _, _, _, _, _, _, _, rfl⟩
theorem cyc_ns {w : World} : nsOkIn (KK w) 47 = true ∧ nsIn (KK w) 47 "__init__" = some none := ⟨by kernel_rfl, by kernel_rfl⟩
section
variable {c : Cx} {A : Around} {E : Value → AS → Prop} {fs : List Frm} {σ : Addr → Option (Nat × Cell)} {g : Array GenState} {d : Nat} {x dx nd : Addr} {rv : AV} {as : List NAd} {ep : Nat} {st : SS}
noncomputable def SS.prep (st : SS) : SS := { st with ready := some (st.keys.filter fun k => decide (st.np k = 0)) }
theorem prepare_spec {R : Result → AS → Prop} (lw : Lw c) (hcy : Glob c "CycleError" (.ref 48)) (hA : AOk A fs (d + 2)) (S : SAt σ x st dx nd rv as ep) (hr : st.ready = none) (hsu : ∀ k s, s ∈ st.su k → s ∈ st.keys) (hz : st.keys.length < 4000) (hzs : ∀ k, (st.su k).length ≤ 100000)
    (hN : ∀ σ' b, RingRes st.keys st.su none → Ext [1, 3, 4, 8] σ σ' → SAt σ' x st.prep dx nd (.ref b) as ep → R (.ok (.ret .none)) ⟨fs, σ', g⟩)
    (hS : ∀ r e t args T σ' b, RingRes st.keys st.su (some r) → Ext [1, 3, 4, 8] σ σ' → SAt σ' x st.prep dx nd (.ref b) as ep → Exc σ' e t (.ref 48) args (some T) → R (.error (.ref e)) ⟨fs, σ', g⟩) :
    Wk c A (.call (.ref 85) ⟨[.ref x], []⟩) R ⟨fs, σ, g⟩ := by
  have hrv : rv = .none := by have := S.rdy; rw [hr] at this; exact this
  subst hrv
  refine Wk_call_G lw.K (ns := ["self", "cycle"]) (us := [.ref x]) (gs := [("ValueError", .type "ValueError"), ("CycleError", .ref 48)]) fn_prepare rfl (by kernel_rfl) rfl (.cons (.rest .nil)) (by simp [lw.ValueError, hcy]) hA (fun L env B P X hfr hh hL hA' hout hE hFx hUx => ?_)
  refine W_consG (fun _ _ => ?_)
  repeat walk_at "st"
  refine W_getAttr S.x S.dx (lw.K ▸ a_ready) sAttrs_nd (by walk_at "mem") ?_
  repeat walk_at "st"
  refine W_ListComp (x := "i") (gls := []) (caps := []) ⟨rfl, rfl, by decide +kernel⟩ (CapOk.nil (cl := []) hE.kind) ?_
  repeat walk_at "st"
  refine W_getAttr S.x S.dx (lw.K ▸ a_node2info) sAttrs_nd (by walk_at "mem") ?_
  intro pl
  refine W_meth_dict F.slot_dict_values F.type_dict_values S.nd ?_
  repeat walk_at "st"
  refine ⟨Kp.builtin, W_dict_values S.nd (fun vw h1 σ1 e1 => ?_)⟩
  have X1 : Ext [] σ σ1 := Ext.new_eq e1 h1
  have S1 := S.ext X1 (by first | decide | simp) (by first | decide | simp)
  refine W_iter_values (at_upd e1) S1.nd (fun it h2 σ2 e2 => ?_)
  have hvs : (st.keys.zip (as.map fun p => AV.ref p.i)).map (·.2) = as.map fun p => AV.ref p.i := by
    rw [List.map_snd_zip]; simp [S.len]
  refine CompK_loop (k := 1) (gs := []) ⟨rfl, rfl, by decide +kernel⟩ (CapOk.nil (cl := []) hE.kind) rfl (by first | decide | simp) hE.gl hE.bl (IterOf.dictValues hh) IterSelf.dictValues [] (by first | decide | simp) (by first | decide | simp) (by decide) 1
    (fun i ys σ => ys = (st.keys.take i).filter (fun k => decide (st.np k = 0)) ∧ SAt σ x st dx nd .none as ep)
    (fun i ys σ σ' h e => ⟨h.1, h.2.ext e (by first | decide | simp) (by first | decide | simp)⟩) h2 e2 ((put_ne e2 (ne_new S1.nd h2)).trans S1.nd) ⟨rfl, S1⟩ (fun i ys σ h => ?_) ?_ ?_
  · rw [h.1]
    have h1 := List.length_filter_le (fun k => decide (st.np k = 0)) (st.keys.take i)
    have h2 : (st.keys.take i).length ≤ st.keys.length := by rw [List.length_take]; exact Nat.min_le_right ..
    lia
  · rintro C cenv i v σ3 ys hCE hCC hg hb ⟨rfl, S3⟩ hv hsrc Y3
    rw [hvs] at hv
    obtain ⟨p, hp, rfl⟩ := map_some_of ((List.getElem?_map ..).symm.trans hv)
    have hi : i < st.keys.length := by rw [← S.len]; exact (List.getElem?_eq_some_iff.mp hp).1
    have hk : st.keys[i]? = some st.keys[i] := by simp [hi]
    have N3 := S3.nds i p _ hp hk
    have hkey := S.key _ (List.getElem_mem hi)
    refine W_tests_one ?_
    repeat walk_at "st"
    refine W_getSlot N3.i N3.d (lw.K ▸ sl_np) (by rfl) ?_
    repeat walk_at "st"
    have htk : st.keys.take (i + 1) = st.keys.take i ++ [st.keys[i]] := by rw [List.take_add_one, hk]; rfl
    by_cases hz0 : st.np st.keys[i] = 0
    · have : (st.np st.keys[i] == 0) = true := by simp [hz0]
      rw [this]
      repeat walk_at "st"
      refine W_getSlot N3.i N3.d (lw.K ▸ sl_node) (by rfl) (All.key hkey fun u4 e4 => ?_) (by cases q : st.keys[i] <;> simp_all [AV.plain, AV.isKey])
      refine ⟨σ3, rfl, Ext.refl, ?_, S3⟩
      rw [htk, List.filter_append, e4]; simp [hz0]
    · have : (st.np st.keys[i] == 0) = false := by simp [hz0]
      rw [this]
      repeat walk_at "st"
      refine ⟨σ3, rfl, Ext.refl, ?_, S3⟩
      rw [htk, List.filter_append]; simp [hz0]
  · rintro D C vx ys σ3 ⟨rfl, S3⟩ Y3 hD hD3
    rw [hvs, List.length_map, S.len, List.take_length] at hD3
    show W _ _ _ _ _ _
    repeat walk_at "st"
    refine W_setAttr S3.x S3.dx (lw.K ▸ a_ready) (.there .here) sAttrs_nd (by first | decide | simp) ?_
    have S4 := S3.setAttrs (st' := st.prep) (rv' := .ref D) rfl rfl rfl ⟨D, rfl, hD3⟩
    generalize e4 : upd σ3 dx _ = σ4
    have e4' : upd σ3 dx (some (1, .attrs (sAttrs nd (.ref D) st.prep))) = σ4 := e4
    rw [e4'] at S4
    have X4 : Ext [1, 3, 4, 8] σ σ4 := X1.nil.trans (Y3.nil.trans (by rw [← e4']; exact Ext.upd_own S3.dx (by first | decide | simp)))
    repeat walk_at "st"
    intro pl2
    refine W_getMethod S4.x S4.dx (lw.K ▸ bo_find.get) (lw.K ▸ bo_find.find) (lw.K ▸ bo_find.fn) (no_attr (by decide +kernel)) ?_
    repeat walk_at "st"
    refine ⟨Kp.inK (lw.K ▸ keep_find), find_cycle_spec lw (d := d) hA' S4 hsu hz hzs (fun σ5 hr5 X5 => ?_) (fun r l σ5 hr5 hrl X5 hl5 => ?_)⟩
    · repeat walk_at "st"
      refine W_truthy_none ?_
      repeat walk_at "st"
      exact hN σ5 D hr5 (X4.trans (X5.mono (by first | decide | simp))) (S4.ext X5 (by first | decide | simp) (by first | decide | simp))
    · repeat walk_at "st"
      refine W_truthy_list hl5 (by have : st.prep.keys.length = st.keys.length := rfl; lia) ?_
      have : (!r.isEmpty) = true := by
        cases hr5; simp
      rw [this]
      refine ite_t rfl (W_consG fun _ _ => ?_)
      obtain ⟨nm, q, bs, hdct, sn, sub, ab, col, dd, k0, k1, k2, k3, k5, hcls⟩ := cyc_cls (w := c.w)
      refine W_RaiseOwn (C := 48) (N := 47) F.excBase_ValueError hh (c.inK _ _ (lw.K ▸ hcls)) (.of_isNs (isNs_of_in c.inK (lw.K ▸ cyc_ns.1))) (nsMap_none_of_in c.inK (lw.K ▸ cyc_ns.1) (lw.K ▸ cyc_ns.2)) ?_
      repeat walk_at "st"
      refine ⟨rfl, ?_⟩
      repeat walk_at "st"
      refine W_Joined1 ?_
      repeat walk_at "st"
      refine ⟨rfl, by simp, fun e t σ6 X6 he6 hx6 => ?_⟩
      exact hUx.ex _ _ _ _ _ _ _ _ _ _ hx6 fun σ7 T X7 hx7 => hS r e t _ T σ7 D hr5 (X4.trans ((X5.mono (by first | decide | simp)).trans (X6.nil.trans (X7.mono (by first | decide | simp))))) (S4.ext (X5.mono (D := [3, 4, 8]) (by first | decide | simp) |>.trans (X6.nil.trans (X7.mono (by first | decide | simp)))) (by first | decide | simp) (by first | decide | simp)) hx7
end
end Mine.Internal
namespace Mine.Internal
open PySem PySem.W PyProof.Rows PySem.Calls PySem.F
section
variable {c : Cx} {A : Around} {E : Value → AS → Prop} {a : AS} {env : Env} {fs : List Frm} {σ : Addr → Option (Nat × Cell)} {g : Array GenState} {k : Nat} {D : Addr} {d : Nat} {L : Addr} {ns : List Str} {gs : List (Str × Value)} {vs : List (Option AV)} {x : Str}
theorem W_nameGoes {pos : Pos} {vsf : Option AV → List (Option AV)} {Q : Unit → AS → Prop} (he : EnvOk c env L [] ns gs) (set : ∀ v, SetVar ns vs x v (vsf v)) (h : ∀ v, Q () ⟨⟨L, [], ns, vsf v⟩ :: fs, σ, g⟩) :
    W c A (do bindName env x .none; unbindBehindTheSuite env x pos) Q E ⟨⟨L, [], ns, vs⟩ :: fs, σ, g⟩ := by
  intro s hs
  obtain ⟨m, hn, h2, h3⟩ := hs.fr _ (List.mem_cons_self ..)
  dsimp only at hn h2 h3
  have hm := ((set none).gv he.nd).2
  rcases (he.var x hm).2 with ⟨hc, hk⟩ | ⟨ca, hc, hk, hcell⟩
  · refine wpAny_nameGoes_keeps hk (by rw [he.loc]; exact hn) (by rw [he.kind]; rfl) fun h' v hn' hsb => ⟨_, ?_, h (v.map er)⟩
    rw [he.loc] at hsb hn'
    have hbb := hs.nb _ (List.mem_cons_self ..) L (by simp [Frm.as])
    refine ⟨fun b' o q => (hsb.2 b' (ne_new q hbb)).trans (hs.keep b' o q), fun f hf => ?_, fun f hf => ?_, hs.nd, fun y k cl' q => ?_, hs.os, hs.gens⟩
    · rcases List.mem_cons.mp hf with rfl | hf
      · refine ⟨_, hn', fun y hy => ?_, fun p hp => by cases hp⟩
        show Option.map er (if y = x then v else m y) = gv ns (vsf (v.map er)) y
        rw [((set (v.map er)).gv he.nd).1 y]
        by_cases q : y = x
        · rw [if_pos q, if_pos q]
        · rw [if_neg q, if_neg q]; exact h2 y rfl
      · exact (hs.fr f (List.mem_cons_of_mem _ hf)).keeps fun b' hb' o q => (hsb.2 b' (mem_as_ne hs.nd (by simp [Frm.as]) hf hb')).trans q
    · rcases List.mem_cons.mp hf with rfl | hf
      · exact hs.nb ⟨L, [], ns, vs⟩ (List.mem_cons_self ..)
      · exact hs.nb f (List.mem_cons_of_mem _ hf)
    · obtain ⟨⟨o, ho, ok⟩, r1, r2⟩ := hs.own y k cl' q
      exact ⟨⟨o, (hsb.2 y fun z => r2 (by rw [z, List.flatMap_cons]; exact List.mem_append_left _ (by simp [Frm.as]))).trans ho, ok⟩, r1, r2⟩
  · cases hc
theorem W_handle_as {e : Addr} {t : Expr} {b₀ : Stmt} {suite : List Stmt} {pos : Pos} {rest : List ExceptHandler} {Q : Flow → AS → Prop}
    (h : W c (A.mark (some (.ref e))) (eval t env) (fun cv a₁ => ExcM c a₁ (.ref e) cv true ∧ W c (A.mark (some (.ref e))) (setFlight (.ref e) none) (fun _ a₂ => W c (A.mark (some (.ref e))) (storeName env x (.ref e)) (fun _ a₃ =>
      W c (A.mark (some (.ref e))) (execs (b₀ :: suite) env) (fun f a₄ => W c A (do bindName env x .none; unbindBehindTheSuite env x pos) (fun _ a₅ => Q f a₅) E a₄) (fun _ _ => False) a₃) (fun _ _ => False) a₂) (fun _ _ => False) a₁) (fun _ _ => False) a) :
    W c A (handleBy (.ref e) env (.ExceptHandler (some t) (some x) (b₀ :: suite) pos :: rest)) Q E a := by
  intro s hs
  refine wpAny_handleBy_cons (codeAny_handlers_test (wpAny_mono (h s hs) (fun cv s₁ pz1 => pz1.elim fun a₁ pz2 => pz2.elim fun h1 pz3 => pz3.elim fun q1 q2 => (q1 s₁ h1).here ?_) fun _ _ pz4 => pz4.elim fun _ pz5 => pz5.elim fun _ x => x.elim)) (by intro q; cases q)
  exact codeAny_handlers_suite_as (wpAny_mono (q2 s₁ h1) (fun _ s₂ pz6 => pz6.elim fun a₂ pz7 => pz7.elim fun h2 q => wpAny_mono (q s₂ h2) (fun _ s₃ pz8 => pz8.elim fun a₃ pz9 => pz9.elim fun h3 q => wpAny_mono (q s₃ h3) (fun f s₄ pz10 => pz10.elim fun a₄ pz11 => pz11.elim fun h4 q => q s₄ h4) fun _ _ pz12 => pz12.elim fun _ pz13 => pz13.elim fun _ x => x.elim) fun _ _ pz14 => pz14.elim fun _ pz15 => pz15.elim fun _ x => x.elim) fun _ _ pz16 => pz16.elim fun _ pz17 => pz17.elim fun _ x => x.elim)
end
end Mine.Internal
namespace Mine.Internal
open PySem PySem.W PyProof.Rows PySem.Calls
noncomputable def CmpOk (cmp : Nat → Nat → (Bool → Shared → Prop) → Shared → Prop) (I : Shared → Prop) (o : Nat → Nat → Bool) (n : Nat) : Prop := ∀ i j C s, i < n → j < n → I s → (∀ s', I s' → C (o i j) s') → cmp i j C s
structure Tot (o : Nat → Nat → Bool) (n : Nat) : Prop where
  irr : ∀ i, i < n → o i i = false
  tr : ∀ i j k, i < n → j < n → k < n → o i j = true → o j k = true → o i k = true
  tot : ∀ i j, i < n → j < n → i ≠ j → o i j = true ∨ o j i = true
noncomputable def Up (o : Nat → Nat → Bool) (p : Array Nat) (m : Nat) : Prop := ∀ i j, i < j → j < m → o (p.getD i 0) (p.getD j 0) = true
structure Pm (p : Array Nat) (n : Nat) : Prop where
  sz : p.size = n
  lt : ∀ i, i < n → p.getD i 0 < n
  inj : ∀ i j, i < n → j < n → p.getD i 0 = p.getD j 0 → i = j
section
variable {o : Nat → Nat → Bool} {n : Nat} {p : Array Nat}
theorem Tot.of_not (T : Tot o n) {i j : Nat} (hi : i < n) (hj : j < n) (hne : i ≠ j) (h : o i j = false) : o j i = true := by
  rcases T.tot i j hi hj hne with q | q
  · rw [h] at q; cases q
  · exact q
theorem pred_lt {a b : Nat} (h : a < b) : a - 1 < b := Nat.lt_of_le_of_lt (Nat.sub_le a 1) h
theorem lt_fuel {m f n : Nat} (h : m + (f + 1) ≤ n) : m < n := Nat.lt_of_lt_of_le (Nat.lt_add_of_pos_right (Nat.succ_pos f)) h
theorem le_fuel {m f n : Nat} (h : m + (f + 1) ≤ n) : m + 1 + f ≤ n := Nat.le_trans (Nat.le_of_eq (Nat.succ_add m f)) h
theorem fuel_le {m f n : Nat} (h : n ≤ m + 1 + f) : n ≤ m + (f + 1) := Nat.le_trans h (Nat.le_of_eq (Nat.succ_add m f))
theorem Tot.flip (T : Tot o n) : Tot (fun i j => o j i) n := ⟨T.irr, fun i j k hi hj hk a b => T.tr k j i hk hj hi b a, fun i j hi hj h => (T.tot i j hi hj h).symm⟩
theorem Up.snoc (T : Tot o n) (P : Pm p n) {m : Nat} (h : Up o p m) (hm : m < n) (h1 : 1 ≤ m) (q : o (p.getD (m - 1) 0) (p.getD m 0) = true) : Up o p (m + 1) := fun i j hij hj => by
  by_cases e : j = m
  · subst e
    by_cases e2 : i = j - 1
    · rw [e2]; exact q
    · exact T.tr _ _ _ (P.lt i (Nat.lt_trans hij hm)) (P.lt (j - 1) (pred_lt hm)) (P.lt j hm) (h i (j - 1) (Nat.lt_of_le_of_ne (Nat.le_sub_one_of_lt hij) e2) (Nat.sub_lt h1 Nat.one_pos)) q
  · exact h i j hij (Nat.lt_of_le_of_ne (Nat.le_of_lt_succ hj) e)
variable {cmp : Nat → Nat → (Bool → Shared → Prop) → Shared → Prop} {I : Shared → Prop}
theorem Pm.prev (P : Pm p n) {m : Nat} (h1 : 1 ≤ m) (hm : m < n) : p.getD m 0 ≠ p.getD (m - 1) 0 := fun e => Nat.ne_of_gt (Nat.sub_lt h1 Nat.one_pos) (P.inj m (m - 1) hm (pred_lt hm) e)
theorem asc_wp (H : CmpOk cmp I o n) (T : Tot o n) (P : Pm p n) {G : Nat → Shared → Prop} : ∀ (f m : Nat) (s : Shared), 1 ≤ m → m + f ≤ n → Up o p m → I s → (∀ r s', I s' → m ≤ r → r ≤ m + f → Up o p r → (r < m + f → o (p.getD r 0) (p.getD (r - 1) 0) = true) → G r s') → (kas_asc p f m).kasWp cmp G s
  | 0, m, s, h1, h2, h, hs, q => q m s hs (Nat.le_refl _) (Nat.le_refl _) h fun z => absurd z (Nat.lt_irrefl _)
  | f + 1, m, s, h1, h2, h, hs, q => H _ _ _ s (P.lt m (lt_fuel h2)) (P.lt (m - 1) (pred_lt (lt_fuel h2))) hs fun s' hs' => by
    have hm := lt_fuel h2
    cases c : o (p.getD m 0) (p.getD (m - 1) 0) with
    | true => exact q m s' hs' (Nat.le_refl _) (Nat.le_add_right _ _) h fun _ => c
    | false => exact asc_wp H T P f (m + 1) s' (Nat.le_add_left 1 m) (le_fuel h2) (h.snoc T P hm h1 (T.of_not (P.lt m hm) (P.lt (m - 1) (pred_lt hm)) (P.prev h1 hm) c)) hs' fun r s'' a1 a2 a3 a4 a5 => q r s'' a1 (Nat.le_of_succ_le a2) (fuel_le a3) a4 fun z => a5 (Nat.lt_of_lt_of_eq z (Nat.succ_add m f).symm)
noncomputable def Down (o : Nat → Nat → Bool) (p : Array Nat) (m : Nat) : Prop := ∀ i j, i < j → j < m → o (p.getD j 0) (p.getD i 0) = true
theorem desc_wp (H : CmpOk cmp I o n) (T : Tot o n) (P : Pm p n) {G : Array Nat × Nat × Nat → Shared → Prop} : ∀ (f m : Nat) (s : Shared), 1 ≤ m → m + f ≤ n → Down o p m → I s → (∀ m' s', I s' → m ≤ m' → m' ≤ m + f → Down o p m' → G (p, m', 0) s') → (kas_desc f p m 0).kasWp cmp G s
  | 0, m, s, h1, h2, h, hs, q => q m s hs (Nat.le_refl _) (Nat.le_refl _) h
  | f + 1, m, s, h1, h2, h, hs, q => H _ _ _ s (P.lt m (lt_fuel h2)) (P.lt (m - 1) (pred_lt (lt_fuel h2))) hs fun s' hs' => by
    have hm := lt_fuel h2
    cases c : o (p.getD m 0) (p.getD (m - 1) 0) with
    | true => exact desc_wp H T P f (m + 1) s' (Nat.le_add_left 1 m) (le_fuel h2) (Up.snoc T.flip P h hm h1 c) hs' fun m' s'' a1 a2 a3 a4 => q m' s'' a1 (Nat.le_of_succ_le a2) (fuel_le a3) a4
    | false =>
      refine H _ _ _ s' (P.lt (m - 1) (pred_lt hm)) (P.lt m hm) hs' fun s'' hs'' => ?_
      rw [T.of_not (P.lt m hm) (P.lt (m - 1) (pred_lt hm)) (P.prev h1 hm) c]
      exact q m s'' hs'' (Nat.le_refl _) (Nat.le_add_right _ _) h
theorem getD_of {q : Array Nat} {i v : Nat} (h : q[i]? = some v) : q.getD i 0 = v := by
  rw [Array.getD_eq_getD_getElem?, h]; rfl
theorem Pm.comp {q : Array Nat} {r : Nat → Nat} (P : Pm p n) (sz : q.size = n) (g : ∀ i, i < n → q.getD i 0 = p.getD (r i) 0) (h1 : ∀ i, i < n → r i < n) (h2 : ∀ i j, r i = r j → i = j) : Pm q n :=
  ⟨sz, fun i hi => (g i hi).symm ▸ P.lt _ (h1 i hi), fun i j hi hj e => h2 i j (P.inj _ _ (h1 i hi) (h1 j hj) ((g i hi).symm.trans (e.trans (g j hj))))⟩
noncomputable def rvI (m i : Nat) : Nat := if i < m then m - 1 - i else i
theorem rvI_lt {m i : Nat} (hm : m ≤ n) (hi : i < n) : rvI m i < n := by
  unfold rvI
  split
  · rename_i h; exact Nat.lt_of_lt_of_le (Nat.lt_of_le_of_lt (Nat.sub_le _ _) (Nat.sub_lt (Nat.zero_lt_of_lt h) Nat.one_pos)) hm
  · exact hi
theorem rvI_rvI {m : Nat} (i : Nat) : rvI m (rvI m i) = i := by
  unfold rvI
  by_cases h : i < m
  · rw [if_pos h, if_pos (Nat.lt_of_le_of_lt (Nat.sub_le _ _) (Nat.sub_lt (Nat.zero_lt_of_lt h) Nat.one_pos)), Nat.sub_sub_self (Nat.le_sub_one_of_lt h)]
  · rw [if_neg h, if_neg h]
theorem rvI_inj {m i j : Nat} (h : rvI m i = rvI m j) : i = j := by rw [← rvI_rvI (m := m) i, h, rvI_rvI]
theorem rev_get {m i : Nat} (P : Pm p n) (hm : m ≤ n) : (kas_rev p 0 m).getD i 0 = p.getD (rvI m i) 0 := by
  unfold kas_rev rvI
  have h := getElem?_mirror_all (xs := p) (i := 0) (j := m) (by rw [P.sz]; exact hm) i
  rw [Array.getD_eq_getD_getElem?, h]
  by_cases c : i < m
  · rw [if_pos ⟨Nat.zero_le _, c⟩, if_pos c, Array.getD_eq_getD_getElem?, Nat.zero_add]
  · rw [if_neg (fun q => c q.2), if_neg c, Array.getD_eq_getD_getElem?]
theorem rev_pm {m : Nat} (P : Pm p n) (hm : m ≤ n) : Pm (kas_rev p 0 m) n :=
  P.comp (by unfold kas_rev; rw [mirror_size, P.sz]) (fun i _ => rev_get P hm) (fun i hi => rvI_lt hm hi) fun i j e => rvI_inj e
theorem rev_up {m : Nat} (P : Pm p n) (hm : m ≤ n) (h : Down o p m) : Up o (kas_rev p 0 m) m := fun i j hij hj => by
  rw [rev_get P hm, rev_get P hm]
  unfold rvI
  rw [if_pos (Nat.lt_trans hij hj), if_pos hj]
  have hi : i < m - 1 := Nat.lt_of_lt_of_le hij (Nat.le_sub_one_of_lt hj)
  exact h _ _ (Nat.sub_lt_sub_left hi hij) (Nat.lt_of_le_of_lt (Nat.sub_le _ _) (Nat.sub_lt (Nat.zero_lt_of_lt hj) Nat.one_pos))
theorem count_wp (H : CmpOk cmp I o n) (T : Tot o n) (P : Pm p n) (hn : 1 ≤ n) {G : Nat × Array Nat → Shared → Prop} {s : Shared} (hs : I s) (q : ∀ m p' s', I s' → 1 ≤ m → m ≤ n → Pm p' n → Up o p' m → G (m, p') s') : (kas_count n p).kasWp cmp G s := by
  unfold kas_count
  rw [KasT.kasWp_bind]
  have en : 1 + (n - 1) = n := Nat.add_sub_cancel' hn
  refine asc_wp H T P (n - 1) 1 s (Nat.le_refl _) (Nat.le_of_eq en) (fun i j hij hj => absurd hij (by rw [Nat.lt_one_iff.mp hj]; exact Nat.not_lt_zero i)) hs fun m s1 hs1 a1 a2 a3 a4 => ?_
  rw [en] at a2 a4
  cases c : m == n with
  | true => exact q m p s1 hs1 a1 a2 P a3
  | false =>
    have hmn : m < n := Nat.lt_of_le_of_ne a2 (beq_eq_false_iff_ne.mp c)
    simp only [Bool.false_eq_true, if_false]
    by_cases h1 : m > 1
    · rw [if_pos h1]
      refine H _ _ _ s1 (P.lt 0 hn) (P.lt (m - 1) (pred_lt hmn)) hs1 fun s2 hs2 => ?_
      rw [a3 0 (m - 1) (Nat.sub_pos_of_lt h1) (Nat.sub_lt a1 Nat.one_pos)]
      exact q m p s2 hs2 a1 a2 P a3
    · rw [if_neg h1]
      have hm1 : m = 1 := Nat.le_antisymm (Nat.le_of_not_lt h1) a1
      subst hm1
      unfold kas_descPart
      rw [KasT.kasWp_bind]
      have e2 : 1 + 1 + (n - (1 + 1)) = n := Nat.add_sub_cancel' hmn
      refine desc_wp H T P (n - (1 + 1)) (1 + 1) s1 (Nat.le_succ 1) (Nat.le_of_eq e2) (fun i j hij hj => ?_) hs1 fun m' s2 hs2 b1 b2 b3 => ?_
      · have ej : j = 1 := Nat.le_antisymm (Nat.le_of_lt_succ hj) (Nat.zero_lt_of_lt hij)
        subst ej
        rw [Nat.lt_one_iff.mp hij]; exact a4 hmn
      · show (if 0 > 0 then _ else kas_tail3 m' n p).kasWp cmp G s2
        rw [if_neg (Nat.lt_irrefl 0)]
        unfold kas_tail3
        rw [KasT.kasWp_bind]
        rw [e2] at b2
        have P' := rev_pm (m := m') P b2
        have h1' := Nat.le_of_succ_le b1
        refine asc_wp H T P' (n - m') m' s2 h1' (Nat.le_of_eq (Nat.add_sub_cancel' b2)) (rev_up P b2 b3) hs2 fun r s3 hs3 d1 d2 d3 _ => q r _ s3 hs3 (Nat.le_trans h1' d1) ?_ P' d3
        rwa [Nat.add_sub_cancel' b2] at d2
theorem place_wp (H : CmpOk cmp I o n) (T : Tot o n) (P : Pm p n) {k : Nat} (hk : k < n) (hu : Up o p k) {G : Nat → Shared → Prop} (q : ∀ x s', I s' → x ≤ k → (∀ i, i < x → o (p.getD i 0) (p.getD k 0) = true) → (∀ i, x ≤ i → i < k → o (p.getD k 0) (p.getD i 0) = true) → G x s') :
    ∀ (f l r : Nat) (s : Shared), r ≤ l + f → l ≤ r → r ≤ k → (∀ i, i < l → o (p.getD i 0) (p.getD k 0) = true) → (∀ i, r ≤ i → i < k → o (p.getD k 0) (p.getD i 0) = true) → I s → (kas_place p k f l r).kasWp cmp G s
  | 0, l, r, s, hf, hlr, hrk, h1, h2, hs => by
    have : l = r := Nat.le_antisymm hlr hf
    subst this
    exact q l s hs hrk h1 h2
  | f + 1, l, r, s, hf, hlr, hrk, h1, h2, hs => by
    unfold kas_place
    by_cases c : l ≥ r
    · rw [if_pos c]
      have : l = r := Nat.le_antisymm hlr c
      subst this
      exact q l s hs hrk h1 h2
    · rw [if_neg c]
      obtain ⟨m1, m2⟩ : l ≤ (l + r) / 2 ∧ (l + r) / 2 < r := by lia
      generalize (l + r) / 2 = t at *
      have tk := Nat.lt_of_lt_of_le m2 hrk
      have tn := Nat.lt_trans tk hk
      refine H _ _ _ s (P.lt k hk) (P.lt _ tn) hs fun s' hs' => ?_
      cases z : o (p.getD k 0) (p.getD t 0) with
      | true =>
        refine place_wp H T P hk hu q f l t s' (Nat.le_of_lt_succ (Nat.lt_of_lt_of_le m2 hf)) m1 (Nat.le_of_lt tk) h1 (fun i hi hik => ?_) hs'
        by_cases e : t = i
        · rw [← e]; exact z
        · exact T.tr _ _ _ (P.lt k hk) (P.lt t tn) (P.lt i (Nat.lt_trans hik hk)) z (hu _ _ (Nat.lt_of_le_of_ne hi e) hik)
      | false =>
        have q' := T.of_not (P.lt k hk) (P.lt _ tn) (fun e => Nat.ne_of_gt tk (P.inj _ _ hk tn e)) z
        refine place_wp H T P hk hu q f (t + 1) r s' (Nat.le_trans hf (Nat.le_trans (Nat.add_le_add_right m1 _) (Nat.le_of_eq (Nat.succ_add t f).symm))) m2 hrk (fun i hi => ?_) h2 hs'
        by_cases e : i = t
        · rw [e]; exact q'
        · have hit := Nat.lt_of_le_of_ne (Nat.le_of_lt_succ hi) e
          exact T.tr _ _ _ (P.lt i (Nat.lt_trans hit tn)) (P.lt t tn) (P.lt k hk) (hu _ _ hit tk) q'
noncomputable def bbI (l k i : Nat) : Nat := if i = l then k else if l < i ∧ i ≤ k then i - 1 else i
theorem bbI_lt {l k i : Nat} (hk : k < n) (hi : i < n) : bbI l k i < n := by
  unfold bbI
  split
  · exact hk
  · split
    · exact pred_lt hi
    · exact hi
theorem bbI_back {l k : Nat} (hl : l ≤ k) (i : Nat) : (if bbI l k i = k then l else if l ≤ bbI l k i ∧ bbI l k i < k then bbI l k i + 1 else bbI l k i) = i := by
  unfold bbI
  by_cases c : i = l
  · rw [if_pos c, if_pos rfl, c]
  · rw [if_neg c]
    by_cases c2 : l < i ∧ i ≤ k
    · have h0 : 0 < i := Nat.zero_lt_of_lt c2.1
      have h1 : i - 1 < k := Nat.lt_of_lt_of_le (Nat.sub_lt h0 Nat.one_pos) c2.2
      rw [if_pos c2, if_neg (Nat.ne_of_lt h1), if_pos ⟨Nat.le_sub_one_of_lt c2.1, h1⟩, Nat.sub_add_cancel h0]
    · rw [if_neg c2, if_neg fun (q : i = k) => c2 ⟨Nat.lt_of_le_of_ne (q.symm ▸ hl) (Ne.symm c), Nat.le_of_eq q⟩, if_neg fun q => c2 ⟨Nat.lt_of_le_of_ne q.1 (Ne.symm c), Nat.le_of_lt q.2⟩]
theorem bbI_inj {l k i j : Nat} (hl : l ≤ k) (h : bbI l k i = bbI l k j) : i = j := by rw [← bbI_back hl i, h, bbI_back hl]
theorem bub_get {k l i : Nat} (P : Pm p n) (hk : k < n) (hl : l ≤ k) : (bubble p k (k - l)).getD i 0 = p.getD (bbI l k i) 0 := by
  have h := getElem?_bubble (xs := p) (src := k) (by rw [P.sz]; exact hk) (k - l) (Nat.sub_le _ _) i
  rw [Nat.sub_sub_self hl] at h
  rw [Array.getD_eq_getD_getElem?, h]
  unfold bbI
  by_cases c : i = l
  · rw [if_pos c, if_pos c, Array.getD_eq_getD_getElem?]
  · rw [if_neg c, if_neg c]
    by_cases c2 : l < i ∧ i ≤ k
    · rw [if_pos c2, if_pos c2, Array.getD_eq_getD_getElem?]
    · rw [if_neg c2, if_neg c2, Array.getD_eq_getD_getElem?]
theorem bub_pm {k l : Nat} (P : Pm p n) (hk : k < n) (hl : l ≤ k) : Pm (bubble p k (k - l)) n :=
  P.comp (by rw [bubble_size, P.sz]) (fun i _ => bub_get P hk hl) (fun i hi => bbI_lt hk hi) fun i j e => bbI_inj hl e
theorem bbI_up {l k i : Nat} (hl : l ≤ k) (hi : i ≤ k) : (i < l ∧ bbI l k i = i) ∨ (i = l ∧ bbI l k i = k) ∨ (l < i ∧ bbI l k i = i - 1) := by
  unfold bbI
  rcases Nat.lt_trichotomy i l with h | h | h
  · exact .inl ⟨h, by rw [if_neg (Nat.ne_of_lt h), if_neg fun z => Nat.lt_asymm h z.1]⟩
  · exact .inr (.inl ⟨h, if_pos h⟩)
  · exact .inr (.inr ⟨h, by rw [if_neg (Nat.ne_of_gt h), if_pos ⟨h, hi⟩]⟩)
theorem bin_wp (H : CmpOk cmp I o n) (T : Tot o n) {G : Array Nat → Shared → Prop} (q : ∀ p s', I s' → Pm p n → Up o p n → G p s') : ∀ (f : Nat) (p : Array Nat) (k : Nat) (s : Shared), k + f = n → Pm p n → Up o p k → I s → (kas_bin f p k).kasWp cmp G s
  | 0, p, k, s, e, P, h, hs => by
    subst e
    exact q p s hs P h
  | f + 1, p, k, s, e, P, h, hs => by
    unfold kas_bin
    rw [KasT.kasWp_bind]
    have hk : k < n := lt_fuel (Nat.le_of_eq e)
    refine place_wp H T P hk h (fun l s' hs' a1 a2 a3 => ?_) k 0 k s (Nat.le_add_left _ _) (Nat.zero_le _) (Nat.le_refl _) (fun i hi => absurd hi (Nat.not_lt_zero i)) (fun i h1 h2 => absurd h2 (Nat.not_lt_of_le h1)) hs
    refine bin_wp H T q f _ (k + 1) s' ((Nat.succ_add k f).trans e) (bub_pm P hk a1) (fun i j hij hj => ?_) hs'
    have hj := Nat.le_of_lt_succ hj
    have hi := Nat.le_trans (Nat.le_of_lt hij) hj
    rw [bub_get P hk a1, bub_get P hk a1]
    rcases bbI_up a1 hj with ⟨c, e2⟩ | ⟨c, e2⟩ | ⟨c, e2⟩
    · rcases bbI_up a1 hi with ⟨c', e1⟩ | ⟨c', e1⟩ | ⟨c', e1⟩
      · rw [e1, e2]; exact h _ _ hij (Nat.lt_of_lt_of_le c a1)
      · exact absurd (Nat.lt_trans hij c) (by rw [c']; exact Nat.lt_irrefl l)
      · exact absurd (Nat.lt_trans hij c) (Nat.lt_asymm c')
    · rw [c] at hij
      rcases bbI_up a1 hi with ⟨c', e1⟩ | ⟨c', e1⟩ | ⟨c', e1⟩
      · rw [e1, e2]; exact a2 _ c'
      · exact absurd hij (by rw [c']; exact Nat.lt_irrefl l)
      · exact absurd hij (Nat.lt_asymm c')
    · have j1 : j - 1 < k := Nat.lt_of_lt_of_le (Nat.sub_lt (Nat.zero_lt_of_lt c) Nat.one_pos) hj
      rcases bbI_up a1 hi with ⟨c', e1⟩ | ⟨c', e1⟩ | ⟨c', e1⟩
      · rw [e1, e2]; exact h _ _ (Nat.lt_of_lt_of_le c' (Nat.le_sub_one_of_lt c)) j1
      · rw [e1, e2]; exact a3 _ (Nat.le_sub_one_of_lt c) j1
      · rw [e1, e2]; exact h _ _ (Nat.sub_lt_sub_right (Nat.zero_lt_of_lt c') hij) j1
theorem sort_wp (H : CmpOk cmp I o n) (T : Tot o n) (hn : 1 ≤ n) {G : Array Nat → Shared → Prop} {s : Shared} (hs : I s) (q : ∀ p s', I s' → Pm p n → Up o p n → G p s') : (kas_sort n).kasWp cmp G s := by
  have P0 : Pm (List.toArray (List.range n)) n := by
    have g : ∀ i, i < n → (List.toArray (List.range n)).getD i 0 = i := fun i hi => getD_of (by simp [hi])
    exact ⟨by simp, fun i hi => by rw [g i hi]; exact hi, fun i j hi hj e => by rw [g i hi, g j hj] at e; exact e⟩
  unfold kas_sort
  rw [KasT.kasWp_bind]
  refine count_wp H T P0 hn hs fun m p' s1 hs1 b1 b2 P u => ?_
  dsimp only
  by_cases c : m < n
  · rw [if_pos c]
    exact bin_wp H T q _ p' (max m 1) s1 (by walk_at "le") P (by rw [show max m 1 = m by lia]; exact u) hs1
  · rw [if_neg c]
    have : m = n := by lia
    subst this
    exact q p' s1 hs1 P u
end
end Mine.Internal
namespace Mine.Internal
open PySem PySem.W PyProof.Rows PySem.Calls PySem.F PySem.SeqAt
@[reducible] noncomputable def I2 (l : List Int) : List AV := l.map AV.int
noncomputable def rawC (o : Obj) : Cell := .raw fun o' => o' = o
theorem oneLt_rows {prog : Program} {w : World} {A : Around} {E : Value → Shared → Prop} {s : Shared} {l b : Addr} {items items2 : Array Value} {n n2 : Nat} {is js : List Int} {Q : Bool → Shared → Prop} (ho : s.heap.get? l = some (listOf items n)) (ho2 : s.heap.get? b = some (listOf items2 n2)) (h1 : items.toList.map er = is.map AV.int) (h2 : items2.toList.map er = js.map AV.int) (hu : A.units < cLine)
    (h : Q (ltL is js) s) : wpAny (model prog w) A (keyLt' oneType' (.ref l) (.ref b)) Q E s := by
  rw [keyLt'_oneType, oneLt'_eq]
  simp only [if_true]
  refine wpAny_bind (wpAny_cRoomFor hu ?_)
  refine wpAny_bind (wpAny_callSpecialIfBound?_slot (T := "list") ⟨_, ho, rfl⟩ F.slot_list_lt (call_meets F.slot_list_lt ⟨_, ho, rfl⟩ F.entry_list_lt (F.args_list_lt_2 _ _) (list_ltAt l b items items2 n n2 is js h1 h2) ⟨ho, ho2, ?_⟩))
  exact wpAny_truthy_bool h
section
variable {c : Cx} {A : Around} {E : Value → AS → Prop} {fs : List Frm} {σ : Addr → Option (Nat × Cell)} {g : Array GenState} {d : Nat}
theorem own_raw {a : AS} {s : Shared} {x : Addr} {k : Nat} {P : Obj → Prop} (hs : St c a s) (h : a.σ x = some (k, .raw P)) : ∃ o, s.heap.get? x = some o ∧ P o := by
  obtain ⟨⟨o, ho, ok⟩, _⟩ := hs.own x k _ h
  exact ⟨o, ho, ok⟩
noncomputable def Sorted (rs : List (List Int)) (n : Nat) (p : Array Nat) : Prop := Pm p n ∧ Up (fun i j => ltL (rs.getD i []) (rs.getD j [])) p n
noncomputable def RowsA (σ : Addr → Option (Nat × Cell)) (as : List Addr) (rs : List (List Int)) : Prop := ∀ i, i < as.length → ∃ kr, σ (as.getD i 0) = some (kr, .list (I2 (rs.getD i []))) ∧ kr ≠ 9
theorem RowsA.ext {σ' : Addr → Option (Nat × Cell)} {as : List Addr} {rs : List (List Int)} (h : RowsA σ as rs) (e : Ext [9] σ σ') : RowsA σ' as rs := fun i hi => by
  obtain ⟨kr, h1, h2⟩ := h i hi
  exact ⟨kr, e _ _ _ h1 (fun z => h2 (List.mem_singleton.mp z)), h2⟩
theorem refs_of {us : List Value} {as : List Addr} (h : us.map er = as.map AV.ref) : us = as.map Value.ref := by
  induction us generalizing as with
  | nil => cases as with
    | nil => rfl
    | cons a as => cases h
  | cons u us ih => cases as with
    | nil => cases h
    | cons a as =>
      rw [List.map_cons, List.map_cons, List.cons.injEq] at h
      rw [er_ref h.1, ih h.2]; rfl
theorem getD_ref {as : List Addr} {i : Nat} (hi : i < as.length) : (as.map Value.ref).getD i Value.none = .ref (as.getD i 0) := by
  rw [List.getD_eq_getElem?_getD, List.getD_eq_getElem?_getD, List.getElem?_map, List.getElem?_eq_getElem hi]; rfl
theorem row_cmp {as : List Addr} {rs : List (List Int)} (hu : A.units < cLine) (hk : RowsA σ as rs) :
    CmpOk (kas_ask c.prog c.w A oneType' (as.map Value.ref)) (fun s => St c ⟨fs, σ, g⟩ s) (fun i j => ltL (rs.getD i []) (rs.getD j [])) as.length := fun i j C s hi hj hs q => by
  obtain ⟨k1, h1, _⟩ := hk i hi
  obtain ⟨k2, h2, _⟩ := hk j hj
  obtain ⟨us1, n1, ho1, q1⟩ := own_list hs h1
  obtain ⟨us2, n2, ho2, q2⟩ := own_list hs h2
  unfold kas_ask
  rw [getD_ref hi, getD_ref hj]
  exact oneLt_rows ho1 ho2 q1 q2 hu (q s hs)
theorem outR {as : List Addr} {p : Array Nat} (hp : Pm p as.length) : (p.map (kas_item (pairsOf (as.map Value.ref)))).map (·.2) = (p.toList.map fun i => Value.ref (as.getD i 0)).toArray := by
  apply Array.toList_inj.mp
  rw [Array.map_map, Array.toList_map]
  refine List.map_congr_left fun i hi => ?_
  show (kas_item (pairsOf (as.map Value.ref)) i).2 = _
  obtain ⟨j, hj⟩ := List.mem_iff_getElem?.mp hi
  rw [Array.getElem?_toList] at hj
  have := hp.lt j (by rw [← hp.sz]; exact (Array.getElem?_eq_some_iff.mp hj).1)
  rw [getD_of hj] at this
  rw [kas_item_eq]; exact getD_ref this
theorem sort_endR {R : Addr} {e1 : Nat} {as : List Addr} {rs : List (List Int)} {P : PySem.Fin → Shared → Prop} {E : Value → Shared → Prop} (hu : A.units < cLine) (hR : σ R = some (9, rawC (seqObj "list" #[] e1))) (h64 : as.length < 64) (K : RowsA σ as rs) (T : Tot (fun i j => ltL (rs.getD i []) (rs.getD j [])) as.length) {s : Shared} (hs : St c ⟨fs, σ, g⟩ s)
    (h : ∀ p s', Sorted rs as.length p → St c ⟨fs, upd σ R (some (0, .list (p.toList.map fun i => AV.ref (as.getD i 0)))), g⟩ s' → P (.done (.ret .none)) s') :
    wpAny (model c.prog c.w) A (do
      let kind ← if (as.map Value.ref).toArray.size < 2 then pure general' else keyKind' (as.map Value.ref).toArray
      let ((), s) ← (if (as.map Value.ref).toArray.size < 2 then pure () else sortRuns').run (SortSt.mk' kind ((as.map Value.ref).toArray.zip (as.map Value.ref).toArray) #[] 7 none)
      let sorted := (arrOf s).map (·.2)
      let touched := (← seqEpoch R) != e1
      Builtin.List.listUpdate (.ref R) fun _ => sorted
      if let some e := failedOf s then rule "list.sort.comparison-raised"; throw e
      if touched then rule "list.sort.modified"; raiseError "ValueError" "list modified during sort"
      ret .none) P E s := by
  have hz : (as.map Value.ref).toArray.size = as.length := by rw [List.size_toArray, List.length_map]
  have hzl : (as.map Value.ref).length = as.length := List.length_map ..
  have fin : ∀ {st : SortSt} {p : Array Nat} {s : Shared}, St c ⟨fs, σ, g⟩ s → failedOf st = none → arrOf st = p.map (kas_item (pairsOf (as.map Value.ref))) → Sorted rs as.length p →
      wpAny (model c.prog c.w) A (do
        let touched := (← seqEpoch R) != e1
        Builtin.List.listUpdate (.ref R) fun _ => (arrOf st).map (·.2)
        if let some e := failedOf st then rule "list.sort.comparison-raised"; throw e
        if touched then rule "list.sort.modified"; raiseError "ValueError" "list modified during sort"
        ret .none) P E s := fun {st p s} hs hf ha hso => by
    obtain ⟨oR, hoR, rfl⟩ := own_raw hs hR
    rw [hf, ha, outR hso.1]
    have hos : (p.toList.map fun i => Value.ref (as.getD i 0)).toArray.size = as.length := by rw [List.size_toArray, List.length_map, Array.length_toList, hso.1.sz]
    have s2 := Heap.SameBut.update s.heap R (Obj.mapSeq fun _ => (p.toList.map fun i => Value.ref (as.getD i 0)).toArray)
    obtain ⟨c2, hc2⟩ : ∃ c2, (s.heap.update R (Obj.mapSeq fun _ => (p.toList.map fun i => Value.ref (as.getD i 0)).toArray)).get? R = some (seqObj "list" (p.toList.map fun i => Value.ref (as.getD i 0)).toArray c2) := ⟨_, get?_update_seq hoR fun _ => (p.toList.map fun i => Value.ref (as.getD i 0)).toArray⟩
    have hs2 := hs.put (k' := 0) (cl' := .list (p.toList.map fun i => AV.ref (as.getD i 0))) hR (fun b o q z => (s2.2 b q).trans z) hc2 ⟨_, c2, rfl, by rw [List.toList_toArray, List.map_map]; rfl⟩
    refine wpAny_bind (seqEpoch_at hoR rfl ?_)
    refine wpAny_bind (listUpdate_at hoR rfl ?_ (Nat.zero_le _) (by rw [hos, sizeLine_eq]; lia))
    simp only [bne_self_eq_false, Bool.false_eq_true, if_false]
    exact wpAny_pure (h p _ hso hs2)
  by_cases h2 : (as.map Value.ref).toArray.size < 2
  · rw [if_pos h2, if_pos h2]
    refine wpAny_bind (wpAny_pure (wpAny_bind ?_))
    rw [StateT.run_pure]
    refine wpAny_pure ?_
    rw [hz] at h2
    refine fin (p := List.toArray (List.range as.length)) hs rfl ?_ ⟨⟨by simp, fun i hi => ?_, fun i j hi hj _ => by lia⟩, fun i j hij hj => by lia⟩
    · have := kas_range (pairsOf (as.map Value.ref))
      rw [pairsOf_size, hzl] at this
      exact this.symm
    · rw [getD_of (v := i) (by simp [hi])]; exact hi
  · rw [if_neg h2, if_neg h2]
    rw [hz] at h2
    refine wpAny_bind (kas_kind (T := .type "list") (by rw [hzl]; lia) (fun v hv => ?_) (by decide) (by decide) ?_)
    · obtain ⟨a, ha, rfl⟩ := List.mem_map.mp hv
      obtain ⟨i, hi⟩ := List.mem_iff_getElem?.mp ha
      obtain ⟨kr, hk, _⟩ := K i (List.getElem?_eq_some_iff.mp hi).1
      rw [List.getD_eq_getElem?_getD, hi] at hk
      obtain ⟨ws, n, ho, _⟩ := own_list hs hk
      exact fun A Q E s' kk q => wpAny_typeOf ⟨_, kk _ _ ho, rfl⟩ q
    · have est : SortSt.mk' oneType' ((as.map Value.ref).toArray.zip (as.map Value.ref).toArray) #[] 7 none = kas_st oneType' (pairsOf (as.map Value.ref)) (List.toArray (List.range (as.map Value.ref).length)) := by
        have e := kas_range (pairsOf (as.map Value.ref))
        rw [pairsOf_size] at e
        show SortSt.mk' oneType' (pairsOf (as.map Value.ref)) #[] 7 none = SortSt.mk' oneType' ((List.toArray (List.range (as.map Value.ref).length)).map (kas_item (pairsOf (as.map Value.ref)))) #[] 7 none
        rw [e]
      have ask := sort_wp (row_cmp (fs := fs) (g := g) hu K) T (by walk_at "le") hs (G := fun p s' => St c ⟨fs, σ, g⟩ s' ∧ Sorted rs as.length p) fun p s' hs' a b => ⟨hs', a, b⟩
      rw [kas_ask_eq, ← hzl] at ask
      have run := kas_runs (E := E) (Q := fun _ st' s' => ∃ p : Array Nat, p.size = (as.map Value.ref).length ∧ arrOf st' = p.map (kas_item (pairsOf (as.map Value.ref))) ∧ failedOf st' = none ∧ St c ⟨fs, σ, g⟩ s' ∧ Sorted rs (as.map Value.ref).length p) (by rw [hzl]; lia) (by rw [hzl]; exact h64) (fun p' st' s' a1 a2 a3 a4 => ⟨p', a1, a2, a3, a4⟩) ask
      rw [← est] at run
      refine wpAny_bind (wpAny_mono run ?_ fun _ _ e => e)
      rintro ⟨⟨⟩, st'⟩ s' ⟨p, hp, ha, hf, hs', hso⟩
      rw [hzl] at hso
      exact fin hs' hf ha hso
theorem W_sortedRows {l : Addr} {k : Nat} {as : List Addr} {rs : List (List Int)} {Q : Value → AS → Prop} (hA : AOk A fs (d + 3)) (hl : σ l = some (k, .list (as.map AV.ref))) (h64 : as.length < 64) (K : RowsA σ as rs) (T : Tot (fun i j => ltL (rs.getD i []) (rs.getD j [])) as.length)
    (h : ∀ R p σ', Sorted rs as.length p → Ext [] σ σ' → σ' R = some (0, .list (p.toList.map fun i => AV.ref (as.getD i 0))) → Q (.ref R) ⟨fs, σ', g⟩) :
    W c A (call (.builtin "sorted") [.ref l]) Q E ⟨fs, σ, g⟩ := fun s hs => by
  obtain ⟨us, n, ho, e⟩ := own_list hs hl
  have hus := refs_of e
  have hul : us.toList.length = as.length := by rw [hus, List.length_map]
  have hL : s.heap.IsList l us.toList.toArray := by rw [Array.toArray_toList]; exact isList_of ho
  refine call_function_entry kind_sorted plain_sorted entry_sorted (args_sorted1 _) ?_
  unfold Builtin.«sorted»
  refine wpAny_bind (m := checkCount "sorted" 1 1 _) (wpAny_pure ?_)
  refine wpAny_bind (collect_list hL ?_ (by rw [hul, sizeLine_eq]; lia))
  have hs1 : St c ⟨fs, σ, g⟩ { s with heap := (s.heap.push (seqObj "list" #[] 0)).update s.heap.objs.size (Obj.mapSeq (· ++ us.toList.toArray)) } := hs.grow fun b o q => by
    have hlt : b < s.heap.objs.size := Heap.lt_size q
    rw [Heap.get?_update_ne _ _ _ _ (Nat.ne_of_lt hlt), Heap.get?_push_ne _ _ _ (Nat.ne_of_lt hlt)]
    exact q
  rw [hus] at hs1 ⊢
  generalize (s.heap.push (seqObj "list" #[] 0)).update s.heap.objs.size (Obj.mapSeq (· ++ (as.map Value.ref).toArray)) = h' at hs1 ⊢
  clear hul hL hus e ho
  refine wpAny_bind (wpAny_newList ?_ (by rw [List.length_map, sizeLine_eq]; lia))
  have hs2 := hs1.alloc (k := 9) (cl := rawC (seqObj "list" (as.map Value.ref).toArray 0)) (o := seqObj "list" (as.map Value.ref).toArray 0) rfl rfl
  have hR0 : σ h'.objs.size = none := hs1.fresh.1
  have hoR : (h'.push (seqObj "list" (as.map Value.ref).toArray 0)).get? h'.objs.size = some (seqObj "list" (as.map Value.ref).toArray 0) := Heap.get?_push_size _ rfl
  refine wpAny_bind (wpAny_holding (wpAny_call_entry PySem.F.slot_list_sort ⟨_, hoR, rfl⟩ PySem.F.entry_list_sort ?body (args_list_sort _)))
  case body =>
    show wpAny (model c.prog c.w) A.in1.in1 (Builtin.«list.sort» ⟨[.ref h'.objs.size], []⟩) _ _ _
    rw [list_sort_plain]
    have hz : (as.map Value.ref).toArray.size = as.length := by rw [List.size_toArray, List.length_map]
    generalize hRR : h'.objs.size = R at *
    have hs2' : St c ⟨fs, upd σ R (some (9, rawC (seqObj "list" (as.map Value.ref).toArray 0))), g⟩ { s with heap := h'.push (seqObj "list" (as.map Value.ref).toArray 0) } := hs2
    have s1 := Heap.SameBut.update (h'.push (seqObj "list" (as.map Value.ref).toArray 0)) R (Obj.mapSeq fun _ => (#[] : Array Value))
    obtain ⟨e1, ho1⟩ : ∃ e1, ((h'.push (seqObj "list" (as.map Value.ref).toArray 0)).update R (Obj.mapSeq fun _ => (#[] : Array Value))).get? R = some (seqObj "list" #[] e1) := ⟨_, get?_update_seq hoR fun _ => #[]⟩
    have hs3 := hs2'.put (k' := 9) (cl' := rawC (seqObj "list" #[] e1)) (x := R) upd_self (fun b o q z => (s1.2 b q).trans z) ho1 rfl
    rw [show upd (⟨fs, upd σ R (some (9, rawC (seqObj "list" (as.map Value.ref).toArray 0))), g⟩ : AS).σ R (some (9, rawC (seqObj "list" #[] e1))) = upd σ R (some (9, rawC (seqObj "list" #[] e1))) from upd_upd] at hs3
    refine wpAny_bind (listItems_at hoR rfl ?_)
    refine wpAny_bind (listUpdate_at hoR rfl ?_ (by rw [hz, sizeLine_eq]; lia) (Nat.zero_le _))
    refine wpAny_bind (seqEpoch_at ho1 rfl ?_)
    refine wpAny_bind (wpAny_newTuple ?_ (by rw [Array.length_toList, hz, sizeLine_eq]; lia))
    refine wpAny_bind (wpAny_newList ?_ (Nat.zero_le _))
    refine wpAny_holding ?_
    have hs5 : St c ⟨fs, upd σ R (some (9, rawC (seqObj "list" #[] e1))), g⟩ { s with heap := (((h'.push (seqObj "list" (as.map Value.ref).toArray 0)).update R (Obj.mapSeq fun _ => (#[] : Array Value))).push (seqObj "tuple" (as.map Value.ref).toArray.toList.toArray 0)).push (seqObj "list" #[] 0) } :=
      (hs3.grow fun b o q => Heap.get?_push_of_some _ (Heap.get?_push_of_some _ q)).of_eq
    have X3 : Ext [9] σ (upd σ R (some (9, rawC (seqObj "list" #[] e1)))) := Ext.upd_new hR0
    dsimp only at hs5 ⊢
    exact sort_endR hA.in1.in1.lt upd_self h64 (K.ext X3) T hs5 fun p s' a hs' => ⟨_, rfl, wpAny_pure ⟨_, rfl, ⟨fs, _, g⟩, hs', h R p _ a (Ext.new_eq upd_upd hR0) upd_self⟩⟩
end
end Mine.Internal
namespace Mine.Internal
section
variable {α : Type}
theorem chain_next {R : α → α → Prop} {l : List α} {i : Nat} {a b : α} (h : Chain R l) : l[i]? = some a → l[i + 1]? = some b → R a b := by
  induction h generalizing i with
  | one => intro ha hb; cases hb
  | cons h1 _ ih =>
    intro ha hb
    cases i with
    | zero => cases ha; cases hb; exact h1
    | succ i => exact ih ha hb
end
end Mine.Internal
namespace Mine.Internal
section
variable {α : Type}
theorem chain_agree {R : α → α → Prop} (hR : ∀ a b b', R a b → R a b' → b = b') {l l' : List α} (h : Chain R l) (h' : Chain R l') (e : l.head? = l'.head?) : ∀ i, i < l.length → i < l'.length → l[i]? = l'[i]?
  | 0, h1, h2 => by rw [← List.head?_eq_getElem?, ← List.head?_eq_getElem?, e]
  | i + 1, h1, h2 => by
    have ih := chain_agree hR h h' e i (by walk_at "le") (by walk_at "le")
    have a1 : l[i]? = some l[i] := List.getElem?_eq_getElem (by walk_at "le")
    have b1 : l[i + 1]? = some l[i + 1] := List.getElem?_eq_getElem h1
    have b2 : l'[i + 1]? = some l'[i + 1] := List.getElem?_eq_getElem h2
    rw [b1, b2, hR _ _ _ (chain_next h a1 b1) (chain_next h' (ih ▸ a1) b2)]
theorem nodup_split : ∀ {p p' q q' : List α} {w : α}, (p ++ w :: q).Nodup → p ++ w :: q = p' ++ w :: q' → p = p' ∧ q = q'
  | [], [], q, q', w, h, e => by simp at e; exact ⟨rfl, e⟩
  | [], x :: p', q, q', w, h, e => by
    simp at e
    rw [e.2] at h
    simp at h
  | x :: p, [], q, q', w, h, e => by
    simp at e
    obtain ⟨rfl, e⟩ := e
    simp at h
  | x :: p, y :: p', q, q', w, h, e => by
    simp only [List.cons_append, List.cons.injEq] at e
    obtain ⟨rfl, e⟩ := e
    have := nodup_split (List.nodup_cons.mp h).2 e
    exact ⟨by rw [this.1], this.2⟩
theorem first_split {P : α → Prop} {pre post pre' post' : List α} {v v' : α} (e : pre ++ v :: post = pre' ++ v' :: post') (h : ∀ k ∈ pre, ¬ P k) (hv : P v) (h' : ∀ k ∈ pre', ¬ P k) (hv' : P v') : v = v' := by
  rcases List.append_eq_append_iff.mp e with ⟨c, h1, h2⟩ | ⟨c, h1, h2⟩
  · cases c with
    | nil => simp at h2; exact h2.1
    | cons x c => simp at h2; exact absurd (h2.1 ▸ hv) (h' x (by rw [h1]; simp))
  · cases c with
    | nil => simp at h2; exact h2.1.symm
    | cons x c => simp at h2; exact absurd (h2.1 ▸ hv') (h x (by rw [h1]; simp))
theorem stay_head {su : α → List α} {l : List α} {v0 last w : α} (h : Chain (FirstStay su) l) (hh : l.head? = some v0) (hl : l.getLast? = some last) (hc : FirstStay su last w) (hw : w ∈ l) : Stay su v0 := by
  cases h with
  | one =>
    simp at hh hl
    subst hh; subst hl
    obtain ⟨a, b, e, _, s⟩ := hc
    exact s.of_step (by rw [e]; simp)
  | cons h1 _ =>
    simp at hh
    subst hh
    obtain ⟨a, b, e, _, s⟩ := h1
    exact s.of_step (by rw [e]; simp)
theorem RingRes.unique {keys : List α} {su : α → List α} {r r' : Option (List α)} (h : RingRes keys su r) (h' : RingRes keys su r') : r = r' := by
  cases h with
  | no h =>
    cases h' with
    | no _ => rfl
    | @yes pre post v0 last w p q hk hp hn hh hl hc hf => exact absurd (stay_head hc hh hl hf (by first | decide | simp)) (h v0 (by rw [hk]; simp))
  | @yes pre post v0 last w p q hk hp hn hh hl hc hf =>
    have s0 := stay_head hc hh hl hf (by first | decide | simp)
    cases h' with
    | no h => exact absurd s0 (h v0 (by rw [hk]; simp))
    | @yes pre' post' v0' last' w' p' q' hk' hp' hn' hh' hl' hc' hf' =>
      have s0' := stay_head hc' hh' hl' hf' (by first | decide | simp)
      have hv : v0 = v0' := first_split (P := Stay su) (hk.symm.trans hk') hp s0 hp' s0'
      subst hv
      have hR : ∀ a b b', FirstStay su a b → FirstStay su a b' → b = b' := fun _ _ _ a b => a.unique b
      have ag := chain_agree hR hc hc' (hh.trans hh'.symm)
      have key : ∀ {l l' : List α} {last w : α}, l.getLast? = some last → FirstStay su last w → w ∈ l → Chain (FirstStay su) l' → l'.Nodup → (∀ i, i < l.length → i < l'.length → l[i]? = l'[i]?) → ¬ l.length < l'.length := fun {l l' last w} h1 h2 h3 h4 h5 h6 h7 => by
        rw [List.getLast?_eq_getElem?] at h1
        have hl0 : l ≠ [] := fun e => by rw [e] at h3; exact List.not_mem_nil h3
        have hp : 0 < l.length := List.length_pos_iff.mpr hl0
        have e1 := h6 (l.length - 1) (by walk_at "le") (by walk_at "le")
        rw [h1] at e1
        have e2 : l'[l.length - 1 + 1]? = some l'[l.length] := by rw [show l.length - 1 + 1 = l.length by lia]; exact List.getElem?_eq_getElem h7
        have e3 := h2.unique (chain_next h4 e1.symm e2)
        obtain ⟨i, hi, ei⟩ := List.mem_iff_getElem.mp h3
        have e4 := h6 i hi (by walk_at "le")
        rw [List.getElem?_eq_getElem hi, List.getElem?_eq_getElem (by walk_at "le"), ei, e3] at e4
        have := (List.getElem_inj h5).mp (Option.some.inj e4)
        lia
      have l1 := key hl hf (by first | decide | simp) hc' hn' ag
      have l2 := key hl' hf' (by first | decide | simp) hc hn (fun i a b => (ag i b a).symm)
      have hl3 : (p ++ w :: q).length = (p' ++ w' :: q').length := by lia
      have he : p ++ w :: q = p' ++ w' :: q' := List.ext_getElem? fun i => by
        by_cases z : i < (p ++ w :: q).length
        · exact ag i z (by walk_at "le")
        · rw [List.getElem?_eq_none (by walk_at "le"), List.getElem?_eq_none (by walk_at "le")]
      rw [he, hl'] at hl
      cases hl
      have hw := hf.unique hf'
      subst hw
      obtain ⟨_, e2⟩ := nodup_split hn he
      rw [e2]
theorem Stay.of_mem {su af : α → List α} (h : ∀ v w, w ∈ su v → w ∈ af v) {v : α} (s : Stay su v) : Stay af v := by
  obtain ⟨S, h1, h2⟩ := s
  exact ⟨S, h1, fun u hu => let ⟨w, a, b⟩ := h2 u hu; ⟨w, h _ _ a, b⟩⟩
theorem prune_stay {af : α → List α} {st : List α} (h : ∀ v ∈ st, ∃ w ∈ af v, w ∈ st) : ∀ v ∈ st, Stay af v := fun v hv => ⟨(· ∈ st), hv, h⟩
theorem prune_keep {af : α → List α} {os st : List α} {g : α → Bool} (hin : ∀ v ∈ os, ∀ w ∈ af v, w ∈ os) (hst : ∀ v ∈ os, Stay af v → v ∈ st) (hg : ∀ v ∈ st, (∃ w ∈ af v, w ∈ st) → g v = true) : ∀ v ∈ os, Stay af v → v ∈ st.filter g := fun v hv s => by
  obtain ⟨w, hw, sw⟩ := s.step
  exact List.mem_filter.mpr ⟨hst v hv s, hg v (hst v hv s) ⟨w, hw, hst w (hin v hv w hw) sw⟩⟩
theorem filter_len {g : α → Bool} {st : List α} (h : (st.filter g).length = st.length) : ∀ v ∈ st, g v = true := List.filter_eq_self.mp (List.filter_sublist.eq_of_length h)
end
end Mine.Internal
namespace Mine.Internal
open PySem PySem.W PyProof.Rows PySem.Calls PySem.SeqAt
noncomputable def kd : AV → PyData
  | .int i => .int i
  | .str x => .str x
  | _ => .none
structure KO (v : AV) : Prop where
  key : v.isKey = true
  sh : Sh 0 (kd v)
theorem KO.int {i : Int} : KO (.int i) := ⟨rfl, .int⟩
theorem KO.rd {σ : Addr → Option (Nat × Cell)} {v : AV} (h : KO v) : RdV σ v (kd v) := by
  obtain ⟨h, _⟩ := h
  cases v <;> first | (cases h; done) | exact RdV.int | exact RdV.str
theorem KO.rds {σ : Addr → Option (Nat × Cell)} : ∀ {l : List AV}, (∀ v ∈ l, KO v) → RdL σ l (l.map kd)
  | [], _ => .nil
  | v :: l, h => .cons (h v (by first | decide | simp)).rd (KO.rds fun w hw => h w (.tail _ hw))
theorem KO.shL {l : List AV} (h : ∀ v ∈ l, KO v) : Sh 1 (.list (l.map kd)) := Sh.list fun d hd => by
  obtain ⟨v, hv, rfl⟩ := List.mem_map.mp hd
  exact (h v hv).sh
theorem Sh.nil : shaped (.list []) = true := rfl
section
variable {c : Cx} {A : Around} {E : Value → AS → Prop} {fs : List Frm} {σ : Addr → Option (Nat × Cell)} {g : Array GenState} {d : Nat} {x : Addr}
theorem fn_ring {w : World} : FnOkC (KK w) 139 [("order", false), ("after", true), ("stay", true), ("left", false), ("way", false), ("on", false)] ["list", "len"] := ⟨rfl, rfl, rfl, rfl, rfl, rfl, rfl, rfl, rfl, rfl, by decide +kernel⟩
theorem CapOk.mono {env : Env} {cl : List (Str × Addr)} {xs ys : List Str} (h : CapOk env cl xs) (s : ∀ y ∈ ys, y ∈ xs) : CapOk env cl ys := ⟨h.kind, fun y hy => h.cap y (s y hy)⟩
theorem filt_snoc {row : List AV} {p : AV → Bool} {i : Nat} {v : AV} (hv : row[i]? = some v) : (row.take (i + 1)).filter p = (row.take i).filter p ++ if p v = true then [v] else [] := by
  rw [List.take_add_one, hv, List.filter_append, Option.toList_some, List.filter_cons]; rfl
inductive StJ (st : Addr) (k : Nat) (S row : List AV) (i : Nat) (ys : List AV) (σ : Addr → Option (Nat × Cell)) : Prop
  | mk : ys = (row.take i).filter (fun w => decide (w ∈ S)) → σ st = some (k, .list S) → StJ st k S row i ys σ
theorem StJ.yes {st : Addr} {k : Nat} {S row : List AV} {i : Nat} {ys : List AV} {σ : Addr → Option (Nat × Cell)} {v : AV} (h : StJ st k S row i ys σ) (hv : row[i]? = some v) (z : v ∈ S) : StJ st k S row (i + 1) (ys ++ [v]) σ := by
  obtain ⟨rfl, q2⟩ := h
  exact ⟨by rw [filt_snoc hv, if_pos (decide_eq_true z)], q2⟩
theorem StJ.no {st : Addr} {k : Nat} {S row : List AV} {i : Nat} {ys : List AV} {σ : Addr → Option (Nat × Cell)} {v : AV} (h : StJ st k S row i ys σ) (hv : row[i]? = some v) (z : v ∉ S) : StJ st k S row (i + 1) ys σ := by
  obtain ⟨rfl, q2⟩ := h
  exact ⟨by rw [filt_snoc hv, if_neg (show ¬ decide (v ∈ S) = true from fun q => z (of_decide_eq_true q)), List.append_nil], q2⟩
theorem StJ.len {st : Addr} {k : Nat} {S row : List AV} {i : Nat} {ys : List AV} {σ : Addr → Option (Nat × Cell)} (h : StJ st k S row i ys σ) : ys.length ≤ row.length := by
  obtain ⟨rfl, q2⟩ := h
  exact Nat.le_trans (List.length_filter_le ..) (List.length_take_le' ..)
theorem W_inStay {env : Env} {sc : Scope} {cl : List (Str × Addr)} {L : Addr} {ns : List Str} {vs : List (Option AV)} {iter : Expr} {p1 p2 p3 p4 px pos : Pos} {st p : Addr} {k kr : Nat} {S row : List AV} {Q : Value → AS → Prop}
    (hsc : CScope sc "w" [] ["stay"]) (hC : CapOk env cl ["stay"]) (hgl : env.globals = mainGlobals) (hbl : env.builtins = builtinsNs) (hh : A.handled = none) (hf : ⟨L, cl, ns, vs⟩ ∈ fs) (hv : VarAt ns vs "stay" (some (.ref st))) (hnd : ns.Nodup)
    (hS : σ st = some (k, .list S)) (hk : k ≠ 9) (hp : σ p = some (kr, .list row)) (hr : kr ≠ 9) (hz : row.length ≤ 90000) (kS : ∀ v ∈ S, v.isKey = true) (kR : ∀ v ∈ row, v.isKey = true)
    (hi : ∀ Q : Value → AS → Prop, Q (.ref p) ⟨fs, σ, g⟩ → W c A (eval iter env) Q E ⟨fs, σ, g⟩)
    (h : ∀ D σ', Ext [] σ σ' → σ' D = some (0, .list (row.filter fun w => decide (w ∈ S))) → Q (.ref D) ⟨fs, σ', g⟩)
    (hs : ∀ x, foldedSetIterable iter env x = pure x) :
    W c A (eval (.ListComp (.Name "w" p1) [⟨.Name "w" px, iter, [.Compare (.Name "w" p2) [.In] [.Name "stay" p3] p4], 0⟩] sc pos) env) Q E ⟨fs, σ, g⟩ := by
  refine W_ListComp hsc hC (hi _ (W_iter_list hp fun it h1 σ1 e1 => ?_)) hs
  refine CompK_loop (k := kr) (gs := []) hsc hC rfl (by first | decide | simp) hgl hbl (IterOf.list hh) IterSelf.list [] (by first | decide | simp) (by first | decide | simp) hr 0
    (StJ st k S row) (fun i ys σ σ' q e => by cases q with | mk q1 q2 => exact ⟨q1, e _ _ _ q2 (fun z => hk (List.mem_singleton.mp z))⟩) h1 e1 ((put_ne e1 (ne_new hp h1)).trans hp) ⟨rfl, hS⟩ (fun i ys σ q => Nat.le_trans q.len (Nat.le_trans hz (by decide))) ?_ ?_
  · intro C cenv i v σ3 ys hCE hCC hg hb q hv3 hsrc Y3
    have kv := kR v (List.mem_of_getElem? hv3)
    have hS3 : σ3 st = some (k, .list S) := by cases q with | mk _ q => exact q
    refine W_tests_one (W_isTrue_Compare1 (W_Name hCE .here (All.key kv fun u eu => W_NameCap hCC (List.mem_cons_self ..) (List.mem_cons_of_mem _ hf) hv hnd (All.ref (W_in_list hS3 (by rw [eu]; exact kv) kS (W_truthy_bool ?_))))))
    rw [eu]
    by_cases z : v ∈ S
    · rw [decide_eq_true z]
      exact W_Name hCE .here (All.key kv fun u eu => ⟨σ3, rfl, Ext.refl, by rw [eu]; exact q.yes hv3 z⟩)
    · rw [decide_eq_false z]
      exact ⟨σ3, rfl, Ext.refl, q.no hv3 z⟩
  · intro D C vx ys σ3 q Y3 hD hD3
    obtain ⟨rfl, hS3⟩ := q
    rw [List.take_length] at hD3
    exact h D σ3 Y3 hD3
theorem W_swapF {f1 f2 : Frm} {α : Type} {t : Sem α} {Q : α → AS → Prop}
    (h : W c A t (fun v a' => ∃ f1 f2 fs, a'.fs = f2 :: f1 :: fs ∧ Q v ⟨f1 :: f2 :: fs, a'.σ, a'.gens⟩) (fun _ _ => False) ⟨f2 :: f1 :: fs, σ, g⟩) : W c A t Q E ⟨f1 :: f2 :: fs, σ, g⟩ := fun s hs =>
  wpAny_mono (h s hs.swap) (fun v s' pz18 => pz18.elim fun a' pz19 => pz19.elim fun h1 pz20 => pz20.elim fun f1 pz21 => pz21.elim fun f2 pz22 => pz22.elim fun fs pz23 => pz23.elim fun e q => by
    obtain ⟨fs', σ', g'⟩ := a'
    dsimp only at e; subst e
    exact ⟨_, h1.swap, q⟩) fun e s' pz24 => pz24.elim fun _ pz25 => pz25.elim fun _ x => x.elim
theorem W_AssignComp {env : Env} {sc : Scope} {x y : Str} {gls caps : List Str} {cl : List (Str × Addr)} {L : Addr} {ns : List Str} {gs : List (Str × Value)} {vs : List (Option AV)} {vs' : Addr → List (Option AV)} {elt iter : Expr} {px py pos spos : Pos} {ifs : List Expr} {P : Addr → (Addr → Option (Nat × Cell)) → Prop} {Q : Flow → AS → Prop}
    (h : CScope sc x gls caps) (hc : CapOk env cl caps) (he : EnvOk c env L cl ns gs) (set : ∀ D, SetVar ns vs y (some (.ref D)) (vs' D))
    (loop : ∀ use (Q' : Value → AS → Prop), (∀ D C vx σ', P D σ' → UseK c A (⟨L, cl, ns, vs⟩ :: fs) g x Q' E D C vx σ' use) →
      W c A (eval iter env) (fun xv a₁ => W c A (pyIter xv) (fun it a₂ => CompK c A env elt iter x px ifs sc pos caps use it Q' E a₂) E a₁) E ⟨⟨L, cl, ns, vs⟩ :: fs, σ, g⟩)
    (q : ∀ D σ', P D σ' → Q .next ⟨⟨L, cl, ns, vs' D⟩ :: fs, σ', g⟩) (hs : ∀ x, foldedSetIterable iter env x = pure x := by intro _; with_unfolding_all rfl) :
    W c A (exec (.Assign [.Name y py] (.ListComp elt [⟨.Name x px, iter, ifs, 0⟩] sc pos) spos) env) Q E ⟨⟨L, cl, ns, vs⟩ :: fs, σ, g⟩ := by
  have sw : swapsWith (.ListComp elt [⟨.Name x px, iter, ifs, 0⟩] sc pos) (some (.Name y py)) spos.line env = pure (env.blockKind == .function && env.kindOf y == some .local && py.line == pos.line && !(sc.names.any fun (n, k) => n == y && (k == .local || k == .cell))) := rfl
  generalize (env.blockKind == .function && env.kindOf y == some .local && py.line == pos.line && !(sc.names.any fun (n, k) => n == y && (k == .local || k == .cell))) = b at sw
  cases b with
  | false => exact W_Assign_Name (W_ListComp h hc (loop none (fun v a' => W c A (storeName env y v) (fun _ => Q .next) E a') fun D C vx σ' p => W_storeName he (set D) (q D σ' p)) hs) sw
  | true =>
    exact W_Assign_ListComp h hc sw (loop (some (assign (.Name y py) env)) (fun _ a' => Q .next a') fun D C vx σ' p => W_assign_Name (W_swapF (W_storeName (u := .ref D) he (set D) ⟨_, _, _, rfl, _, rfl, q D σ' p⟩))) hs
end
end Mine.Internal
namespace Mine.Internal
open PySem PySem.W PyProof.Rows PySem.Calls PySem.SeqAt
structure RgOk (ks : List AV) (su : AV → List AV) : Prop where
  len : ks.length ≤ 90000
  key : ∀ v ∈ ks, KO v
  ins : ∀ v ∈ ks, ∀ w ∈ su v, w ∈ ks
  row : ∀ v, (su v).length ≤ 90000
  nd : ks.Nodup
noncomputable def goes (su : AV → List AV) (st : List AV) (v : AV) : Bool := !((su v).filter fun w => decide (w ∈ st)).isEmpty
theorem goes_iff {su : AV → List AV} {st : List AV} {v : AV} : goes su st v = true ↔ ∃ w ∈ su v, w ∈ st := by
  unfold goes
  cases e : (su v).filter (fun w => decide (w ∈ st)) with
  | nil => exact ⟨(fun h => nomatch h), fun pz26 => pz26.elim fun w pz27 => pz27.elim fun h1 h2 => by have : w ∈ (su v).filter (fun w => decide (w ∈ st)) := List.mem_filter.mpr ⟨h1, decide_eq_true h2⟩; rw [e] at this; cases this⟩
  | cons a l =>
    obtain ⟨h1, h2⟩ := List.mem_filter.mp (show a ∈ (su v).filter (fun w => decide (w ∈ st)) by rw [e]; exact List.mem_cons_self)
    exact ⟨fun _ => ⟨a, h1, of_decide_eq_true h2⟩, fun _ => rfl⟩
structure Pruned (ks : List AV) (su : AV → List AV) (st : List AV) : Prop where
  sub : st.Sublist ks
  stay : ∀ v ∈ ks, Stay su v → v ∈ st
theorem Pruned.step {ks st : List AV} {su : AV → List AV} (R : RgOk ks su) (h : Pruned ks su st) : Pruned ks su (st.filter (goes su st)) :=
  ⟨List.filter_sublist.trans h.sub, prune_keep R.ins h.stay fun v _ q => goes_iff.mpr q⟩
theorem first_at {α : Type} [DecidableEq α] {w : α} : ∀ {l : List α}, w ∈ l → ∃ p q, l = p ++ w :: q ∧ w ∉ p
  | x :: l, h => by
    by_cases e : w = x
    · exact ⟨[], l, by rw [e]; rfl, List.not_mem_nil⟩
    · obtain ⟨p, q, h1, h2⟩ := first_at ((List.mem_cons.mp h).resolve_left e)
      exact ⟨x :: p, q, by rw [h1]; rfl, fun z => (List.mem_cons.mp z).elim e h2⟩
theorem nodup_le {α : Type} : ∀ {l os : List α}, l.Nodup → (∀ y ∈ l, y ∈ os) → l.length ≤ os.length
  | [], os, _, _ => Nat.zero_le _
  | a :: l, os, h, hs => by
    obtain ⟨p, q, rfl⟩ := List.append_of_mem (hs a (by first | decide | simp))
    have h' := List.nodup_cons.mp h
    have := nodup_le (os := p ++ q) h'.2 fun y hy => by
      rcases List.mem_append.mp (hs y (List.mem_cons_of_mem _ hy)) with z | z
      · exact List.mem_append_left _ z
      · rcases List.mem_cons.mp z with z | z
        · exact absurd (z ▸ hy) h'.1
        · exact List.mem_append_right _ z
    rw [List.length_append] at this ⊢
    exact Nat.succ_le_succ this
theorem first_of {os r : List AV} {v : AV} (hn : os.Nodup) (hs : (v :: r).Sublist os) : ∃ pre post, os = pre ++ v :: post ∧ ∀ k ∈ pre, k ∉ v :: r := by
  obtain ⟨p, q, rfl, hp⟩ := first_at (hs.subset List.mem_cons_self)
  refine ⟨p, q, rfl, fun k hk hm => ?_⟩
  rcases List.sublist_append_iff.mp hs with ⟨l1, l2, e, h1, h2⟩
  cases l1 with
  | cons x l1 =>
    rw [List.cons_append, List.cons.injEq] at e
    exact hp (h1.subset (by rw [e.1]; exact List.mem_cons_self))
  | nil =>
    rw [List.nil_append] at e; subst e
    exact (List.nodup_append.mp hn).2.2 k hk k (h2.subset hm) rfl
structure WayOk (ks : List AV) (su : AV → List AV) (v : AV) (way : List AV) (u : AV) : Prop where
  ch : Chain (FirstStay su) (way ++ [u])
  nd : (way ++ [u]).Nodup
  hd : (way ++ [u]).head? = some v
  st : ∀ y ∈ way ++ [u], y ∈ ks ∧ Stay su y
section
variable {ks st way : List AV} {su : AV → List AV} {u v w : AV} {r : List AV}
theorem way_on (R : RgOk ks su) (P : Pruned ks su st) (ps : ∀ y ∈ st, Stay su y) (O : WayOk ks su v way u) : ∃ w r, (su u).filter (fun w => decide (w ∈ st)) = w :: r ∧ FirstStay su u w ∧ w ∈ ks ∧ Stay su w := by
  obtain ⟨hu, su'⟩ := O.st u (by first | decide | simp)
  obtain ⟨w, r, e⟩ : ∃ w r, (su u).filter (fun w => decide (w ∈ st)) = w :: r := by
    obtain ⟨w, hw, sw⟩ := su'.step
    have : w ∈ (su u).filter (fun w => decide (w ∈ st)) := List.mem_filter.mpr ⟨hw, decide_eq_true (P.stay w (R.ins u hu w hw) sw)⟩
    cases e : (su u).filter (fun w => decide (w ∈ st)) with
    | nil => rw [e] at this; cases this
    | cons a l => exact ⟨a, l, rfl⟩
  have hm : w ∈ (su u).filter (fun w => decide (w ∈ st)) := by rw [e]; exact List.mem_cons_self
  obtain ⟨h1, h2⟩ := List.mem_filter.mp hm
  have hs := ps w (of_decide_eq_true h2)
  obtain ⟨l1, l2, e1, e2, _, _⟩ := List.filter_eq_cons_iff.mp e
  exact ⟨w, r, e, ⟨l1, l2, e1, fun t ht s => e2 t ht (decide_eq_true (P.stay t (R.ins u hu t (by rw [e1]; exact List.mem_append_left _ ht)) s)), hs⟩, R.ins u hu w h1, hs⟩
theorem way_more (O : WayOk ks su v way u) (hf : FirstStay su u w) (hw : w ∈ ks) (hs : Stay su w) (hn : w ∉ way ++ [u]) : WayOk ks su v (way ++ [u]) w := by
  refine ⟨O.ch.snoc hf, List.nodup_append.mpr ⟨O.nd, by simp, fun a ha b hb e => hn (by rw [← List.mem_singleton.mp hb, ← e]; exact ha)⟩, by rw [List.head?_append, O.hd]; rfl, fun y hy => ?_⟩
  rcases List.mem_append.mp hy with hy | hy
  · exact O.st y hy
  · rw [List.mem_singleton.mp hy]; exact ⟨hw, hs⟩
theorem way_end (R : RgOk ks su) (P : Pruned ks su (v :: r)) (O : WayOk ks su v way u) (hf : FirstStay su u w) {p q : List AV} (e : way ++ [u] = p ++ w :: q) : RingRes ks su (some (w :: q ++ [w])) := by
  obtain ⟨pre, post, e1, e2⟩ := first_of R.nd P.sub
  exact .yes (last := u) e1 (fun y hy s => e2 y hy (P.stay y (by rw [e1]; exact List.mem_append_left _ hy) s)) (e ▸ O.nd) (e ▸ O.hd) (by rw [← e, List.getLast?_append]; rfl) (e ▸ O.ch) hf
end
end Mine.Internal
namespace Mine.Internal
open PySem PySem.W PyProof.Rows PySem.Calls
inductive DnJ (x t nd b dx : Addr) (as : List NAd) (ep : Nat) (F : Nat → SS) (i : Nat) (vv : List (Option AV)) (σ : Addr → Option (Nat × Cell)) : Prop
  | mk (b1 b2 b3 b4 b5 : Option AV) : vv = [some (.ref x), some (.ref t), some (.ref nd), b1, b2, b3, b4, b5] → SAt σ x (F i) dx nd (.ref b) as ep → DnJ x t nd b dx as ep F i vv σ
inductive DnK (x t nd b dx : Addr) (as : List NAd) (ep : Nat) (k : AV) (a : Addr) (F : Nat → SS) (i : Nat) (vv : List (Option AV)) (σ : Addr → Option (Nat × Cell)) : Prop
  | mk (b4 b5 : Option AV) : vv = [some (.ref x), some (.ref t), some (.ref nd), some k, some (.ref a), some (.int (-1)), b4, b5] → SAt σ x (F i) dx nd (.ref b) as ep → DnK x t nd b dx as ep k a F i vv σ
inductive Bad (st : SS) (k : AV) : Str → Prop
  | unknown : k ∉ st.keys → Bad st k " was not added using add()"
  | early : k ∈ st.keys → 0 ≤ st.np k → Bad st k " was not passed out (still not ready)"
  | again : k ∈ st.keys → st.np k = -2 → Bad st k " was already marked done"
noncomputable def msgOf (k : AV) (said : Str) : Str := (Str.ofString "node " ++ rp k) ++ said
section
variable {c : Cx} {A : Around} {E : Value → AS → Prop} {fs : List Frm} {σ : Addr → Option (Nat × Cell)} {g : Array GenState} {d : Nat} {x dx nd : Addr} {rv : AV} {as : List NAd} {ep : Nat} {st : SS}
set_option maxHeartbeats 1000000 in
theorem done_spec {us : List Value} {l : List AV} {N m : Nat} {R : Result → AS → Prop} (lw : Lw c) (hA : AOk A fs (d + 1)) (S : SAt σ x st dx nd rv as ep) (hr : st.ready.isSome = true) (hN : ∀ k, (st.su k).length ≤ N) (hz : st.rl + N * (l.length + 1) ≤ 1000000) (hlz : l.length ≤ 1000000)
    (hus : us.map er = l) (hkl : ∀ k ∈ l, k.isKey = true ∧ RpOk k) (hsu : ∀ k s, s ∈ st.su k → s ∈ st.keys) (hm : m ≤ l.length) (hgood : ∀ i k, i < m → l[i]? = some k → k ∈ st.keys ∧ (st.done (l.take i)).np k = -1)
    (hbad : ∀ k, l[m]? = some k → ∃ said, Bad (st.done (l.take m)) k said ∧ ∀ e t T σ', Ext [1, 8] σ σ' → SAt σ' x (st.done (l.take m)) dx nd rv as ep → Exc σ' e t (.type "ValueError") [.str (msgOf k said)] (some T) → R (.error (.ref e)) ⟨fs, σ', g⟩)
    (h : ∀ σ', m = l.length → Ext [1] σ σ' → SAt σ' x (st.done l) dx nd rv as ep → R (.ok (.ret .none)) ⟨fs, σ', g⟩) :
    Wk c A (.call (.ref 113) ⟨.ref x :: us, []⟩) R ⟨fs, σ, g⟩ := by
  obtain ⟨l0, hl0⟩ := Option.isSome_iff_exists.mp hr
  have rd := S.rdy
  rw [hl0] at rd
  obtain ⟨b, rfl, hb⟩ := rd
  obtain ⟨tO, gO⟩ := lw.NODE_OUT
  obtain ⟨tD, gD⟩ := lw.NODE_DONE
  have hlen : us.length = l.length := by rw [← hus]; simp
  refine Wk_call_GS (pre := [.ref x]) (rest := us) lw.K (ns := ["self", "nodes", "n2i", "node", "nodeinfo", "stat", "successor", "successor_info"]) (us := [.ref x]) (vs := fun t => [some (.ref x), some (.ref t), none, none, none, none, none, none])
    (gs := [("ValueError", .type "ValueError"), ("_NODE_OUT", .int (-1) tO), ("_NODE_DONE", .int (-2) tD)]) fn_done rfl bind_done rfl (fun t => .cons (.cons (.rest (.rest (.rest (.rest (.rest (.rest .nil)))))))) (by simp [lw.ValueError, gO, gD]) hA (by rw [hlen]; exact hlz) (fun L env t σ1 B P X hfr hh ht e1 hL hA' hout hE hFx hUx => ?_)
  rw [hus] at e1
  have X1 : Ext [] σ σ1 := Ext.new_eq e1 ht
  have S1 := S.ext X1 (by first | decide | simp) (by first | decide | simp)
  have ht1 : σ1 t = some (0, .tuple l) := at_upd e1
  refine W_consG (fun _ _ => ?_)
  repeat walk_at "st"
  refine W_getAttr S1.x S1.dx (lw.K ▸ a_ready) sAttrs_nd (by walk_at "mem") ?_
  repeat walk_at "st"
  refine W_getAttr S1.x S1.dx (lw.K ▸ a_node2info) sAttrs_nd (by walk_at "mem") ?_
  repeat walk_at "st"
  refine W_cutN (fun a' => ∃ vv σ', a' = ⟨⟨L, [], ["self", "nodes", "n2i", "node", "nodeinfo", "stat", "successor", "successor_info"], vv⟩ :: fs, σ', g⟩ ∧ m = l.length ∧ Ext [1] σ1 σ' ∧ SAt σ' x (st.done l) dx nd (.ref b) as ep) ?_ ?_
  rotate_left
  · rintro a' ⟨vv, σ', rfl, em, X, S⟩
    repeat walk_at "st"
    exact h σ' em (X1.nil.trans X) S
  intro Pc hPc
  refine W_For ?_
  repeat walk_at "st"
  refine W_iter_tuple ht1 (fun it h1 σ2 e2 => ?_)
  refine Wk_loopG (IterOf.tuple (k := 0) hh) [1] (by first | decide | simp) (by first | decide | simp)
    (fun i vv σ => i ≤ m ∧ DnJ x t nd b dx as ep (fun i => st.done (l.take i)) i vv σ)
    (fun i vv σ σ' q X => by obtain ⟨hi, b1, b2, b3, b4, b5, hv, S⟩ := q; exact ⟨hi, b1, b2, b3, b4, b5, hv, S.ext X (by decide) (by decide)⟩) h1 e2
    ((put_ne e2 (ne_new ht1 h1)).trans ht1) ⟨Nat.zero_le _, _, _, _, _, _, rfl, S1⟩ ?_ ?_
  · rintro i k vv σ5 u5 P5 E5 hP5 hE5 ⟨him, b1, b2, b3, b4, b5, rfl, S5⟩ hv eu hsrc X5
    obtain ⟨q1, q2, q3, q4, q5, q6⟩ := SS.done_same (l := l.take i) hN
    generalize hst5 : st.done (l.take i) = st5 at *
    obtain ⟨hkey, hrp⟩ := hkl k (List.mem_of_getElem? hv)
    repeat walk_at "st"
    intro pl
    refine W_meth_dict F.slot_dict_get F.type_dict_get S5.nd ?_
    repeat walk_at "st"
    rw [eu]
    refine All.key hkey fun u6 e6 => ?_
    repeat walk_at "st"
    refine ⟨Kp.builtin, W_dict_get S5.nd (by rw [e6]; exact hkey) ?_⟩
    rw [e6]
    by_cases hmi : i = m
    · subst hmi
      obtain ⟨said, hb1, hb2⟩ := hbad k hv
      rw [hst5] at hb1 hb2
      have raise : ∀ {vv : List (Option AV)} {e t' : Addr} {σ6 : Addr → Option (Nat × Cell)}, Ext [] σ5 σ6 → Exc σ6 e t' (.type "ValueError") [.str (msgOf k said)] none → E5 (.ref e) ⟨⟨L, [], ["self", "nodes", "n2i", "node", "nodeinfo", "stat", "successor", "successor_info"], vv⟩ :: fs, σ6, g⟩ := fun {vv e t' σ6} X6 hx6 => by
        obtain ⟨outer, ho⟩ := hout
        refine hE5 _ _ (noted_exc hA'.vs.link ho hfr hx6 fun σ7 T7 X7 hx7 => came_exc hx7 (hUx.ex _ _ _ _ _ _ _ _ _ _ hx7 fun σ8 T8 X8 hx8 => ?_))
        have X58 : Ext [8] σ5 σ8 := X6.nil.trans (X7.trans X8)
        exact hb2 e t' T8 σ8 (X1.nil.trans ((X5.mono (by decide)).trans (X58.mono (by decide)))) (S5.ext X58 (by decide) (by decide)) hx8
      by_cases hkm : k ∈ st5.keys
      · obtain ⟨j, p, hj, hp, hg⟩ := S5.find hkm
        have N5 := S5.nds j p k hp hj
        rw [hg]
        show All (.ref p.i) _
        repeat walk_at "st"
        refine W_getSlot N5.i N5.d (lw.K ▸ sl_np) (by rfl) ?_
        cases hb1 with
        | unknown q => exact absurd hkm q
        | early _ q =>
          have w1 : (st5.np k != -1) = true := bne_iff_ne.mpr (by walk_at "le")
          have w2 : decide (st5.np k ≥ 0) = true := decide_eq_true q
          repeat walk_at "st"
          rw [w1]
          repeat walk_at "st"
          rw [w2]
          repeat walk_at "st"
          refine W_Raise F.excCall_ValueError F.excRaise_ValueError hh ?_
          repeat walk_at "st"
          refine ⟨rfl, ?_⟩
          repeat walk_at "st"
          refine W_Joined3 (by decide) (by decide) ?_
          repeat walk_at "st"
          refine All.key hkey fun u7 e7 => ⟨by rw [e7]; exact hrp, fun t7 => ?_⟩
          repeat walk_at "st"
          exact ⟨rfl, by simp, fun e t σ6 X6 he6 hx6 => raise X6 (by rw [e7] at hx6; exact hx6)⟩
        | again _ q =>
          rw [q]
          repeat walk_at "st"
          refine W_Raise F.excCall_ValueError F.excRaise_ValueError hh ?_
          repeat walk_at "st"
          refine ⟨rfl, ?_⟩
          repeat walk_at "st"
          refine W_Joined3 (by decide) (by decide) ?_
          repeat walk_at "st"
          refine All.key hkey fun u7 e7 => ⟨by rw [e7]; exact hrp, fun t7 => ?_⟩
          repeat walk_at "st"
          exact ⟨rfl, by simp, fun e t σ6 X6 he6 hx6 => raise X6 (by rw [e7] at hx6; exact hx6)⟩
      · rw [S5.find_none hkm]
        show All .none _
        repeat walk_at "st"
        cases hb1 with
        | early z => exact absurd z hkm
        | again z => exact absurd z hkm
        | unknown _ =>
          refine W_Raise F.excCall_ValueError F.excRaise_ValueError hh ?_
          repeat walk_at "st"
          refine ⟨rfl, ?_⟩
          repeat walk_at "st"
          refine W_Joined3 (by decide) (by decide) ?_
          repeat walk_at "st"
          refine All.key hkey fun u7 e7 => ⟨by rw [e7]; exact hrp, fun t7 => ?_⟩
          repeat walk_at "st"
          exact ⟨rfl, by simp, fun e t σ6 X6 he6 hx6 => raise X6 (by rw [e7] at hx6; exact hx6)⟩
    obtain ⟨hkm0, hnp⟩ := hgood i k (Nat.lt_of_le_of_ne him hmi) hv
    have hkm : k ∈ st5.keys := by rw [q1]; exact hkm0
    rw [hst5] at hnp
    obtain ⟨j, p, hj, hp, hg⟩ := S5.find hkm
    have N5 := S5.nds j p k hp hj
    rw [hg]
    show All (.ref p.i) _
    repeat walk_at "st"
    refine W_getSlot N5.i N5.d (lw.K ▸ sl_np) (by rfl) ?_
    rw [hnp]
    repeat walk_at "st"
    refine W_setSlot N5.i N5.d (lw.K ▸ sl_np) (by decide) ?_
    have S6 := S5.setNp (n := -2) hj hp
    have X6 : Ext [1] σ5 (upd σ5 p.i (some (1, .inst CNI p.d [some k, some (.int (-2)), some (.ref p.s)]))) := Ext.upd_own N5.i (by first | decide | simp)
    generalize e7 : upd σ5 p.i _ = σ6
    have e7' : upd σ5 p.i (some (1, .inst CNI p.d [some k, some (.int (-2)), some (.ref p.s)])) = σ6 := e7
    rw [e7'] at S6 X6
    have N6 := S6.nds j p k hp hj
    dsimp only at N6
    repeat walk_at "st"
    refine W_cutN (fun a' => ∃ b4 b5 σ', a' = ⟨⟨L, [], ["self", "nodes", "n2i", "node", "nodeinfo", "stat", "successor", "successor_info"], [some (.ref x), some (.ref t), some (.ref nd), some k, some (.ref p.i), some (.int (-1)), b4, b5]⟩ :: fs, σ', g⟩ ∧ Ext [1] σ6 σ' ∧ SAt σ' x ((st5.su k).foldl (fun s p => s.dec p) { st5 with np := fset st5.np k (-2) }) dx nd (.ref b) as ep) ?_ ?_
    rotate_left
    · rintro a' ⟨b4', b5', σ7, rfl, X7, S7⟩
      repeat walk_at "st"
      refine W_getAttr S7.x S7.dx (lw.K ▸ a_nfin) sAttrs_nd (by walk_at "mem") ?_
      repeat walk_at "st"
      refine W_setAttr S7.x S7.dx (lw.K ▸ a_nfin) (.there (.there (.there .here))) sAttrs_nd (by first | decide | simp) ?_
      repeat walk_at "st"
      have S8 := S7.setAttrs (st' := st5.done1 k) (rv' := .ref b) rfl rfl rfl S7.rdy
      refine hP5.nx _ _ (X6.trans (X7.trans (Ext.upd_own S7.dx (by first | decide | simp)))) ⟨Nat.lt_of_le_of_ne him hmi, _, _, _, _, _, rfl, ?_⟩
      have : st.done (l.take (i + 1)) = st5.done1 k := by rw [List.take_add_one, hv, ← hst5]; exact SS.done_snoc
      rw [this]; exact S8
    intro Pd hPd
    refine W_For ?_
    repeat walk_at "st"
    refine W_getSlot N6.i N6.d (lw.K ▸ sl_su) (by rfl) ?_
    repeat walk_at "st"
    refine W_iter_list N6.s (fun it6 h6 σ7 e8 => ?_)
    refine Wk_loopG (IterOf.list (k := 2) hh) [1] (by first | decide | simp) (by first | decide | simp)
      (DnK x t nd b dx as ep k p.i fun i => ((st5.su k).take i).foldl (fun s p => s.dec p) { st5 with np := fset st5.np k (-2) })
      (fun i vv σ σ' q X => by obtain ⟨b4, b5, hv, S⟩ := q; exact ⟨b4, b5, hv, S.ext X (by decide) (by decide)⟩) h6 e8
      ((put_ne e8 (ne_new N6.s h6)).trans N6.s) ⟨_, _, rfl, S6⟩ ?_ ?_
    · rintro i7 v vv σ8 u8 P8 E8 hP8 hE8 ⟨b4', b5', rfl, S8⟩ hv8 eu8 hsrc8 X8
      have hvm := List.mem_of_getElem? hv8
      obtain ⟨r1, r2, r3, r4, r5⟩ := SS.decs_same (l := (st5.su k).take i7) (st := { st5 with np := fset st5.np k (-2) })
      have rrl := SS.decs_rl (l := (st5.su k).take i7) (st := { st5 with np := fset st5.np k (-2) })
      generalize hst8 : ((st5.su k).take i7).foldl (fun s p => s.dec p) { st5 with np := fset st5.np k (-2) } = st8 at *
      have hvk : v ∈ st8.keys := by rw [r1]; dsimp only; rw [q1]; exact hsu k v (by rw [← q2]; exact hvm)
      have hvkey := S8.key v hvk
      obtain ⟨j8, p8, hj8, hp8, hg8⟩ := S8.find hvk
      have N8 := S8.nds j8 p8 v hp8 hj8
      repeat walk_at "st"
      rw [eu8]
      refine All.key hvkey fun u9 e9 => ?_
      repeat walk_at "st"
      refine ⟨noGet_dict S8.nd, W_dict_item S8.nd (by rw [e9]; exact hvkey) (by rw [e9]; exact hg8) ?_⟩
      repeat walk_at "st"
      refine W_getSlot N8.i N8.d (lw.K ▸ sl_np) (by rfl) ?_
      repeat walk_at "st"
      refine W_setSlot N8.i N8.d (lw.K ▸ sl_np) (by decide) ?_
      have S9 := S8.setNp (n := st8.np v - 1) hj8 hp8
      have X9 : Ext [1] σ8 (upd σ8 p8.i (some (1, .inst CNI p8.d [some v, some (.int (st8.np v - 1)), some (.ref p8.s)]))) := Ext.upd_own N8.i (by first | decide | simp)
      generalize e10 : upd σ8 p8.i _ = σ9
      have e10' : upd σ8 p8.i (some (1, .inst CNI p8.d [some v, some (.int (st8.np v - 1)), some (.ref p8.s)])) = σ9 := e10
      rw [e10'] at S9 X9
      have N9 := S9.nds j8 p8 v hp8 hj8
      dsimp only at N9
      rw [fset_self] at N9
      repeat walk_at "st"
      refine W_getSlot N9.i N9.d (lw.K ▸ sl_np) (by rfl) ?_
      repeat walk_at "st"
      have fin : ∀ σ', Ext [1] σ9 σ' → SAt σ' x (st8.dec v) dx nd (.ref b) as ep → P8 .next ⟨⟨L, [], ["self", "nodes", "n2i", "node", "nodeinfo", "stat", "successor", "successor_info"], [some (.ref x), some (.ref t), some (.ref nd), some k, some (.ref p.i), some (.int (-1)), some v, some (.ref p8.i)]⟩ :: fs, σ', g⟩ := fun σ' X S => by
        refine hP8.nx _ _ (X9.trans X) ⟨_, _, rfl, ?_⟩
        rw [List.take_add_one, hv8, List.foldl_append, hst8]; exact S
      by_cases hz0 : st8.np v - 1 = 0
      · have : (st8.np v - 1 == 0) = true := by simp [hz0]
        simp only [this, if_true]
        have hrs : st8.ready.isSome = true := by
          rcases r3 with r3 | r3
          · rw [r3]; exact q3 hr
          · exact r3
        obtain ⟨l8, hl8⟩ := Option.isSome_iff_exists.mp hrs
        have hb9 : σ9 b = some (1, .list l8) := by
          have := S9.rdy
          dsimp only at this
          rw [hl8] at this
          obtain ⟨b', w1, w2⟩ := this
          cases w1; exact w2
        have hlen8 : l8.length ≤ 1000000 := by
          have e1 : st8.rl = l8.length := by unfold SS.rl; rw [hl8]; rfl
          have e2 : ({ st5 with np := fset st5.np k (-2) } : SS).rl = st5.rl := rfl
          have e3 := hN k
          have e4 : ((st5.su k).take i7).length ≤ N := by rw [q2]; exact Nat.le_trans (by rw [List.length_take]; exact Nat.min_le_right ..) e3
          have e5 : (l.take i).length ≤ l.length := by rw [List.length_take]; exact Nat.min_le_right ..
          have e6 := Nat.mul_le_mul_left N e5
          rw [Nat.mul_succ] at hz
          lia
        repeat walk_at "st"
        refine W_getAttr S9.x S9.dx (lw.K ▸ a_ready) sAttrs_nd (by walk_at "mem") ?_
        repeat walk_at "st"
        intro pl
        refine W_meth_list F.slot_list_append F.type_list_append hb9 ?_
        repeat walk_at "st"
        refine All.key hvkey fun ua ea => ?_
        repeat walk_at "st"
        refine ⟨Kp.builtin, W_append hb9 hlen8 (fun σa ea2 => ?_)⟩
        rw [ea] at ea2
        repeat walk_at "st"
        have Sa := S9.setReady (l' := l8 ++ [v]) hl8 rfl
        rw [← ea2] at Sa
        refine fin σa (Ext.own_eq ea2 hb9 (by first | decide | simp)) ?_
        have : st8.dec v = { st8 with np := fset st8.np v (st8.np v - 1), ready := some (l8 ++ [v]) } := by unfold SS.dec; rw [if_pos hz0, hl8]; rfl
        rw [this]; exact Sa
      · have : (st8.np v - 1 == 0) = false := by simp [hz0]
        simp only [this, Bool.false_eq_true, if_false]
        repeat walk_at "st"
        refine fin σ9 Ext.refl ?_
        have : st8.dec v = { st8 with np := fset st8.np v (st8.np v - 1) } := by unfold SS.dec; rw [if_neg hz0]
        rw [this]; exact S9
    · rintro vv σ8 ⟨b4', b5', rfl, S8⟩ X8
      rw [List.take_length] at S8
      exact hPd _ ⟨_, _, σ8, rfl, X8, S8⟩
  · rintro vv σ5 ⟨him, b1, b2, b3, b4, b5, rfl, S5⟩ X5
    rw [List.take_length] at S5
    exact hPc _ ⟨_, σ5, rfl, Nat.le_antisymm hm him, X5, S5⟩
end
end Mine.Internal
namespace Mine.Internal
open PySem PySem.W PyProof.Rows PySem.Calls
theorem bo_active {w : World} : BindOk (KK w) CTS "is_active" 99 := ⟨rfl, rfl, rfl, rfl, rfl, rfl, by decide +kernel⟩
theorem keep_active {w : World} : keepIn (KK w) (.ref 99) = true := by rfl
noncomputable def ERL : Str := "prepare() must be called first"
noncomputable def ADL : Str := "Nodes cannot be added after a call to prepare()"
noncomputable def PRL : Str := "cannot prepare() more than once"
noncomputable def Refused (fs : List Frm) (g : Array GenState) (σ : Addr → Option (Nat × Cell)) (E : Value → AS → Prop) (m : Str) : Prop := ∀ e t T σ', Ext [8] σ σ' → Exc σ' e t (.type "ValueError") [.str m] (some T) → E (.ref e) ⟨fs, σ', g⟩
section
variable {c : Cx} {A : Around} {E : Value → AS → Prop} {fs : List Frm} {σ : Addr → Option (Nat × Cell)} {g : Array GenState} {d : Nat} {x dx nd : Addr} {rv : AV} {as : List NAd} {ep : Nat} {st : SS}
theorem W_RaiseVal {env : Env} {L : Addr} {cl : List (Str × Addr)} {ns : List Str} {gs : List (Str × Value)} {vs : List (Option AV)} {m : Str} {k : Nat} {p1 p2 p3 pos : Pos} {Q : Flow → AS → Prop} {X : Value → AS → Prop} (hE : EnvOk c env L cl ns gs) (hv : (("ValueError" : Str), Value.type "ValueError") ∈ gs) (hh : A.handled = none) (hUx : Ux L fs E X) (h : Refused fs g σ E m) :
    W c A (exec (.Raise (some (.Call (.Name "ValueError" p1) [.Constant (.str m) k p2] [] p3)) none pos) env) Q X ⟨⟨L, cl, ns, vs⟩ :: fs, σ, g⟩ := by
  refine W_Raise F.excCall_ValueError F.excRaise_ValueError hh (W_Glob hE hv ⟨rfl, ?_⟩)
  repeat walk_at "st"
  exact ⟨rfl, by simp, fun e t σ6 X6 he6 hx6 => hUx.ex _ _ _ _ _ _ _ _ _ _ hx6 fun σ7 T X7 hx7 => h e t T σ7 (X6.nil.trans X7) hx7⟩
theorem SAt.late (S : SAt σ x st dx nd rv as ep) (hr : st.ready.isSome = true) : ∃ b, rv = .ref b := by
  obtain ⟨l, hl⟩ := Option.isSome_iff_exists.mp hr
  have := S.rdy; rw [hl] at this; obtain ⟨b, e, _⟩ := this; exact ⟨b, e⟩
theorem prepare_late {R : Result → AS → Prop} (lw : Lw c) (hcy : Glob c "CycleError" (.ref 48)) (hA : AOk A fs (d + 1)) (S : SAt σ x st dx nd rv as ep) (hr : st.ready.isSome = true) (h : Refused fs g σ (fun e => R (.error e)) PRL) : Wk c A (.call (.ref 85) ⟨[.ref x], []⟩) R ⟨fs, σ, g⟩ := by
  obtain ⟨b, rfl⟩ := S.late hr
  refine Wk_call_G lw.K (ns := ["self", "cycle"]) (us := [.ref x]) (gs := [("ValueError", .type "ValueError"), ("CycleError", .ref 48)]) fn_prepare rfl (by kernel_rfl) rfl (.cons (.rest .nil)) (by simp [lw.ValueError, hcy]) hA (fun L env B P X hfr hh hL hA' hout hE hFx hUx => ?_)
  refine W_consG (fun _ _ => ?_)
  repeat walk_at "st"
  refine W_getAttr S.x S.dx (lw.K ▸ a_ready) sAttrs_nd (by walk_at "mem") ?_
  repeat walk_at "st"
  exact W_RaiseVal hE (by walk_at "mem") hh hUx h
end
end Mine.Internal
namespace Mine.Internal
open PySem PySem.W PyProof.Rows PySem.Calls
structure Lv (c : Cx) : Prop extends Lw c where
  CycleError : Glob c "CycleError" (.ref 48)
  TS : Glob c "TopologicalSorter" (.ref 130)
  range : Glob c "range" (.type "range")
  list : Glob c "list" (.type "list")
  sum : Glob c "sum" (.builtin "sum")
  sorted : Glob c "sorted" (.builtin "sorted")
  str : Glob c "str" (.type "str")
  repr : Glob c "repr" (.builtin "repr")
  ring : Glob c "_law_ring" (.ref 139)
  free : Glob c "_law_free" (.ref 144)
  adds : Glob c "_law_adds" (.ref 151)
  added : Glob c "_law_added" (.ref 158)
  first : Glob c "_law_first" (.ref 165)
  walk : Glob c "_law_walk" (.ref 172)
  tell : Glob c "_law_tell" (.ref 177)
  groups : Glob c "_law_groups" (.ref 184)
  stopped : Glob c "_law_stopped" (.ref 191)
  rest : Glob c "_law_rest" (.ref 196)
theorem bo_prepare {w : World} : BindOk (KK w) CTS "prepare" 85 := ⟨rfl, rfl, rfl, rfl, rfl, rfl, by decide +kernel⟩
theorem bo_ready {w : World} : BindOk (KK w) CTS "get_ready" 92 := ⟨rfl, rfl, rfl, rfl, rfl, rfl, by decide +kernel⟩
theorem keep_prepare {w : World} : keepIn (KK w) (.ref 85) = true := by rfl
theorem keep_ready {w : World} : keepIn (KK w) (.ref 92) = true := by rfl
noncomputable def SO (σ : Addr → Option (Nat × Cell)) (x : Addr) (st : SS) : Prop := ∃ dx nd rv as ep, SAt σ x st dx nd rv as ep
theorem SO.ext {σ σ' : Addr → Option (Nat × Cell)} {x : Addr} {st : SS} {C : List Nat} (h : SO σ x st) (e : Ext C σ σ') (h1 : 1 ∉ C) (h2 : 2 ∉ C) : SO σ' x st := by
  obtain ⟨dx, nd, rv, as, ep, S⟩ := h
  exact ⟨dx, nd, rv, as, ep, S.ext e h1 h2⟩
structure Sane (st : SS) : Prop where
  fit : st.Fit 2000
  su : ∀ k s, s ∈ st.su k → s ∈ st.keys
  rd : ∀ l, st.ready = some l → (∀ k ∈ l, k ∈ st.keys) ∧ l.length ≤ 2000
section
variable {st : SS}
end
structure Tx (c : Cx) (A : Around) (env : Env) (hs : List ExceptHandler) (L : Addr) (cl : List (Str × Addr)) (ns : List Str) (fs : List Frm) (g : Array GenState) (Q : Flow → AS → Prop) (E : Value → AS → Prop) (X : Value → AS → Prop) : Prop where
  ex : ∀ e t cls args T vs σ, Exc σ e t cls args (some T) → (∀ σ' T, Ext [8] σ σ' → Exc σ' e t cls args (some T) → W c A (handleBy (.ref e) env hs) Q E ⟨⟨L, cl, ns, vs⟩ :: fs, σ', g⟩) → X (.ref e) ⟨⟨L, cl, ns, vs⟩ :: fs, σ, g⟩
section
variable {c : Cx} {A : Around} {E : Value → AS → Prop} {fs : List Frm} {σ : Addr → Option (Nat × Cell)} {g : Array GenState} {d : Nat} {x : Addr} {st : SS}
theorem W_TryG {env : Env} {outer : List Env} {L : Addr} {cl : List (Str × Addr)} {ns : List Str} {vs : List (Option AV)} {body : List Stmt} {h₀ : ExceptHandler} {hs : List ExceptHandler} {pos : Pos} {Q : Flow → AS → Prop} (hl : AOk A (⟨L, cl, ns, vs⟩ :: fs) d) (hF : A.frames = some (env :: outer)) (hf : env.frame = some L)
    (h : ∀ X, Tx c A env (h₀ :: hs) L cl ns fs g Q E X → W c A (execs body env) Q X ⟨⟨L, cl, ns, vs⟩ :: fs, σ, g⟩) (hn : ∀ a, Q .next a → W c A (execs [] env) Q E a) : W c A (exec (.Try body (h₀ :: hs) [] [] pos) env) Q E ⟨⟨L, cl, ns, vs⟩ :: fs, σ, g⟩ :=
  W_Try (W_mono (h _ ⟨fun e t cls args T vs σ hx q => W_noteFrame hl.vs.link hF hf hx fun σ2 T2 X2 hx2 => W_setFlight hx2 (q σ2 T2 X2 hx2)⟩) (fun f a q => by cases f <;> first | exact hn _ q | exact q) fun _ _ x => x)
end
end Mine.Internal
namespace Mine.Internal
open PySem PySem.W PyProof.Rows PySem.Calls PySem.SeqAt
inductive RingAt (σ : Addr → Option (Nat × Cell)) : Option (List AV) → Value → Prop
  | no : RingAt σ none .none
  | yes {l : List AV} {a : Addr} : σ a = some (0, .list l) → (∀ v ∈ l, KO v) → RingAt σ (some l) (.ref a)
structure LT (σ : Addr → Option (Nat × Cell)) (D : Addr) (k kr : Nat) (as : List Addr) (n : Nat) (f : Nat → List AV) : Prop where
  d : σ D = some (k, .list (as.map AV.ref))
  len : as.length = n
  row : ∀ (j : Nat) (p : Addr), as[j]? = some p → σ p = some (kr, .list (f j))
theorem LT.ext {C : List Nat} {σ σ' : Addr → Option (Nat × Cell)} {D : Addr} {k kr : Nat} {as : List Addr} {n : Nat} {f : Nat → List AV} (h : LT σ D k kr as n f) (e : Ext C σ σ') (h1 : k ∉ C) (h2 : kr ∉ C) : LT σ' D k kr as n f :=
  ⟨e _ _ _ h.d h1, h.len, fun j p hp => e _ _ _ (h.row j p hp) h2⟩
theorem LT.at_ {σ : Addr → Option (Nat × Cell)} {D : Addr} {k kr : Nat} {as : List Addr} {n : Nat} {f : Nat → List AV} (h : LT σ D k kr as n f) {i : Nat} (hi : i < n) : ∃ p, (as.map AV.ref)[i]? = some (.ref p) ∧ as[i]? = some p ∧ σ p = some (kr, .list (f i)) := by
  obtain ⟨p, hp⟩ : ∃ p, as[i]? = some p := ⟨_, List.getElem?_eq_getElem (by rw [h.len]; exact hi)⟩
  exact ⟨p, by rw [List.getElem?_map, hp]; rfl, hp, h.row i p hp⟩
noncomputable def suI (f : Nat → List AV) : AV → List AV
  | .int i => f i.toNat
  | _ => []
section
variable {c : Cx} {A : Around} {E : Value → AS → Prop} {fs : List Frm} {σ : Addr → Option (Nat × Cell)} {g : Array GenState} {d : Nat} {x : Addr}
noncomputable abbrev nsR : List Str := ["order", "after", "stay", "left", "way", "on"]
inductive W1I (fs : List Frm) (g : Array GenState) (L : Addr) (cl : List (Str × Addr)) (od af : Addr) (ks : List AV) (su : AV → List AV) (σ₀ : Addr → Option (Nat × Cell)) (n : Nat) (a : AS) : Prop
  | mk (st : Addr) (S : List AV) (b : Option AV) (σ : Addr → Option (Nat × Cell)) : a = ⟨⟨L, cl, nsR, [some (.ref od), some (.ref af), some (.ref st), b, none, none]⟩ :: fs, σ, g⟩ → S.length = n → σ st = some (0, .list S) → Pruned ks su S → Ext [] σ₀ σ → W1I fs g L cl od af ks su σ₀ n a
inductive W2I (fs : List Frm) (g : Array GenState) (L : Addr) (cl : List (Str × Addr)) (od af st : Addr) (lf : Option AV) (ks : List AV) (su : AV → List AV) (v : AV) (σ₀ : Addr → Option (Nat × Cell)) (n : Nat) (a : AS) : Prop
  | mk (wy : Addr) (way : List AV) (u : AV) (b : Option AV) (σ : Addr → Option (Nat × Cell)) : a = ⟨⟨L, cl, nsR, [some (.ref od), some (.ref af), some (.ref st), lf, some (.ref wy), b]⟩ :: fs, σ, g⟩ → ks.length - way.length = n → σ wy = some (5, .list (way ++ [u])) → WayOk ks su v way u → Ext [5] σ₀ σ → W2I fs g L cl od af st lf ks su v σ₀ n a
set_option maxHeartbeats 1000000 in
theorem ring_spec {od af : Addr} {as : List Addr} {n : Nat} {f : Nat → List AV} {ks : List AV} {su : AV → List AV} {Q : Value → AS → Prop} (lv : Lv c) (hA : AOk A fs (d + 1)) (ho : σ od = some (6, .list ks)) (hD : LT σ af 12 13 as n f) (hn : n ≤ 90000) (hks : ∀ v ∈ ks, ∃ i : Nat, v = .int i ∧ i < n) (es : su = suI f) (R : RgOk ks su)
    (h : ∀ r v σ', RingRes ks su r → RingAt σ' r v → Ext [5] σ σ' → Q v ⟨fs, σ', g⟩) : W c A (call (.ref 139) [.ref od, .ref af]) Q E ⟨fs, σ, g⟩ := by
  refine W_call_GC lv.K (ps := ["order", "after"]) (rs := ["stay", "left", "way", "on"]) (ns := nsR) (us := [.ref od, .ref af]) (gs := [("list", .type "list"), ("len", .builtin "len")]) fn_ring rfl rfl (by kernel_rfl) rfl (.cons (.cons (.rest (.rest (.rest (.rest .nil)))))) (by simp [lv.list, lv.len]) hA (fun L cl env B P X hgl hbl hfr hh hL hA' hout hE hC hFx hUx => ?_)
  have hkk : ∀ v ∈ ks, v.isKey = true := fun v hv => (R.key v hv).key
  refine W_consG (fun _ _ => ?_)
  repeat walk_at "st"
  refine ⟨Kp.type, W_list_seq 0 ⟨6, .inl ho⟩ (by have := R.len; walk_at "le") (fun st h1 σ1 e1 => ?_)⟩
  have X1 : Ext [] σ σ1 := Ext.new_eq e1 h1
  have hst : σ1 st = some (0, .list ks) := at_upd e1
  repeat walk_at "st"
  refine W_WhileG (W1I fs g L cl od af ks su σ1) (fun n a Pw Xw hPw hXw hI => ?_) ks.length ⟨st, ks, none, σ1, rfl, rfl, hst, ⟨List.Sublist.refl _, fun v hv _ => hv⟩, Ext.refl⟩
  obtain ⟨st, S, b, σ2, rfl, rfl, hst, hP, X2⟩ := hI
  have hD2 := hD.ext (X1.trans X2) (by decide) (by decide)
  repeat walk_at "st"
  have hSk : ∀ v ∈ S, v.isKey = true := fun v hv => hkk v (hP.sub.subset hv)
  have hSl : S.length ≤ 90000 := Nat.le_trans hP.sub.length_le R.len
  refine W_AssignComp (x := "v") (gls := []) (caps := ["after", "stay"]) (vs' := fun D => [some (.ref od), some (.ref af), some (.ref st), some (.ref D), none, none])
    (P := fun D σ' => Ext [] σ2 σ' ∧ σ' D = some (0, .list (S.filter (goes su S)))) ⟨rfl, rfl, by decide +kernel⟩ hC hE (fun D => by walk_at "set") (fun use Q' hQ' => ?_) (fun D σ3 pz28 => pz28.elim fun X3 hl => ?_)
  · repeat walk_at "st"
    refine W_iter_list hst (fun it h3 σ3 e3 => ?_)
    refine CompK_loop (k := 0) (gs := []) (gls := []) (caps := ["after", "stay"]) ⟨rfl, rfl, by decide +kernel⟩ hC rfl (by first | decide | simp) hgl hbl (IterOf.list hh) IterSelf.list [] (by first | decide | simp) (by first | decide | simp) (by decide) 0
      (fun i ys σ => ys = (S.take i).filter (goes su S) ∧ σ st = some (0, .list S) ∧ LT σ af 12 13 as n f) (fun i ys σ σ' q e => ⟨q.1, e _ _ _ q.2.1 (by decide), q.2.2.ext e (by decide) (by decide)⟩) h3 e3 ((put_ne e3 (ne_new hst h3)).trans hst) ⟨rfl, hst, hD2⟩ (fun i ys σ q => ?_) ?_ ?_
    · rw [q.1]; exact Nat.le_trans (List.length_filter_le ..) (by rw [List.length_take]; walk_at "le")
    · rintro C cenv i v σ4 ys hCE hCC hg hb ⟨rfl, hs4, hD4⟩ hv4 hsrc Y4
      have hvS := List.mem_of_getElem? hv4
      have kv := hSk v hvS
      have hvk := hP.sub.subset hvS
      obtain ⟨j, ej, hj⟩ := hks v hvk
      obtain ⟨p, hgt, _, hpr⟩ := hD4.at_ hj
      replace hpr : σ4 p = some (13, .list (su v)) := by rw [es, ej]; exact hpr
      have et : (S.take (i + 1)).filter (goes su S) = (S.take i).filter (goes su S) ++ if goes su S v = true then [v] else [] := by
        rw [List.take_add_one, hv4, List.filter_append, Option.toList_some]
        by_cases z : goes su S v = true <;> simp [List.filter_cons, z]
      refine W_tests_one (W_isTrue_Compare1 (W_inStay (L := L) (cl := cl) (ns := nsR) (sc := _) ⟨rfl, rfl, by decide +kernel⟩ (hCC.mono (by first | exact fun _ h => h | decide | simp)) hg hb hh (List.mem_cons_of_mem _ (List.mem_cons_self ..)) (by walk_at "var") hE.nd hs4 (by decide) hpr (by decide) (R.row _) hSk (fun w hw => hkk w (R.ins _ hvk w hw)) (fun Q q => ?_) (fun D σ5 X5 hD5 => ?_) (by intro _; with_unfolding_all rfl)))
      · refine W_Subscript (W_NameCap hCC (List.mem_cons_self ..) (List.mem_cons_of_mem _ (List.mem_cons_self ..)) (by walk_at "var") hE.nd (All.ref (W_Name hCE .here (All.key kv fun u eu => ?_))))
        obtain ⟨tk, rfl⟩ := er_int (eu.trans ej)
        exact ⟨noGet_list hD4.d, W_item_list hD4.d (Int.natCast_nonneg _) (by rw [Int.toNat_natCast]; exact hgt) (by rw [List.length_map, hD4.len]; exact Nat.le_trans hn (by decide)) (All.ref q)⟩
      · repeat walk_at "st"
        refine W_newList 9 (by first | exact Nat.zero_le _ | decide | simp) (fun l6 h6 σ6 e6 => ?_)
        have X6 : Ext [] σ5 σ6 := Ext.new_eq e6 h6
        have hfk : ∀ w ∈ (su v).filter (fun w => decide (w ∈ S)), KO w := fun w hw => R.key w (R.ins v hvk w (List.mem_filter.mp hw).1)
        refine W_neD hA' (.list (X6 _ _ _ hD5 (by decide)) (KO.rds hfk)) (.list (at_upd e6) .nil) (KO.shL hfk).ok Sh.nil ?_
        rw [eqv_nil, show (((su v).filter fun w => decide (w ∈ S)).map kd).isEmpty = ((su v).filter fun w => decide (w ∈ S)).isEmpty by cases (su v).filter (fun w => decide (w ∈ S)) <;> rfl]
        have X56 := (X5.trans X6)
        show W c B (truthy (.bool (goes su S v))) _ _ _
        repeat walk_at "st"
        cases z : goes su S v with
        | true => exact W_Name hCE .here (All.key kv fun u eu => ⟨σ6, rfl, X56, by rw [et, if_pos z, eu], X56 _ _ _ hs4 (by decide), hD4.ext X56 (by decide) (by decide)⟩)
        | false => exact ⟨σ6, rfl, X56, by rw [et, if_neg (by rw [z]; exact Bool.false_ne_true), List.append_nil], X56 _ _ _ hs4 (by decide), hD4.ext X56 (by decide) (by decide)⟩
    · rintro D C vx ys σ4 ⟨rfl, hs4, hD4⟩ Y4 hDn hD'
      rw [List.take_length] at hD'
      exact hQ' D C vx σ4 ⟨Y4, hD'⟩
  · have hst3 := X3 _ _ _ hst (by decide)
    have hfl : (S.filter (goes su S)).length ≤ S.length := List.length_filter_le ..
    repeat walk_at "st"
    refine ⟨Kp.builtin, W_len_list hl (by walk_at "le") (fun t1 => ?_)⟩
    repeat walk_at "st"
    refine ⟨Kp.builtin, W_len_list hst3 (by walk_at "le") (fun t2 => ?_)⟩
    repeat walk_at "st"
    by_cases hq : (S.filter (goes su S)).length = S.length
    · rw [show (((S.filter (goes su S)).length : Int) == (S.length : Int)) = true from beq_iff_eq.mpr (by rw [hq])]
      repeat walk_at "st"
      refine hPw.br _ ?_
      have hps : ∀ y ∈ S, Stay su y := prune_stay fun v hv => goes_iff.mp (filter_len hq v hv)
      have X13 := X1.trans (X2.trans X3)
      clear hXw
      repeat walk_at "st"
      refine W_newList 9 (by first | exact Nat.zero_le _ | decide | simp) (fun l6 h6 σ6 e6 => ?_)
      have X6 : Ext [] σ3 σ6 := Ext.new_eq e6 h6
      have hSko : ∀ w ∈ S, KO w := fun w hw => R.key w (hP.sub.subset hw)
      refine W_eqD hA' (.list (X6 _ _ _ hst3 (by decide)) (KO.rds hSko)) (.list (at_upd e6) .nil) (KO.shL hSko).ok Sh.nil ?_
      rw [eqv_nil]
      cases S with
      | nil =>
        repeat walk_at "st"
        exact h none .none σ6 (.no fun k hk s => List.not_mem_nil (hP.stay k hk s)) .no (X13.trans X6).nil
      | cons v r =>
        repeat walk_at "st"
        have kv := hSk v (by first | decide | simp)
        have hst6 := X6 _ _ _ hst3 (by decide)
        refine ⟨noGet_list hst6, W_item_list hst6 (by decide) (v := v) rfl (by walk_at "le") (All.key kv fun u eu => ?_)⟩
        repeat walk_at "st"
        refine W_newList 5 (by first | exact Nat.zero_le _ | decide | simp) (fun wy h7 σ7 e7 => ?_)
        have X7 : Ext [] σ σ7 := (X13.trans X6).trans (Ext.new_eq e7 h7)
        have hst7 : σ7 st = some (0, .list (v :: r)) := (put_ne e7 (ne_new hst6 h7)).trans hst6
        repeat walk_at "st"
        refine W_WhileG (W2I fs g L cl od af st _ ks su v σ7) (fun n a P3 X3' hP3 hX3 hI => ?_) ks.length ⟨wy, [], v, none, σ7, rfl, rfl, by rw [e7, upd_self]; simp [eu], ⟨.one, by simp, rfl, fun y hy => by rw [List.mem_singleton.mp hy]; exact ⟨hP.sub.subset (by first | decide | simp), hps v (by first | decide | simp)⟩⟩, Ext.refl⟩
        obtain ⟨wy, way, u, b, σ8, rfl, rfl, hwy, O, X8⟩ := hI
        have hD8 := hD.ext (X7.nil.trans X8) (by decide) (by decide)
        have hst8 := X8 _ _ _ hst7 (by decide)
        obtain ⟨hu, sU⟩ := O.st u (by first | decide | simp)
        have ku := hkk u hu
        obtain ⟨w, rr, ef, hF, hw, sw⟩ := way_on R hP hps O
        have kw := hkk w hw
        have hlen : way.length + 1 ≤ ks.length := by have := nodup_le O.nd fun y hy => (O.st y hy).1; simpa using this
        have hkl := R.len
        obtain ⟨j, ej, hj⟩ := hks u hu
        obtain ⟨p, hgt, _, hpr⟩ := hD8.at_ hj
        replace hpr : σ8 p = some (13, .list (su u)) := by rw [es, ej]; exact hpr
        repeat walk_at "st"
        refine W_inStay (L := L) (cl := cl) (ns := nsR) (sc := _) ⟨rfl, rfl, by decide +kernel⟩ (hC.mono (by first | exact fun _ h => h | decide | simp)) hgl hbl hh (List.mem_cons_self ..) (by walk_at "var") hE.nd hst8 (by decide) hpr (by decide) (R.row _) hSk (fun w hw => hkk w (R.ins _ hu w hw)) (fun Q q => ?_) (fun D σ9 X9 hD9 => ?_) (by intro _; with_unfolding_all rfl)
        · repeat walk_at "st"
          refine ⟨noGet_list hwy, W_last_list hwy (by walk_at "le") (All.key ku fun u2 eu2 => ?_)⟩
          obtain ⟨tk, rfl⟩ := er_int (eu2.trans ej)
          exact ⟨noGet_list hD8.d, W_item_list hD8.d (Int.natCast_nonneg _) (by rw [Int.toNat_natCast]; exact hgt) (by rw [List.length_map, hD8.len]; exact Nat.le_trans hn (by decide)) (All.ref q)⟩
        · rw [ef] at hD9
          have hrl : (w :: rr).length ≤ 90000 := by rw [← ef]; exact Nat.le_trans (List.length_filter_le ..) (R.row u)
          have hwy9 := X9 _ _ _ hwy (by decide)
          have hwk : ∀ y ∈ way ++ [u], y.isKey = true := fun y hy => hkk y (O.st y hy).1
          repeat walk_at "st"
          refine ⟨noGet_list hD9, W_item_list hD9 (by decide) (v := w) rfl (by walk_at "le") (All.key kw fun u2 eu2 => ?_)⟩
          repeat walk_at "st"
          rw [eu2]
          repeat walk_at "st"
          refine All.key kw fun u3 eu3 => ?_
          repeat walk_at "st"
          refine W_in_list hwy9 (by rw [eu3]; exact kw) hwk ?_
          rw [eu3]
          by_cases hin : w ∈ way ++ [u]
          · rw [decide_eq_true hin]
            obtain ⟨pp, q, e, hpp⟩ := first_at hin
            have hpl : pp.length ≤ (way ++ [u]).length := by rw [e, List.length_append]; exact Nat.le_add_right _ _
            have hwl : (way ++ [u]).length ≤ 90000 := by rw [List.length_append]; exact Nat.le_trans hlen hkl
            refine W_truthy_bool (ite_t rfl (W_consG fun _ _ => W_Return_some (W_BinOp (W_slice_from 9 ?_))))
            repeat walk_at "st"
            intro pl
            refine W_meth_list F.slot_list_index F.type_list_index hwy9 ?_
            repeat walk_at "st"
            refine All.key kw fun u4 eu4 => ?_
            repeat walk_at "st"
            refine ⟨Kp.builtin, W_index hwy9 (by walk_at "le") (by rw [eu4]; exact kw) hwk (j := pp.length) (by rw [eu4, e]; simp) (fun m hm z => ?_) (fun t5 => ?_)⟩
            · rw [e, List.getElem?_append_left hm, eu4] at z
              exact hpp (List.mem_of_getElem? z)
            repeat walk_at "st"
            refine SlAt.lo (slOwn hwy9) (by lia) (Int.natCast_nonneg _) hpl fun l10 h10 σ10 e10 => ?_
            dsimp only at h10 e10 ⊢
            rw [Int.toNat_natCast, e, List.drop_left] at e10
            repeat walk_at "st"
            refine All.key kw fun u5 eu5 => ?_
            repeat walk_at "st"
            refine W_newList 9 (by first | exact Nat.zero_le _ | decide | simp) (fun l11 h11 σ11 e11 => ?_)
            have n1 : l10 ≠ l11 := ne_new (at_upd e10) h11
            have hql : (w :: q).length ≤ 90000 := by rw [e, List.length_append] at hwl; lia
            refine W_list_add 0 ((put_ne e11 n1).trans (at_upd e10)) (at_upd e11) (by rw [List.length_map]; exact Nat.le_trans (Nat.add_le_add_right hql 1) (by decide)) (fun l12 h12 σ12 e12 => ?_)
            repeat walk_at "st"
            have hX : Ext [5] σ σ12 := X7.nil.trans (X8.trans (X9.nil.trans (Ext.nil (by rw [e12]; refine Ext.trans ?_ (Ext.upd_new h12); rw [e11]; refine Ext.trans ?_ (Ext.upd_new h11); exact Ext.new_eq e10 h10))))
            refine hP3.re _ _ ?_
            repeat walk_at "st"
            refine h (some (w :: q ++ [w])) (.ref l12) σ12 (way_end R hP O hF e) (.yes (by rw [e12, upd_self]; simp [eu5]) fun y hy => ?_) hX
            rcases List.mem_append.mp hy with hy | hy
            · exact R.key y (O.st y (by rw [e]; exact List.mem_append_right _ hy)).1
            · rw [List.mem_singleton.mp hy]; exact R.key w hw
          · rw [decide_eq_false hin]
            repeat walk_at "st"
            intro pl
            refine W_meth_list F.slot_list_append F.type_list_append hwy9 ?_
            repeat walk_at "st"
            refine All.key kw fun u4 eu4 => ?_
            repeat walk_at "st"
            refine ⟨Kp.builtin, W_append hwy9 (by rw [List.length_append]; exact Nat.le_trans hlen (Nat.le_trans hkl (by decide))) (fun σ10 e10 => ?_)⟩
            repeat walk_at "st"
            refine hP3.nx _ ⟨ks.length - (way ++ [u]).length, by rw [List.length_append]; show ks.length - (way.length + 1) < _; lia, wy, way ++ [u], w, _, σ10, rfl, rfl, by rw [e10, upd_self, eu4], way_more O hF hw sw hin, X8.trans (X9.nil.trans (Ext.own_eq e10 hwy9 (by decide)))⟩
    · rw [show (((S.filter (goes su S)).length : Int) == (S.length : Int)) = false from beq_eq_false_iff_ne.mpr fun z => hq (Int.ofNat.inj z)]
      repeat walk_at "st"
      exact hPw.nx _ ⟨_, Nat.lt_of_le_of_ne hfl hq, D, _, _, σ3, rfl, rfl, hl, hP.step R, X2.trans X3⟩
end
end Mine.Internal
namespace Mine.Internal
open PySem PySem.W PyProof.Rows PySem.Calls PySem.F PySem.SeqAt
@[reducible] noncomputable def iv (v : Nat) : AV := .int v
@[reducible] noncomputable def IV (l : List Nat) : List AV := l.map iv
noncomputable def tab (n : Nat) (f : Nat → AV) : List AV := (List.range n).map f
theorem tab_len {n : Nat} {f : Nat → AV} : (tab n f).length = n := by simp [tab]
theorem tab_at {n i : Nat} {f : Nat → AV} (h : i < n) : (tab n f)[i]? = some (f i) := by simp [tab, h]
theorem IV_key {l : List Nat} : ∀ v ∈ IV l, v.isKey = true := fun v hv => by
  obtain ⟨i, _, rfl⟩ := List.mem_map.mp hv; rfl
theorem IV_at {l : List Nat} {i : Nat} {v : AV} (h : (IV l)[i]? = some v) : ∃ w, v = iv w ∧ l[i]? = some w := by
  rw [List.getElem?_map] at h
  obtain ⟨w, h1, h2⟩ := map_some_of h
  exact ⟨w, h2.symm, h1⟩
theorem iv_mem {l : List Nat} {v : Nat} : iv v ∈ IV l ↔ v ∈ l := by
  rw [List.mem_map]
  exact ⟨fun pz29 => pz29.elim fun w pz30 => pz30.elim fun h e => by rwa [← Int.ofNat.inj (AV.int.inj e)], fun h => ⟨v, h, rfl⟩⟩
theorem take_snoc {α : Type} {l : List α} {i : Nat} {v : α} (h : l[i]? = some v) : l.take (i + 1) = l.take i ++ [v] := by
  rw [List.take_add_one, h]; rfl
theorem fmap_snoc {α β : Type} {l : List α} {i : Nat} {v : α} {F : α → Option β} (h : l[i]? = some v) : (l.take (i + 1)).filterMap F = (l.take i).filterMap F ++ (F v).toList := by
  rw [take_snoc h, List.filterMap_append]
  cases hF : F v <;> simp [hF]
theorem intsFrom0 {n : Nat} : intsFrom 0 n = IV (List.range n) := by
  unfold intsFrom
  exact List.map_congr_left fun i _ => by rw [Int.zero_add]
theorem rng_at {n i : Nat} {v : AV} (h : (IV (List.range n))[i]? = some v) : v = iv i ∧ i < n := by
  obtain ⟨w, e, h⟩ := IV_at h
  have hi := (List.getElem?_eq_some_iff.mp h).1
  rw [List.length_range] at hi
  rw [List.getElem?_range hi] at h
  cases h; exact ⟨e, hi⟩
theorem nat_beq {a b : Nat} : ((a : Int) == (b : Int)) = (a == b) := by
  rw [Bool.eq_iff_iff, beq_iff_eq, beq_iff_eq]; exact Int.ofNat_inj
theorem nat_bne {a b : Nat} : ((a : Int) != (b : Int)) = (a != b) := by unfold bne; rw [nat_beq]
section
variable {c : Cx} {A : Around} {E : Value → AS → Prop} {a : AS} {env : Env} {fs : List Frm} {σ : Addr → Option (Nat × Cell)} {g : Array GenState} {k : Nat}
  {sc : Scope} {x : Str} {gls caps : List Str} {cl : List (Str × Addr)}
theorem IterOf.range0 {n : Nat} (hh : A.handled = none) : IterOf c A (IV (List.range n)) k (fun _ => True) (rangeIt 0 n) := intsFrom0 ▸ IterOf.range hh
theorem W_itemM {α : Type} {f : α → AV} {l : List α} {D : Addr} {i : Nat} {t : Tok} {v : α} {Q : Value → AS → Prop} (hl : a.σ D = some (k, .list (l.map f))) (hv : l[i]? = some v) (hz : l.length ≤ 1000000)
    (h : All (f v) (fun u => Q u a)) : (∀ s, St c a s → Looks (model c.prog c.w) s.heap (getitemInPython (.ref D)) false) ∧ W c A (getItem (.ref D) (.int i t)) Q E a :=
  ⟨noGet_list hl, W_item_list hl (Int.natCast_nonneg _) (v := f v) (by rw [Int.toNat_natCast, List.getElem?_map, hv]; rfl) (by rw [List.length_map]; exact hz) h⟩
theorem W_itemT {f : Nat → AV} {D : Addr} {n i : Nat} {t : Tok} {Q : Value → AS → Prop} (hl : a.σ D = some (k, .list (tab n f))) (hv : i < n) (hz : n ≤ 1000000)
    (h : All (f i) (fun u => Q u a)) : (∀ s, St c a s → Looks (model c.prog c.w) s.heap (getitemInPython (.ref D)) false) ∧ W c A (getItem (.ref D) (.int i t)) Q E a :=
  W_itemM hl (List.getElem?_range hv) (by rw [List.length_range]; exact hz) h
theorem W_iter_range0 {r : Addr} {n : Nat} {Q : Value → AS → Prop} (hr : σ r = some (k, rangeCell 0 n)) (hn : n ≤ 1000000) (h : ∀ it, σ it = none → ∀ σ', σ' = upd σ it (some (9, rangeIt 0 n 0)) → Q (.ref it) ⟨fs, σ', g⟩) : W c A (pyIter (.ref r)) Q E ⟨fs, σ, g⟩ :=
  W_iter_range hr (by decide) (by decide) (by walk_at "le") (by walk_at "le") fun it h1 σ' e => h it h1 σ' (by rw [e, Int.sub_zero, Int.toNat_natCast])
theorem W_pow2 {v : Nat} {t u : Tok} {Q : Value → AS → Prop} (hv : v ≤ 1000) (h : ∀ t, Q (.int ((2 ^ v : Nat) : Int) t) a) : W c A (binaryOp .Pow (.int 2 t) (.int v u)) Q E a :=
  W_pow (Int.natCast_nonneg _) (by walk_at "le") (by decide) fun t => by rw [Int.toNat_natCast, show ((2 : Int) ^ v) = ((2 ^ v : Nat) : Int) from (Int.natCast_pow 2 v).symm]; exact h t
theorem W_divN {i j : Nat} {t u : Tok} {Q : Value → AS → Prop} (hj : j ≠ 0) (hb : j.log2 < 9000) (h : ∀ t, Q (.int ((i / j : Nat) : Int) t) a) : W c A (binaryOp .FloorDiv (.int i t) (.int j u)) Q E a :=
  W_floordiv (fun q => hj (Int.ofNat_eq_zero.mp q)) hb fun t => by rw [← Int.ofNat_fdiv]; exact h t
theorem W_modN {i j : Nat} {t u : Tok} {Q : Value → AS → Prop} (hj : j ≠ 0) (h : ∀ t, Q (.int ((i % j : Nat) : Int) t) a) : W c A (binaryOp .Mod (.int i t) (.int j u)) Q E a :=
  W_mod (fun q => hj (Int.ofNat_eq_zero.mp q)) fun t => by rw [Int.fmod_eq_emod_of_nonneg _ (Int.natCast_nonneg _), ← Int.natCast_emod]; exact h t
theorem CompK_out {elt iter : Expr} {px : Pos} {ifs : List Expr} {pos : Pos} {use : Option (Value → Sem Unit)} {it : Addr} {vs : List AV} {src : (Addr → Option (Nat × Cell)) → Prop} {cell : Nat → Cell} {σ₀ σ₁ : Addr → Option (Nat × Cell)} {gs : List (Str × Value)} {Q : Value → AS → Prop}
    (h : CScope sc x gls caps) (hc : CapOk env cl caps) (hg : gs.map (·.1) = gls) (hglob : ∀ p ∈ gs, Glob c p.1 p.2) (hgl : env.globals = mainGlobals) (hbl : env.builtins = builtinsNs)
    (IO : IterOf c A vs k src cell) (IS : IterSelf c A cell) (hk9 : k ≠ 9) (kd : Nat) (out : Nat → List AV) (K : (Addr → Option (Nat × Cell)) → Prop) (hK : ∀ σ σ', K σ → Ext [9] σ σ' → K σ')
    (hit : σ₀ it = none) (e₁ : σ₁ = upd σ₀ it (some (9, cell 0))) (hsrc : src σ₁) (h0 : out 0 = []) (hK0 : K σ₀) (hlen : ∀ i, i ≤ vs.length → (out i).length ≤ 1000000)
    (turn : ∀ C cenv i v σ, EnvOk c cenv C [] [x] gs → CapOk cenv cl caps → cenv.globals = mainGlobals → cenv.builtins = builtinsNs → K σ → vs[i]? = some v → Ext [] σ₀ σ →
      W c A (testsOf ifs cenv) (fun ok a' => if ok then W c A (eval elt cenv) (fun y a'' => ∃ σ', a'' = ⟨⟨C, [], [x], [some v]⟩ :: fs, σ', g⟩ ∧ Ext [] σ σ' ∧ out (i + 1) = out i ++ [er y]) (fun _ _ => False) a'
        else ∃ σ', a' = ⟨⟨C, [], [x], [some v]⟩ :: fs, σ', g⟩ ∧ Ext [] σ σ' ∧ out (i + 1) = out i) (fun _ _ => False) ⟨⟨C, [], [x], [some v]⟩ :: fs, σ, g⟩)
    (fin : ∀ D C vx σ, K σ → Ext [] σ₀ σ → σ₀ D = none → σ D = some (kd, .list (out vs.length)) → UseK c A fs g x Q E D C vx σ use) :
    CompK c A env elt iter x px ifs sc pos caps use (.ref it) Q E ⟨fs, σ₁, g⟩ := by
  refine CompK_loop h hc hg hglob hgl hbl IO IS [] (by first | decide | simp) (by first | decide | simp) hk9 kd (fun i ys σ => ys = out i ∧ i ≤ vs.length ∧ K σ) (fun i ys σ σ' q e => ⟨q.1, q.2.1, hK _ _ q.2.2 e⟩) hit e₁ hsrc ⟨h0.symm, Nat.zero_le _, hK0⟩ (fun i ys σ q => by rw [q.1]; exact hlen i q.2.1) ?_ ?_
  · rintro C cenv i v σ ys hCE hCC hgl' hbl' ⟨rfl, hi, hKσ⟩ hv hs X
    have hlt : i + 1 ≤ vs.length := (List.getElem?_eq_some_iff.mp hv).1
    refine W_mono (turn C cenv i v σ hCE hCC hgl' hbl' hKσ hv X) (fun ok a' q => ?_) fun _ _ x => x
    cases ok with
    | true => exact W_mono q (fun y a'' pz31 => pz31.elim fun σ' pz32 => pz32.elim fun e1 pz33 => pz33.elim fun e2 e3 => ⟨σ', e1, e2, e3.symm, hlt, hK _ _ hKσ (e2.mono (by first | decide | simp))⟩) fun _ _ x => x
    | false =>
      obtain ⟨σ', e1, e2, e3⟩ := q
      exact ⟨σ', e1, e2, e3.symm, hlt, hK _ _ hKσ (e2.mono (by first | decide | simp))⟩
  · rintro D C vx ys σ ⟨rfl, _, hKσ⟩ X hD hD'
    exact fin D C vx σ hKσ X hD hD'
end
end Mine.Internal
namespace Mine.Internal
open PySem PySem.W PyProof.Rows PySem.Calls PySem.F PySem.SeqAt
noncomputable def doneM (fi : List Nat) : Nat := (fi.map (2 ^ ·)).sum
noncomputable def behindF (need : Nat → Nat) (fi : List Nat) (v t : Nat) : Bool := need v / 2 ^ (fi.getD t 0) % 2 == 1
noncomputable def behindL (need : Nat → Nat) (fi : List Nat) (v : Nat) : List Nat := (List.range fi.length).filter (behindF need fi v)
noncomputable def rowF (need : Nat → Nat) (lt : Nat → Nat → Nat) (fi : List Nat) (place v : Nat) : List Int := match (behindL need fi v).getLast? with
  | none => [-1, place, v]
  | some t => [t, lt (fi.getD t 0) v, v]
noncomputable def okF (need : Nat → Nat) (gv fi : List Nat) (v : Nat) : Bool := !(decide (v ∈ gv)) && (need v &&& doneM fi) == need v
noncomputable def rowAt (need : Nat → Nat) (lt : Nat → Nat → Nat) (kn gv fi : List Nat) (i : Nat) : Option (List Int) := if okF need gv fi (kn.getD i 0) then some (rowF need lt fi i (kn.getD i 0)) else none
noncomputable def rowsF (need : Nat → Nat) (lt : Nat → Nat → Nat) (kn gv fi : List Nat) : List (List Int) := (List.range kn.length).filterMap (rowAt need lt kn gv fi)
theorem fn_free {w : World} : FnOkC (KK w) 144 [("known", false), ("given", false), ("finished", true), ("need", true), ("last", false), ("v", true), ("done", false), ("rows", false), ("place", false), ("behind", false)] ["sum", "range", "len", "sorted"] := ⟨rfl, rfl, rfl, rfl, rfl, rfl, rfl, rfl, rfl, rfl, by decide +kernel⟩
noncomputable abbrev nsF : List Str := ["known", "given", "finished", "need", "last", "v", "done", "rows", "place", "behind"]
theorem getD_at {α : Type} {l : List α} {i : Nat} {v d : α} (h : l[i]? = some v) : l.getD i d = v := by rw [List.getD_eq_getElem?_getD, h]; rfl
theorem getD_l {α : Type} {l m : List α} {i : Nat} {d : α} (h : i < l.length) : (l ++ m).getD i d = l.getD i d := by
  rw [List.getD_eq_getElem?_getD, List.getD_eq_getElem?_getD, List.getElem?_append_left h]
theorem getD_r {α : Type} {l : List α} {x d : α} : (l ++ [x]).getD l.length d = x := by
  rw [List.getD_eq_getElem?_getD, List.getElem?_append_right (Nat.le_refl _), Nat.sub_self]; rfl
theorem sum_cast : ∀ {l : List Nat}, (l.map fun v => ((2 ^ v : Nat) : Int)).sum = ((doneM l : Nat) : Int)
  | [] => rfl
  | v :: l => by
    rw [List.map_cons, List.sum_cons, sum_cast]
    unfold doneM
    rw [List.map_cons, List.sum_cons, Int.natCast_add]
theorem rowF_len {need : Nat → Nat} {lt : Nat → Nat → Nat} {fi : List Nat} {p v : Nat} : (rowF need lt fi p v).length = 3 := by unfold rowF; split <;> rfl
theorem rows3 {need : Nat → Nat} {lt : Nat → Nat → Nat} {kn gi fi : List Nat} (i : Nat) (h : i < (rowsF need lt kn gi fi).length) : ((rowsF need lt kn gi fi).getD i []).length = 3 := by
  rw [List.getD_eq_getElem?_getD, List.getElem?_eq_getElem h]
  obtain ⟨j, _, e⟩ := List.mem_filterMap.mp (List.getElem_mem h)
  unfold rowAt at e
  split at e
  · exact Option.some.inj e ▸ rowF_len
  · cases e
inductive FrJ (L : Addr) (kv gv fv nv lv rw : Addr) (dm : Nat) (rs : List (List Int)) (vv : List (Option AV)) (σ : Addr → Option (Nat × Cell)) : Prop
  | mk (as : List Addr) (b1 b2 b3 : Option AV) : vv = [some (.ref kv), some (.ref gv), some (.ref fv), some (.ref nv), some (.ref lv), b1, some (.int dm), some (.ref rw), b2, b3] → σ rw = some (5, .list (as.map AV.ref)) → as.length = rs.length → (∀ i, i < as.length → σ (as.getD i 0) = some (0, .list (I2 (rs.getD i [])))) → FrJ L kv gv fv nv lv rw dm rs vv σ
theorem FrJ.ext {L kv gv fv nv lv rw : Addr} {dm : Nat} {rs : List (List Int)} {vv : List (Option AV)} {σ σ' : Addr → Option (Nat × Cell)} (h : FrJ L kv gv fv nv lv rw dm rs vv σ) (e : Ext [9] σ σ') : FrJ L kv gv fv nv lv rw dm rs vv σ' := by
  obtain ⟨as, b1, b2, b3, h1, h2, h3, h4⟩ := h
  exact ⟨as, b1, b2, b3, h1, e _ _ _ h2 (by decide), h3, fun i hi => e _ _ _ (h4 i hi) (by decide)⟩
section
variable {c : Cx} {A : Around} {E : Value → AS → Prop} {fs : List Frm} {σ : Addr → Option (Nat × Cell)} {g : Array GenState} {d : Nat}
set_option maxHeartbeats 1000000 in
theorem free_spec {kv gv fv nv lv : Addr} {k1 k2 k3 : Nat} {ls : List Addr} {n : Nat} {kn gi fi fr : List Nat} {need : Nat → Nat} {lt : Nat → Nat → Nat} {Q : Value → AS → Prop} (l : Lv c) (hA : AOk A fs (d + 4))
    (h1 : σ kv = some (k1, .list (IV kn))) (c1 : k1 ∉ [5, 9]) (h2 : σ gv = some (k2, .list (IV gi))) (c2 : k2 ∉ [5, 9]) (h3 : σ fv = some (k3, .list (IV fi))) (c3 : k3 ∉ [5, 9])
    (h4 : σ nv = some (11, .list (tab n fun v => iv (need v)))) (h5 : LT σ lv 14 15 ls n fun p => tab n fun v => iv (lt p v))
    (hn : n ≤ 60) (hkn : ∀ v ∈ kn, v < n) (hkl : kn.length ≤ 60) (hfi : ∀ v ∈ fi, v < n) (hfl : fi.length ≤ 1000) (hgl : gi.length ≤ 1000)
    (T : Tot (fun i j => ltL ((rowsF need lt kn gi fi).getD i []) ((rowsF need lt kn gi fi).getD j [])) (rowsF need lt kn gi fi).length)
    (hfr : ∀ p, Sorted (rowsF need lt kn gi fi) (rowsF need lt kn gi fi).length p → (p.toList.map fun i => ((rowsF need lt kn gi fi).getD i []).getD 2 0) = fr.map fun (v : Nat) => (v : Int))
    (h : ∀ r σ', Ext [5] σ σ' → σ' r = some (0, .list (IV fr)) → Q (.ref r) ⟨fs, σ', g⟩) : W c A (call (.ref 144) [.ref kv, .ref gv, .ref fv, .ref nv, .ref lv]) Q E ⟨fs, σ, g⟩ := by
  refine W_call_GC (d := d + 3) l.K (ps := ["known", "given", "finished", "need", "last"]) (rs := ["v", "done", "rows", "place", "behind"]) (ns := nsF) (us := [.ref kv, .ref gv, .ref fv, .ref nv, .ref lv]) (gs := [("sum", .builtin "sum"), ("range", .type "range"), ("len", .builtin "len"), ("sorted", .builtin "sorted")])
    fn_free rfl rfl (by kernel_rfl) rfl (.cons (.cons (.cons (.cons (.cons (.rest (.rest (.rest (.rest (.rest .nil)))))))))) (by simp [l.sum, l.range, l.len, l.sorted]) hA (fun L cl env B P X hgl' hbl hfr' hh hL hA' hout hE hC hFx hUx => ?_)
  have hnd := hE.nd
  simp only [List.mem_cons, List.not_mem_nil, or_false, not_or] at c1 c2 c3
  refine W_consG (fun _ _ => ?_)
  repeat walk_at "st"
  refine W_ListComp (x := "v") (gls := []) (caps := []) ⟨rfl, rfl, by decide +kernel⟩ (hC.mono (by first | exact fun _ h => h | decide | simp)) ?_
  repeat walk_at "st"
  refine W_iter_list h3 (fun it ha σa ea => ?_)
  refine CompK_out (k := k3) (gs := []) (gls := []) (caps := []) ⟨rfl, rfl, by decide +kernel⟩ (hC.mono (by first | exact fun _ h => h | decide | simp)) rfl (by first | decide | simp) hgl' hbl (IterOf.list hh) IterSelf.list (fun q => c3.2 q) 0 (fun i => (fi.take i).map fun v => iv (2 ^ v)) (fun _ => True) (fun _ _ _ _ => trivial) ha ea ((put_ne ea (ne_new h3 ha)).trans h3) rfl trivial (fun i _ => by rw [List.length_map]; exact Nat.le_trans (List.length_take_le' ..) (Nat.le_trans hfl (by decide))) ?_ ?_
  · intro C cenv i v σ3 hCE hCC hg hb _ hv Y3
    obtain ⟨w, rfl, hw⟩ := IV_at hv
    have hwn := hfi w (List.mem_of_getElem? hw)
    refine W_tests_nil ?_
    repeat walk_at "st"
    refine W_pow2 (by walk_at "le") (fun t => ⟨σ3, rfl, Ext.refl, ?_⟩)
    rw [take_snoc hw, List.map_append]; rfl
  intro D C vx σ3 _ Y3 _ hD
  have hlen : (IV fi).length = fi.length := List.length_map ..
  rw [hlen, List.take_length] at hD
  refine UseK.no ?_
  repeat walk_at "st"
  refine ⟨Kp.builtin, W_sum (is := fi.map fun v => ((2 ^ v : Nat) : Int)) hh (k := 0) (by rw [List.map_map]; exact hD) (fun t4 => ?_)⟩
  rw [sum_cast]
  replace h1 := Y3 _ _ _ h1 List.not_mem_nil
  replace h2 := Y3 _ _ _ h2 List.not_mem_nil
  replace h3 := Y3 _ _ _ h3 List.not_mem_nil
  replace h4 := Y3 _ _ _ h4 List.not_mem_nil
  replace h5 := h5.ext Y3 List.not_mem_nil List.not_mem_nil
  clear hD
  repeat walk_at "st"
  refine W_newList 5 (by first | exact Nat.zero_le _ | decide | simp) (fun rw' hb σ4 eb => ?_)
  have X4 : Ext [] σ3 σ4 := Ext.new_eq eb hb
  replace h1 := X4 _ _ _ h1 List.not_mem_nil
  replace h2 := X4 _ _ _ h2 List.not_mem_nil
  replace h3 := X4 _ _ _ h3 List.not_mem_nil
  replace h4 := X4 _ _ _ h4 List.not_mem_nil
  replace h5 := h5.ext X4 List.not_mem_nil List.not_mem_nil
  repeat walk_at "st"
  refine W_For ?_
  repeat walk_at "st"
  have hlk : (IV kn).length = kn.length := List.length_map ..
  refine ⟨Kp.builtin, W_len_list h1 (by rw [hlk]; walk_at "le") (fun t5 => ?_)⟩
  rw [hlk]
  repeat walk_at "st"
  refine ⟨Kp.type, W_range1 (fun rg hc σ5 ec => ?_)⟩
  have X5 : Ext [] σ4 σ5 := Ext.new_eq ec hc
  repeat walk_at "st"
  refine W_iter_range0 (at_upd ec) (by walk_at "le") (fun it2 hd σ6 ed => ?_)
  have c15 : k1 ∉ [5] := fun q => c1.1 (List.mem_singleton.mp q)
  have c25 : k2 ∉ [5] := fun q => c2.1 (List.mem_singleton.mp q)
  have c35 : k3 ∉ [5] := fun q => c3.1 (List.mem_singleton.mp q)
  refine Wk_loopG (IterOf.range0 (k := 0) hh) [5] (by decide) (by decide) (fun i vv σ => FrJ L kv gv fv nv lv rw' (doneM fi) (((List.range kn.length).take i).filterMap (rowAt need lt kn gi fi)) vv σ) (fun i vv σ σ' q e => q.ext e) hd ed trivial
    ⟨[], _, _, _, rfl, X5 _ _ _ (at_upd eb) List.not_mem_nil, rfl, fun i hi => absurd hi (Nat.not_lt_zero i)⟩ ?_ ?_
  · rintro i v vv σ7 u7 P7 E7 hP7 hE7 ⟨as, b1, b2, b3, rfl, hrw, hal, hrow⟩ hv eu _ Y7
    obtain ⟨rfl, hi⟩ := rng_at hv
    obtain ⟨tu, rfl⟩ := er_int eu
    have X7 : Ext [5] σ4 σ7 := X5.nil.trans Y7
    have g1 := X7 _ _ _ h1 c15
    have g2 := X7 _ _ _ h2 c25
    have g3 := X7 _ _ _ h3 c35
    have g4 := X7 _ _ _ h4 (by decide)
    have g5 := h5.ext X7 (by decide) (by decide)
    obtain ⟨v, hvk⟩ : ∃ v, kn[i]? = some v := ⟨_, List.getElem?_eq_getElem hi⟩
    have hvn := hkn v (List.mem_of_getElem? hvk)
    have hvd : kn.getD i 0 = v := getD_at hvk
    have hti : (List.range kn.length)[i]? = some i := List.getElem?_range hi
    have hrl : (((List.range kn.length).take i).filterMap (rowAt need lt kn gi fi)).length ≤ 60 := Nat.le_trans (List.length_filterMap_le ..) (Nat.le_trans (List.length_take_le' ..) (by rw [List.length_range]; exact hkl))
    repeat walk_at "st"
    refine (W_itemM g1 hvk (by walk_at "le") ?_)
    repeat walk_at "st"
    refine W_in_list g2 (by rfl) IV_key ?_
    have skip : okF need gi fi v = false → FrJ L kv gv fv nv lv rw' (doneM fi) (((List.range kn.length).take (i + 1)).filterMap (rowAt need lt kn gi fi)) [some (.ref kv), some (.ref gv), some (.ref fv), some (.ref nv), some (.ref lv), some (iv v), some (.int (doneM fi)), some (.ref rw'), some (iv i), b3] σ7 := fun q => by
      refine ⟨as, _, _, _, rfl, hrw, ?_, ?_⟩ <;> rw [fmap_snoc hti] <;> (unfold rowAt; rw [hvd, q]) <;> simp only [Bool.false_eq_true, if_false, Option.toList_none, List.append_nil] <;> assumption
    by_cases hg : v ∈ gi
    · rw [decide_eq_true (iv_mem.mpr hg)]
      repeat walk_at "st"
      exact hP7.co _ σ7 Ext.refl (skip (by unfold okF; rw [decide_eq_true hg]; rfl))
    rw [decide_eq_false (fun q => hg (iv_mem.mp q))]
    repeat walk_at "st"
    refine (W_itemT g4 hvn (by walk_at "le") ?_)
    repeat walk_at "st"
    refine W_band (fun t8 => ?_)
    repeat walk_at "st"
    refine (W_itemT g4 hvn (by walk_at "le") ?_)
    repeat walk_at "st"
    rw [nat_bne]
    cases hnb : (need v &&& doneM fi) == need v with
    | false =>
      rw [show ((need v &&& doneM fi) != need v) = true by unfold bne; rw [hnb]; rfl]
      repeat walk_at "st"
      exact hP7.co _ σ7 Ext.refl (skip (by unfold okF; rw [hnb, Bool.and_false]))
    | true =>
    rw [show ((need v &&& doneM fi) != need v) = false by unfold bne; rw [hnb]; rfl]
    have hok : okF need gi fi v = true := by unfold okF; rw [hnb, decide_eq_false hg]; rfl
    clear skip
    repeat walk_at "st"
    refine W_AssignComp (x := "t") (gls := []) (caps := ["finished", "need", "v"]) (vs' := fun D => [some (.ref kv), some (.ref gv), some (.ref fv), some (.ref nv), some (.ref lv), some (iv v), some (.int (doneM fi)), some (.ref rw'), some (iv i), some (.ref D)])
      (P := fun D σ' => Ext [] σ7 σ' ∧ σ' D = some (0, .list (IV (behindL need fi v)))) ⟨rfl, rfl, by decide +kernel⟩ (hC.mono (by first | exact fun _ h => h | decide | simp)) hE (fun D => by walk_at "set") (fun use Q' hQ' => ?_) (fun D σ8 pz1 => pz1.elim fun X8 hD => ?_)
    · repeat walk_at "st"
      refine ⟨Kp.builtin, W_len_list g3 (by rw [hlen]; walk_at "le") (fun t9 => ?_)⟩
      rw [hlen]
      repeat walk_at "st"
      refine ⟨Kp.type, W_range1 (fun rg2 he σ8 ee => ?_)⟩
      have X8 : Ext [] σ7 σ8 := Ext.new_eq ee he
      repeat walk_at "st"
      refine W_iter_range0 (at_upd ee) (by walk_at "le") (fun it3 hf σ9 ef => ?_)
      refine CompK_out (k := 0) (gs := []) (gls := []) (caps := ["finished", "need", "v"]) ⟨rfl, rfl, by decide +kernel⟩ (hC.mono (by first | exact fun _ h => h | decide | simp)) rfl (by first | decide | simp) hgl' hbl (IterOf.range0 hh) IterSelf.range (by decide) 0 (fun j => IV (((List.range fi.length).take j).filter (behindF need fi v)))
        (fun σ => σ nv = some (11, .list (tab n fun v => iv (need v))) ∧ σ fv = some (k3, .list (IV fi))) (fun σ σ' q e => ⟨e _ _ _ q.1 (by decide), e _ _ _ q.2 (fun z => c3.2 (List.mem_singleton.mp z))⟩) hf ef trivial rfl ⟨X8 _ _ _ g4 List.not_mem_nil, X8 _ _ _ g3 List.not_mem_nil⟩
        (fun j _ => by rw [List.length_map]; exact Nat.le_trans (List.length_filter_le ..) (Nat.le_trans (List.length_take_le' ..) (by rw [List.length_range]; walk_at "le"))) ?_ ?_
      · rintro C cenv j v2 σa hCE hCC hg2 hb2 ⟨q1, q2⟩ hv2 Ya
        obtain ⟨rfl, hj⟩ := rng_at hv2
        obtain ⟨w, hw⟩ : ∃ w, fi[j]? = some w := ⟨_, List.getElem?_eq_getElem hj⟩
        have hwn := hfi w (List.mem_of_getElem? hw)
        have hwd : fi.getD j 0 = w := getD_at hw
        have hfs : ((List.range fi.length).take (j + 1)).filter (behindF need fi v) = ((List.range fi.length).take j).filter (behindF need fi v) ++ if behindF need fi v j = true then [j] else [] := by
          rw [take_snoc (List.getElem?_range hj), List.filter_append, List.filter_cons]; rfl
        refine W_tests_one ?_
        repeat walk_at "st"
        refine (W_itemT q1 hvn (by walk_at "le") ?_)
        repeat walk_at "st"
        refine (W_itemM q2 hw (by walk_at "le") ?_)
        repeat walk_at "st"
        refine W_pow2 (by walk_at "le") (fun ta => ?_)
        refine W_divN (Nat.ne_of_gt (Nat.two_pow_pos w)) (by rw [Nat.log2_two_pow]; walk_at "le") (fun tb => ?_)
        repeat walk_at "st"
        refine W_modN (j := 2) (by decide) (fun tc => ?_)
        repeat walk_at "st"
        rw [show (((need v / 2 ^ w % 2 : Nat) : Int) == 1) = behindF need fi v j by unfold behindF; rw [hwd]; exact nat_beq (b := 1)]
        cases hbf : behindF need fi v j with
        | true =>
          refine W_Name hCE .here ?_
          intro td
          exact ⟨σa, rfl, Ext.refl, by rw [hfs, if_pos hbf]; exact List.map_append⟩
        | false => exact ⟨σa, rfl, Ext.refl, by rw [hfs, if_neg (by rw [hbf]; exact Bool.false_ne_true), List.append_nil]⟩
      · intro D C vx σa _ Ya _ hD
        have hlr : (IV (List.range fi.length)).length = fi.length := by rw [List.length_map, List.length_range]
        rw [hlr, List.take_of_length_le (by rw [List.length_range]; exact Nat.le_refl _)] at hD
        exact hQ' D C vx σa ⟨X8.trans Ya, hD⟩
    have j1 := X8 _ _ _ g1 List.not_mem_nil
    have j3 := X8 _ _ _ g3 List.not_mem_nil
    have j5 := g5.ext X8 List.not_mem_nil List.not_mem_nil
    have hrw8 := X8 _ _ _ hrw List.not_mem_nil
    have hrow8 : ∀ i, i < as.length → σ8 (as.getD i 0) = some (0, .list (I2 ((((List.range kn.length).take _).filterMap (rowAt need lt kn gi fi)).getD i []))) := fun j hj => X8 _ _ _ (hrow j hj) List.not_mem_nil
    clear hrow hrw g1 g2 g3 g4 g5
    have hbl2 : (behindL need fi v).length ≤ 1000 := Nat.le_trans (List.length_filter_le ..) (by rw [List.length_range]; exact hfl)
    have push : ∀ {r : Addr} {σ9 σa : Addr → Option (Nat × Cell)}, Ext [] σ8 σ9 → σ8 r = none → σ9 r = some (0, .list (I2 (rowF need lt fi i v))) → σa = upd σ9 rw' (some (5, .list (as.map AV.ref ++ [.ref r]))) → P7 .next ⟨⟨L, cl, nsF, [some (.ref kv), some (.ref gv), some (.ref fv), some (.ref nv), some (.ref lv), some (iv v), some (.int (doneM fi)), some (.ref rw'), some (iv i), some (.ref D)]⟩ :: fs, σa, g⟩ := fun {r σ9 σa} X9 hr0 hr ea => by
      have Xa : Ext [5] σ9 σa := Ext.own_eq ea (X9 _ _ _ hrw8 List.not_mem_nil) (by decide)
      have er1 : ((List.range kn.length).take (i + 1)).filterMap (rowAt need lt kn gi fi) = ((List.range kn.length).take i).filterMap (rowAt need lt kn gi fi) ++ [rowF need lt fi i v] := by
        rw [fmap_snoc hti]; unfold rowAt; rw [hvd, hok]; rfl
      refine hP7.nx _ σa (X8.nil.trans (X9.nil.trans Xa)) ⟨as ++ [r], _, _, _, rfl, by rw [ea, upd_self, List.map_append]; rfl, ?_, fun j hj => ?_⟩
      · rw [er1, List.length_append, List.length_append, hal]; rfl
      · rw [er1]
        rw [List.length_append] at hj
        by_cases e : j < as.length
        · rw [getD_l e, getD_l (by rw [← hal]; exact e)]
          exact Xa _ _ _ (X9 _ _ _ (hrow8 j e) List.not_mem_nil) (by decide)
        · obtain rfl : j = as.length := Nat.le_antisymm (Nat.le_of_lt_succ hj) (Nat.le_of_not_lt e)
          rw [getD_r, hal, getD_r]
          exact Xa _ _ _ hr (by decide)
    have bko : ∀ y ∈ IV (behindL need fi v), KO y := fun y hv => by
      obtain ⟨i, _, rfl⟩ := List.mem_map.mp hv; exact KO.int
    repeat walk_at "st"
    refine W_newList 9 (by first | exact Nat.zero_le _ | decide | simp) (fun l9 hg9 σ9 e9 => ?_)
    have X9 : Ext [] σ8 σ9 := Ext.new_eq e9 hg9
    have hD9 := X9 _ _ _ hD List.not_mem_nil
    refine W_eqD hA' (.list hD9 (KO.rds bko)) (.list (at_upd e9) .nil) (KO.shL bko).ok Sh.nil ?_
    rw [eqv_nil]
    have harl : (as.map AV.ref).length ≤ 1000000 := by rw [List.length_map, hal]; lia
    cases hbe : (behindL need fi v).getLast? with
    | none =>
      have hb0 : behindL need fi v = [] := List.getLast?_eq_none_iff.mp hbe
      rw [hb0]
      repeat walk_at "st"
      intro pl
      have hrw9 := X9 _ _ _ hrw8 List.not_mem_nil
      refine W_meth_list F.slot_list_append F.type_list_append hrw9 ?_
      repeat walk_at "st"
      refine W_newList 0 (by first | exact Nat.zero_le _ | decide | simp) (fun r h10 σ10 e10 => ?_)
      have X10 : Ext [] σ9 σ10 := Ext.new_eq e10 h10
      repeat walk_at "st"
      refine ⟨Kp.builtin, W_append (X10 _ _ _ hrw9 List.not_mem_nil) harl (fun σ11 e11 => ?_)⟩
      repeat walk_at "st"
      refine push (X9.trans X10) (Classical.byContradiction fun q => ?_) ?_ e11
      · obtain ⟨⟨k', c'⟩, hq⟩ := Option.ne_none_iff_exists'.mp q
        rw [X9 _ _ _ hq List.not_mem_nil] at h10; cases h10
      · rw [e10, upd_self]; unfold rowF; rw [hbe]; rfl
    | some t =>
      obtain ⟨ws, hws⟩ := List.getLast?_eq_some_iff.mp hbe
      have htm : t ∈ behindL need fi v := by rw [hws]; simp
      have htl : t < fi.length := List.mem_range.mp (List.mem_filter.mp htm).1
      obtain ⟨w, hw⟩ : ∃ w, fi[t]? = some w := ⟨_, List.getElem?_eq_getElem htl⟩
      have hwn := hfi w (List.mem_of_getElem? hw)
      have hDl : ∀ {σ'}, Ext [] σ9 σ' → σ' D = some (0, .list (IV ws ++ [iv t])) := fun e => by
        have := e _ _ _ hD9 List.not_mem_nil
        rw [hws] at this; rw [this]; simp [IV]
      have hwz : (IV ws).length + 1 ≤ 1000000 := by rw [List.length_map]; rw [hws, List.length_append] at hbl2; exact Nat.le_trans hbl2 (by decide)
      rw [show ((IV (behindL need fi v)).map kd).isEmpty = false by rw [hws]; simp [IV]]
      repeat walk_at "st"
      intro pl
      have hrw9 := X9 _ _ _ hrw8 List.not_mem_nil
      refine W_meth_list F.slot_list_append F.type_list_append hrw9 ?_
      repeat walk_at "st"
      refine ⟨noGet_list (hDl Ext.refl), W_last_list (hDl Ext.refl) hwz ?_⟩
      repeat walk_at "st"
      refine ⟨noGet_list (hDl Ext.refl), W_last_list (hDl Ext.refl) hwz ?_⟩
      have k3' := X9 _ _ _ j3 List.not_mem_nil
      have k5' := j5.ext X9 List.not_mem_nil List.not_mem_nil
      repeat walk_at "st"
      refine (W_itemM k3' hw (by walk_at "le") ?_)
      obtain ⟨p, hp1, _, hp3⟩ := k5'.at_ hwn
      repeat walk_at "st"
      refine ⟨noGet_list k5'.d, W_item_list k5'.d (Int.natCast_nonneg _) (by rw [Int.toNat_natCast]; exact hp1) (by rw [List.length_map, k5'.len]; walk_at "le") ?_⟩
      repeat walk_at "st"
      refine (W_itemT hp3 hvn (by walk_at "le") ?_)
      repeat walk_at "st"
      refine W_newList 0 (by first | exact Nat.zero_le _ | decide | simp) (fun r h10 σ10 e10 => ?_)
      have X10 : Ext [] σ9 σ10 := Ext.new_eq e10 h10
      repeat walk_at "st"
      refine ⟨Kp.builtin, W_append (X10 _ _ _ hrw9 List.not_mem_nil) harl (fun σ11 e11 => ?_)⟩
      repeat walk_at "st"
      refine push (X9.trans X10) (Classical.byContradiction fun q => ?_) ?_ e11
      · obtain ⟨⟨k', c'⟩, hq⟩ := Option.ne_none_iff_exists'.mp q
        rw [X9 _ _ _ hq List.not_mem_nil] at h10; cases h10
      · rw [e10, upd_self]; unfold rowF; rw [hbe]; show _ = some (0, Cell.list (I2 [(t : Int), ((lt (fi.getD t 0) v : Nat) : Int), (v : Int)])); rw [show fi.getD t 0 = w from getD_at hw]; rfl
  · rintro vv σ7 ⟨as, b1, b2, b3, rfl, hrw, hal, hrow⟩ Y7
    have hlr : (IV (List.range kn.length)).length = kn.length := by rw [List.length_map, List.length_range]
    rw [hlr, List.take_of_length_le (by rw [List.length_range]; exact Nat.le_refl _)] at hal hrow
    change as.length = (rowsF need lt kn gi fi).length at hal
    change ∀ i, i < as.length → σ7 (as.getD i 0) = some (0, .list (I2 ((rowsF need lt kn gi fi).getD i []))) at hrow
    have hz : (rowsF need lt kn gi fi).length ≤ 60 := Nat.le_trans (List.length_filterMap_le ..) (by rw [List.length_range]; exact hkl)
    refine Nx.nx (by assumption) _ ?_
    repeat walk_at "st"
    refine W_ListComp (x := "row") (gls := []) (caps := []) ⟨rfl, rfl, by decide +kernel⟩ (hC.mono (by first | exact fun _ h => h | decide | simp)) ?_
    repeat walk_at "st"
    refine ⟨Kp.builtin, W_sortedRows (d := d) hA'.vs hrw (by walk_at "le") (fun i hi => ⟨0, hrow i hi, by decide⟩) (by rw [hal]; exact T) (fun R p σ8 hso X8 hR => ?_)⟩
    rw [hal] at hso
    have hout := hfr p hso
    have hro8 : ∀ i, i < as.length → σ8 (as.getD i 0) = some (0, .list (I2 ((rowsF need lt kn gi fi).getD i []))) := fun i hi => X8 _ _ _ (hrow i hi) List.not_mem_nil
    repeat walk_at "st"
    refine W_iter_list hR (fun it hh9 σ9 e9 => ?_)
    refine CompK_out (k := 0) (gs := []) (gls := []) (caps := []) ⟨rfl, rfl, by decide +kernel⟩ (hC.mono (by first | exact fun _ h => h | decide | simp)) rfl (by first | decide | simp) hgl' hbl (IterOf.list hh) IterSelf.list (by decide) 0 (fun i => IV (fr.take i)) (fun σ => ∀ i, i < as.length → σ (as.getD i 0) = some (0, .list (I2 ((rowsF need lt kn gi fi).getD i [])))) (fun σ σ' q e i hi => e _ _ _ (q i hi) (by decide)) hh9 e9 ((put_ne e9 (ne_new hR hh9)).trans hR) rfl hro8 (fun i _ => ?_) ?_ ?_
    · rw [List.length_map]
      have := congrArg List.length hout
      rw [List.length_map, List.length_map, Array.length_toList, hso.1.sz] at this
      exact Nat.le_trans (List.length_take_le' ..) (by walk_at "le")
    · intro C cenv i v σa hCE hCC hg2 hb2 q hv2 Ya
      rw [List.getElem?_map] at hv2
      obtain ⟨q', hq', rfl⟩ := map_some_of hv2
      have hql : q' < as.length := by
        rw [Array.getElem?_toList] at hq'
        have := hso.1.lt i (by rw [← hso.1.sz]; exact (Array.getElem?_eq_some_iff.mp hq').1)
        rw [getD_of hq', ← hal] at this; exact this
      have hrw2 := q q' hql
      have h3l := rows3 (need := need) (lt := lt) (kn := kn) (gi := gi) (fi := fi) q' (by rw [← hal]; exact hql)
      obtain ⟨f, hf1, hf2⟩ : ∃ f, fr[i]? = some f ∧ ((rowsF need lt kn gi fi).getD q' []).getD 2 0 = (f : Int) := by
        have := congrArg (fun l => l[i]?) hout
        rw [List.getElem?_map, List.getElem?_map, hq', Option.map_some] at this
        obtain ⟨f, hf, e⟩ := map_some_of this.symm
        exact ⟨f, hf, e.symm⟩
      refine W_tests_nil ?_
      repeat walk_at "st"
      refine ⟨noGet_list hrw2, W_item_list hrw2 (by decide) (v := iv f) ?_ (by rw [List.length_map, h3l]; decide) ?_⟩
      · show (I2 _)[2]? = _
        rw [List.getElem?_map, List.getElem?_eq_getElem (by rw [h3l]; decide)]
        rw [List.getD_eq_getElem?_getD, List.getElem?_eq_getElem (by rw [h3l]; decide)] at hf2
        exact congrArg (fun z => some (AV.int z)) hf2
      · intro tz
        exact ⟨σa, rfl, Ext.refl, by rw [take_snoc hf1]; exact List.map_append⟩
    · intro D C vx σa _ Ya _ hD
      have hpl : p.toList.length = fr.length := by have := congrArg List.length hout; rw [List.length_map, List.length_map] at this; exact this
      rw [List.length_map, hpl, List.take_length] at hD
      refine UseK.no ?_
      repeat walk_at "st"
      exact h D σa ((Y3.trans X4).nil.trans (X5.nil.trans (Y7.trans (X8.nil.trans Ya.nil)))) hD
end
end Mine.Internal
namespace Mine.Internal
open PySem PySem.W PyProof.Rows PySem.Calls PySem.F PySem.SeqAt
section
variable {c : Cx} {A : Around} {E : Value → AS → Prop} {a : AS} {env : Env} {fs : List Frm} {σ : Addr → Option (Nat × Cell)} {g : Array GenState} {d : Nat}
theorem W_mul {i j : Int} {t u : Tok} {Q : Value → AS → Prop} (hm : IntMulOk i j) (h : ∀ t, Q (.int (i * j) t) a) : W c A (binaryOp .Mult (.int i t) (.int j u)) Q E a := fun s hs => PyProof.Rows.mul_int ⟨a, hs.of_eq, h _⟩ hm
theorem ite_any {p : Prop} [Decidable p] {a b : Prop} (h : a) (h' : b) : if p then a else b := by split <;> assumption
theorem W_slice_from0 {value lower : Expr} {p pos : Pos} {Q : Value → AS → Prop} (h : W c A (eval value env) (fun o a₁ => W c A (eval lower env) (fun vl a₂ => SlAt c 0 Q vl .none o a₂) E a₁) E a)
    (ht : ∀ o r, letTemporaryGo value o r = pure () := by intro _ _; with_unfolding_all rfl) : W c A (eval (.Subscript value (.Slice (some lower) none none p) pos) env) Q E a := W_slice_from 0 h ht
theorem W_slice_to0 {value upper : Expr} {p pos : Pos} {Q : Value → AS → Prop} (h : W c A (eval value env) (fun o a₁ => W c A (eval upper env) (fun vl a₂ => SlAt c 0 Q .none vl o a₂) E a₁) E a)
    (ht : ∀ o r, letTemporaryGo value o r = pure () := by intro _ _; with_unfolding_all rfl) : W c A (eval (.Subscript value (.Slice none (some upper) none p) pos) env) Q E a := W_slice_to 0 h ht
theorem W_IfAny {test : Expr} {body orelse : List Stmt} {pos : Pos} {Q : Flow → AS → Prop} (h1 : W c A (isTrue test env (eval test env)) (fun _ a' => a' = a) E a) (h2 : W c A (execs body env) Q E a) (h3 : W c A (execs orelse env) Q E a) : W c A (exec (.If test body orelse pos) env) Q E a :=
  W_If (W_mono h1 (fun b a' e => by subst e; cases b; exact h3; exact h2) fun _ _ x => x)
end
end Mine.Internal
namespace Mine.Internal
open PySem PySem.W PyProof.Rows PySem.Calls PySem.F PySem.SeqAt
theorem fmod_nat {r : Int} {m : Nat} (hm : 0 < m) : ∃ w : Nat, r.fmod m = w ∧ w < m := by
  have h1 := Int.fmod_nonneg_of_pos r (b := (m : Int)) (Int.ofNat_lt.mpr hm)
  obtain ⟨w, hw⟩ := Int.eq_ofNat_of_zero_le h1
  exact ⟨w, hw, Int.ofNat_lt.mp (hw ▸ Int.fmod_lt_of_pos r (b := (m : Int)) (Int.ofNat_lt.mpr hm))⟩
section
variable {c : Cx} {A : Around} {E : Value → AS → Prop} {a : AS} {env : Env} {fs : List Frm} {σ : Addr → Option (Nat × Cell)} {g : Array GenState} {d : Nat}
end
end Mine.Internal
namespace Mine.Internal
open PySem PySem.W PyProof.Rows PySem.Calls PySem.F PySem.SeqAt
structure Ed where
  p : Nat
  v : Nat
  t : Nat
noncomputable def outN (E : List Ed) (p : Nat) : List Nat := (E.filter fun e => decide (e.p = p)).map (·.v)
noncomputable def inN (E : List Ed) (dn : List Nat) (v : Nat) : Nat := E.countP fun e => decide (e.v = v) && decide (e.p ∉ dn)
noncomputable def uqN {α : Type} [DecidableEq α] (S l : List α) : List α := l.foldl (fun S y => if y ∈ S then S else S ++ [y]) S
noncomputable def lastT (E : List Ed) (p v : Nat) : Nat := E.foldl (fun a e => if e.p = p ∧ e.v = v then e.t else a) 0
noncomputable def fsN {α : Type} (f : Nat → α) (k : Nat) (x : α) : Nat → α := fun y => if y = k then x else f y
structure PS where
  known : List Nat
  given : List Nat
  finished : List Nat
  need : Nat → Nat
  after : Nat → List Nat
  last : Nat → Nat → Nat
noncomputable def PS.nil : PS := ⟨[], [], [], fun _ => 0, fun _ => [], fun _ _ => 0⟩
noncomputable def PS.link (P : PS) (v t p : Nat) : PS := { P with need := fsN P.need v (P.need v ||| 2 ^ p), after := if v ∈ P.after p then P.after else fsN P.after p (P.after p ++ [v]), last := fsN P.last p (fsN (P.last p) v t) }
noncomputable def PS.name (P : PS) (l : List Nat) : PS := { P with known := uqN P.known l }
noncomputable def PS.add (P : PS) (t v : Nat) (l : List Nat) : PS := l.foldl (fun P p => P.link v t p) (P.name (v :: l))
noncomputable def PS.fin (P : PS) (l : List Nat) : PS := { P with finished := P.finished ++ l }
structure NmOk (n : Nat) (nm : Nat → AV) : Prop where
  inj : ∀ i j, i ≤ n → j ≤ n → nm i = nm j → i = j
  ko : ∀ i, i ≤ n → KO (nm i) ∧ RpOk (nm i)
structure G0 (n : Nat) (nm : Nat → AV) (P : PS) (E : List Ed) (T : Nat) (st : SS) : Prop where
  kn : P.known.Nodup
  lt : ∀ v ∈ P.known, v < n
  keys : st.keys = P.known.map nm
  ed : ∀ e ∈ E, e.p ∈ P.known ∧ e.v ∈ P.known ∧ e.t < T
  srt : E.Pairwise fun e e' => e.t ≤ e'.t ∧ (e.t = e'.t → e.v = e'.v)
  su : ∀ p, p ≤ n → st.su (nm p) = (outN E p).map nm
  dfl : ∀ k, k ∉ st.keys → st.su k = []
  aft : ∀ p, P.after p = uqN [] (outN E p)
  ned : ∀ v p, (P.need v).testBit p = true ↔ ∃ e ∈ E, e.p = p ∧ e.v = v
  lst : ∀ p v, P.last p v = lastT E p v
  fit : st.Fit (5 * T)
structure Pre (n : Nat) (nm : Nat → AV) (P : PS) (E : List Ed) (st : SS) : Prop where
  rd : st.ready = none
  gv : P.given = []
  fi : P.finished = []
  np : ∀ v, v < n → st.np (nm v) = (inN E [] v : Int)
  pass : st.npass = 0
  fin : st.nfin = 0
noncomputable def FreeOk (P : PS) (E : List Ed) (v : Nat) : Prop := v ∈ P.known ∧ v ∉ P.given ∧ ∀ e ∈ E, e.v = v → e.p ∈ P.finished
noncomputable def rowOf (P : PS) (v : Nat) : List Int := rowF P.need P.last P.finished (P.known.idxOf v) v
structure Post (n : Nat) (nm : Nat → AV) (P : PS) (E : List Ed) (fr : List Nat) (st : SS) : Prop where
  rd : st.ready = some (fr.map nm)
  fsub : ∀ v ∈ P.finished, v ∈ P.given
  fnd : P.finished.Nodup
  gsub : ∀ v ∈ P.given, v ∈ P.known
  gnd : P.given.Nodup
  gok : ∀ v ∈ P.given, ∀ e ∈ E, e.v = v → e.p ∈ P.finished
  npf : ∀ v ∈ P.finished, st.np (nm v) = -2
  npg : ∀ v ∈ P.given, v ∉ P.finished → st.np (nm v) = -1
  np : ∀ v, v < n → v ∉ P.given → st.np (nm v) = (inN E P.finished v : Int)
  frn : fr.Nodup
  free : ∀ v, v ∈ fr ↔ FreeOk P E v
  ord : (fr.map (rowOf P)).Pairwise fun a b => ltL a b = true
  pass : st.npass = P.given.length
  fin : st.nfin = P.finished.length
section
variable {α : Type} [DecidableEq α]
noncomputable def zs (np : α → Int) : List α → List α
  | [] => []
  | s :: T => (if np s - 1 = 0 then [s] else []) ++ zs (fun y => if y = s then np s - 1 else np y) T
noncomputable def lasts : List α → List α
  | [] => []
  | s :: T => if s ∈ T then lasts T else s :: lasts T
theorem lasts_cons {s : α} {T : List α} : lasts (s :: T) = if s ∈ T then lasts T else s :: lasts T := rfl
theorem lasts_mem {x : α} : ∀ {T : List α}, x ∈ lasts T ↔ x ∈ T
  | [] => Iff.rfl
  | s :: T => by
    rw [lasts_cons]
    split
    · rename_i h
      rw [lasts_mem, List.mem_cons]
      exact ⟨.inr, fun q => q.elim (fun e => e ▸ h) id⟩
    · rw [List.mem_cons, List.mem_cons, lasts_mem]
theorem lasts_nd : ∀ {T : List α}, (lasts T).Nodup
  | [] => .nil
  | s :: T => by
    rw [lasts_cons]
    split
    · exact lasts_nd
    · rename_i h
      exact List.nodup_cons.mpr ⟨fun q => h (lasts_mem.mp q), lasts_nd⟩
theorem zs_lasts : ∀ {T : List α} {np : α → Int}, (∀ x ∈ T, (T.count x : Int) ≤ np x) → zs np T = (lasts T).filter fun x => decide (np x = (T.count x : Int))
  | [], _, _ => rfl
  | s :: T, np, h => by
    have hs := h s List.mem_cons_self
    rw [List.count_cons_self] at hs
    have ih := zs_lasts (T := T) (np := fun y => if y = s then np s - 1 else np y) fun x hx => by
      have hx' := h x (List.mem_cons_of_mem _ hx)
      by_cases e : x = s
      · subst e
        rw [List.count_cons_self] at hx'
        rw [if_pos rfl]; lia
      · rw [List.count_cons_of_ne (Ne.symm e)] at hx'
        rw [if_neg e]; exact hx'
    have same : ∀ x, (decide ((if x = s then np s - 1 else np x) = (T.count x : Int))) = decide (np x = ((s :: T).count x : Int)) := fun x => by
      by_cases e : x = s
      · subst e
        rw [if_pos rfl, List.count_cons_self]
        exact decide_eq_decide.mpr ⟨fun q => by lia, fun q => by lia⟩
      · rw [if_neg e, List.count_cons_of_ne (Ne.symm e)]
    rw [zs, ih]
    rw [List.filter_congr (q := fun x => decide (np x = ((s :: T).count x : Int))) fun x _ => same x]
    rw [lasts_cons]
    by_cases hm : s ∈ T
    · have := List.count_pos_iff.mpr hm
      rw [if_pos hm, if_neg (by walk_at "le")]; rfl
    · have h0 := List.count_eq_zero.mpr hm
      rw [if_neg hm, List.filter_cons, List.count_cons_self, h0]
      by_cases q : np s - 1 = 0
      · rw [if_pos q, if_pos (decide_eq_true (by walk_at "le"))]; rfl
      · rw [if_neg q, if_neg (fun z => q (by have := of_decide_eq_true z; lia))]; rfl
theorem uqN_mem {y : α} : ∀ {l S : List α}, y ∈ uqN S l ↔ y ∈ S ∨ y ∈ l
  | [], S => by unfold uqN; rw [List.foldl_nil]; exact ⟨.inl, fun h => h.elim id fun q => nomatch q⟩
  | x :: l, S => by
    show y ∈ uqN (if x ∈ S then S else S ++ [x]) l ↔ _
    rw [uqN_mem, List.mem_cons]
    split
    · rename_i h
      exact ⟨fun q => q.elim .inl fun z => .inr (.inr z), fun q => q.elim .inl fun z => z.elim (fun e => .inl (e ▸ h)) .inr⟩
    · rw [List.mem_append, List.mem_singleton, or_assoc]
theorem uqN_nd : ∀ {l S : List α}, S.Nodup → (uqN S l).Nodup
  | [], S, h => h
  | y :: l, S, h => by
    refine uqN_nd (l := l) (S := if y ∈ S then S else S ++ [y]) ?_
    split
    · exact h
    · rename_i q
      refine List.nodup_append.mpr ⟨h, by simp, fun x hx z hz e => q ?_⟩
      rw [← List.mem_singleton.mp hz, ← e]; exact hx
theorem uqN_app {S a b : List α} : uqN S (a ++ b) = uqN (uqN S a) b := by unfold uqN; rw [List.foldl_append]
theorem uqN_ext : ∀ {b S : List α}, ∃ r, uqN S b = S ++ r
  | [], S => ⟨[], (List.append_nil S).symm⟩
  | y :: b, S => by
    obtain ⟨r, e⟩ := uqN_ext (b := b) (S := if y ∈ S then S else S ++ [y])
    show ∃ r, uqN (if y ∈ S then S else S ++ [y]) b = _
    rw [e]
    split
    · exact ⟨r, rfl⟩
    · exact ⟨y :: r, by rw [List.append_assoc]; rfl⟩
theorem first_uq {P : α → Prop} {l a b : List α} {w : α} (e : l = a ++ w :: b) (ha : ∀ t ∈ a, ¬ P t) (hw : P w) : ∃ a' b', uqN [] l = a' ++ w :: b' ∧ ∀ t ∈ a', ¬ P t := by
  obtain ⟨r, hr⟩ := uqN_ext (b := b) (S := uqN [] a ++ [w])
  have hm : ∀ t, t ∈ uqN [] a → t ∈ a := fun t ht => (uqN_mem.mp ht).resolve_left List.not_mem_nil
  refine ⟨uqN [] a, r, ?_, fun t ht => ha t (hm t ht)⟩
  rw [e, uqN_app]
  show uqN (if w ∈ uqN [] a then uqN [] a else uqN [] a ++ [w]) b = _
  rw [if_neg fun z => ha w (hm w z) hw, hr, List.append_assoc]; rfl
end
theorem uqN_map {β α : Type} [DecidableEq α] [DecidableEq β] {f : α → β} : ∀ {l S : List α}, (∀ x ∈ S ++ l, ∀ y ∈ S ++ l, f x = f y → x = y) → uqN (S.map f) (l.map f) = (uqN S l).map f
  | [], S, _ => rfl
  | y :: l, S, h => by
    have hm : f y ∈ S.map f ↔ y ∈ S := ⟨fun q => by
      obtain ⟨x, hx, e⟩ := List.mem_map.mp q
      rw [← h x (List.mem_append_left _ hx) y (List.mem_append_right _ List.mem_cons_self) e]; exact hx, List.mem_map_of_mem⟩
    show uqN (if f y ∈ S.map f then S.map f else S.map f ++ [f y]) (l.map f) = (uqN (if y ∈ S then S else S ++ [y]) l).map f
    by_cases q : y ∈ S
    · rw [if_pos q, if_pos (hm.mpr q)]
      exact uqN_map fun x hx z hz => h x (by simp only [List.mem_append, List.mem_cons] at hx ⊢; exact hx.imp id .inr) z (by simp only [List.mem_append, List.mem_cons] at hz ⊢; exact hz.imp id .inr)
    · rw [if_neg q, if_neg fun z => q (hm.mp z), show S.map f ++ [f y] = (S ++ [y]).map f by rw [List.map_append]; rfl]
      refine uqN_map fun x hx z hz => h x ?_ z ?_
      · rw [List.append_assoc] at hx; exact hx
      · rw [List.append_assoc] at hz; exact hz
theorem count_nm {β α : Type} [DecidableEq α] [DecidableEq β] {f : α → β} {x : α} : ∀ {l : List α}, (∀ y ∈ l, f y = f x → y = x) → (l.map f).count (f x) = l.count x
  | [], _ => rfl
  | y :: l, h => by
    rw [List.map_cons, List.count_cons, List.count_cons, count_nm fun z hz => h z (.tail _ hz)]
    congr 1
    by_cases e : y = x
    · subst e; simp
    · have : ¬ f y = f x := fun q => e (h y List.mem_cons_self q)
      simp [e, this]
theorem zs_map {β α : Type} [DecidableEq α] [DecidableEq β] {f : α → β} : ∀ {T : List α} {np : α → Int} {np' : β → Int}, (∀ x ∈ T, ∀ y ∈ T, f x = f y → x = y) → (∀ x ∈ T, np' (f x) = np x) → zs np' (T.map f) = (zs np T).map f
  | [], _, _, _, _ => rfl
  | s :: T, np, np', hi, h => by
    rw [List.map_cons, zs, zs, h s List.mem_cons_self, List.map_append]
    rw [zs_map (T := T) (np := fun y => if y = s then np s - 1 else np y) (fun x hx y hy => hi x (.tail _ hx) y (.tail _ hy)) fun x hx => ?_]
    · split <;> rfl
    · by_cases e : x = s
      · rw [e, if_pos rfl, if_pos rfl]
      · rw [if_neg e, if_neg fun q => e (hi x (.tail _ hx) s List.mem_cons_self q)]; exact h x (.tail _ hx)
theorem decs_np {x : AV} : ∀ {T : List AV} {st : SS}, (T.foldl (fun (s : SS) p => s.dec p) st).np x = st.np x - (T.count x : Int)
  | [], _ => by simp
  | s :: T, st => by
    rw [List.foldl_cons, decs_np (T := T), List.count_cons]
    show fset st.np s (st.np s - 1) x - _ = _
    by_cases e : x = s
    · subst e; rw [fset_self]; simp; lia
    · rw [fset_ne e]; simp [Ne.symm e]
theorem decs_ready : ∀ {T : List AV} {st : SS} {r : List AV}, st.ready = some r → (T.foldl (fun s p => s.dec p) st).ready = some (r ++ zs st.np T)
  | [], _, _, h => by simp [zs, h]
  | s :: T, st, r, h => by
    have h1 : (st.dec s).ready = some (r ++ if st.np s - 1 = 0 then [s] else []) := by
      unfold SS.dec; dsimp only
      by_cases q : st.np s - 1 = 0
      · rw [if_pos q, if_pos q, h]; rfl
      · rw [if_neg q, if_neg q, h]; simp
    rw [List.foldl_cons, decs_ready h1, zs, List.append_assoc]
    rfl
theorem out_np {x : AV} : ∀ {l : List AV} {np : AV → Int}, (x ∉ l → SS.out np l x = np x) ∧ (x ∈ l → SS.out np l x = -1)
  | [], _ => ⟨fun _ => rfl, fun h => by cases h⟩
  | k :: l, np => by
    obtain ⟨a, b⟩ := out_np (l := l) (np := fset np k (-1)) (x := x)
    show (x ∉ k :: l → SS.out (fset np k (-1)) l x = _) ∧ (_ → SS.out (fset np k (-1)) l x = _)
    constructor
    · intro h
      simp only [List.mem_cons, not_or] at h
      rw [a h.2, fset_ne h.1]
    · intro h
      by_cases q : x ∈ l
      · exact b q
      · rw [a q]
        have : x = k := (List.mem_cons.mp h).resolve_right q
        rw [this, fset_self]
theorem adds_all {k : AV} : ∀ {ps : List AV} {st : SS}, (ps.foldl (fun (s : SS) p => s.succ k p) st).keys = uqN st.keys ps ∧ (∀ y, (ps.foldl (fun (s : SS) p => s.succ k p) st).su y = st.su y ++ List.replicate (ps.count y) k) ∧ (ps.foldl (fun (s : SS) p => s.succ k p) st).np = st.np ∧ (ps.foldl (fun (s : SS) p => s.succ k p) st).nfin = st.nfin ∧ (ps.foldl (fun (s : SS) p => s.succ k p) st).npass = st.npass ∧ (ps.foldl (fun (s : SS) p => s.succ k p) st).ready = st.ready
  | [], st => ⟨rfl, fun y => (List.append_nil _).symm, rfl, rfl, rfl, rfl⟩
  | p :: ps, st => by
    obtain ⟨h1, h2, h3, h4, h5, h6⟩ := adds_all (k := k) (ps := ps) (st := st.succ k p)
    refine ⟨h1, fun y => ?_, h3, h4, h5, h6⟩
    rw [List.foldl_cons, h2, List.count_cons]
    show fset st.su p (st.su p ++ [k]) y ++ _ = _
    by_cases e : p = y
    · subst e
      rw [fset_self, beq_self_eq_true, if_pos rfl, List.replicate_succ, List.append_assoc]; rfl
    · rw [fset_ne (Ne.symm e), if_neg (by rw [beq_iff_eq]; exact e), Nat.add_zero]
end Mine.Internal
namespace Mine.Internal
open PySem PySem.W PyProof.Rows PySem.Calls PySem.F PySem.SeqAt
variable {n T : Nat} {nm : Nat → AV} {P : PS} {E : List Ed} {fr : List Nat} {st : SS}
theorem G0.nil : G0 n nm PS.nil [] 0 ⟨[], fun _ => 0, fun _ => [], none, 0, 0⟩ :=
  ⟨.nil, fun v hv => (nomatch hv), rfl, fun e he => (nomatch he), .nil, fun _ _ => rfl, fun _ _ => rfl, fun _ => rfl, fun v p => Iff.intro (fun h => by rw [show PS.nil.need v = 0 from rfl, Nat.zero_testBit] at h; cases h) (fun pz2 => pz2.elim fun e pz3 => pz3.elim fun he _ => absurd he List.not_mem_nil), fun _ _ => rfl, ⟨Nat.zero_le _, fun _ => Nat.zero_le _⟩⟩
theorem Pre.nil : Pre n nm PS.nil [] ⟨[], fun _ => 0, fun _ => [], none, 0, 0⟩ := ⟨rfl, rfl, rfl, fun _ _ => rfl, rfl, rfl⟩
theorem G0.same {P' : PS} {st' : SS} (G : G0 n nm P E T st) (h1 : st'.keys = st.keys) (h2 : st'.su = st.su) (h3 : P'.known = P.known) (h4 : P'.need = P.need) (h5 : P'.after = P.after) (h6 : P'.last = P.last) : G0 n nm P' E T st' :=
  ⟨h3 ▸ G.kn, h3 ▸ G.lt, by rw [h1, h3]; exact G.keys, h3 ▸ G.ed, G.srt, by rw [h2]; exact G.su, by rw [h1, h2]; exact G.dfl, by rw [h5]; exact G.aft, by rw [h4]; exact G.ned, by rw [h6]; exact G.lst, ⟨by rw [h1]; exact G.fit.keys, by rw [h2]; exact G.fit.su⟩⟩
theorem G0.prep (G : G0 n nm P E T st) : G0 n nm P E T st.prep := G.same rfl rfl rfl rfl rfl rfl
theorem G0.get (G : G0 n nm P E T st) (l : List AV) : G0 n nm { P with given := P.given ++ fr } E T (st.getReady l) := G.same rfl rfl rfl rfl rfl rfl
theorem G0.fin1 (N : NmOk n nm) (G : G0 n nm P E T st) (l : List Nat) : G0 n nm (P.fin l) E T (st.done (l.map nm)) :=
  have h := SS.done_same (l := l.map nm) (st := st) (N := 5 * T) fun k => G.fit.su k
  G.same h.1 h.2.1 rfl rfl rfl rfl
structure Bk (P : PS) (E : List Ed) (v T : Nat) : Prop where
  srt : E.Pairwise fun e e' => e.t ≤ e'.t ∧ (e.t = e'.t → e.v = e'.v)
  top : ∀ e ∈ E, e.t ≤ T ∧ (e.t = T → e.v = v)
  aft : ∀ p, P.after p = uqN [] (outN E p)
  ned : ∀ v p, (P.need v).testBit p = true ↔ ∃ e ∈ E, e.p = p ∧ e.v = v
  lst : ∀ p v, P.last p v = lastT E p v
theorem outN_snoc {p v t q : Nat} : outN (E ++ [⟨p, v, t⟩]) q = outN E q ++ if p = q then [v] else [] := by
  unfold outN
  rw [List.filter_append, List.map_append, List.filter_cons]
  by_cases e : p = q
  · rw [if_pos (decide_eq_true e), if_pos e]; rfl
  · rw [if_neg (fun z => e (of_decide_eq_true z)), if_neg e]; rfl
theorem Bk.link {v p : Nat} (B : Bk P E v T) : Bk (P.link v T p) (E ++ [⟨p, v, T⟩]) v T := by
  refine ⟨List.pairwise_append.mpr ⟨B.srt, List.pairwise_singleton .., fun e he e' he' => ?_⟩, fun e he => ?_, fun q => ?_, fun w q => ?_, fun q w => ?_⟩
  · rw [List.mem_singleton.mp he']
    exact B.top e he
  · rcases List.mem_append.mp he with he | he
    · exact B.top e he
    · rw [List.mem_singleton.mp he]; exact ⟨Nat.le_refl _, fun _ => rfl⟩
  · rw [outN_snoc]
    show (if v ∈ P.after p then P.after else fsN P.after p (P.after p ++ [v])) q = _
    have h := B.aft q
    by_cases e : p = q
    · subst e
      rw [if_pos rfl, uqN_app, ← h]
      show _ = if v ∈ P.after p then P.after p else P.after p ++ [v]
      split
      · rfl
      · unfold fsN; rw [if_pos rfl]
    · rw [if_neg e, List.append_nil, ← h]
      split
      · rfl
      · unfold fsN; rw [if_neg (Ne.symm e)]
  · have h := B.ned w q
    have ex : (∃ e ∈ E ++ [⟨p, v, T⟩], e.p = q ∧ e.v = w) ↔ (∃ e ∈ E, e.p = q ∧ e.v = w) ∨ (p = q ∧ v = w) := by
      constructor
      · rintro ⟨e, he, h1, h2⟩
        rcases List.mem_append.mp he with he | he
        · exact .inl ⟨e, he, h1, h2⟩
        · rw [List.mem_singleton.mp he] at h1 h2; exact .inr ⟨h1, h2⟩
      · rintro (⟨e, he, h1, h2⟩ | ⟨h1, h2⟩)
        · exact ⟨e, List.mem_append_left _ he, h1, h2⟩
        · exact ⟨_, List.mem_append_right _ (List.mem_singleton.mpr rfl), h1, h2⟩
    rw [ex]
    show (fsN P.need v (P.need v ||| 2 ^ p) w).testBit q = true ↔ _
    unfold fsN
    by_cases e : w = v
    · subst e
      rw [if_pos rfl, Nat.testBit_or, Bool.or_eq_true, h, Nat.testBit_two_pow, decide_eq_true_iff]
      exact ⟨fun z => z.imp id fun y => ⟨y, rfl⟩, fun z => z.imp id fun y => y.1⟩
    · rw [if_neg e, h]
      exact ⟨.inl, fun z => z.resolve_right fun y => e y.2.symm⟩
  · show fsN P.last p (fsN (P.last p) v T) q w = _
    have h := B.lst q w
    unfold lastT at h ⊢
    rw [List.foldl_append, ← h]
    show _ = if p = q ∧ v = w then T else P.last q w
    unfold fsN
    by_cases e : q = p
    · subst e
      rw [if_pos rfl]
      by_cases e2 : w = v
      · subst e2; rw [if_pos rfl, if_pos ⟨rfl, rfl⟩]
      · rw [if_neg e2, if_neg fun z => e2 z.2.symm]
    · rw [if_neg e, if_neg fun z => e z.1.symm]
theorem Bk.links {v : Nat} : ∀ {l : List Nat} {P : PS} {E : List Ed}, Bk P E v T → Bk (l.foldl (fun P p => P.link v T p) P) (E ++ l.map fun p => ⟨p, v, T⟩) v T
  | [], P, E, B => by rw [List.map_nil, List.append_nil]; exact B
  | p :: l, P, E, B => by
    have := Bk.links (l := l) B.link (P := P.link v T p)
    rw [List.append_assoc] at this
    exact this
theorem outN_add {v q : Nat} : ∀ {l : List Nat} {E : List Ed}, outN (E ++ l.map fun p => ⟨p, v, T⟩) q = outN E q ++ List.replicate (l.count q) v
  | [], E => by rw [List.map_nil, List.append_nil, List.count_nil, List.replicate_zero, List.append_nil]
  | p :: l, E => by
    have := outN_add (l := l) (E := E ++ [⟨p, v, T⟩]) (v := v) (q := q)
    rw [List.append_assoc, outN_snoc] at this
    rw [List.map_cons, show (⟨p, v, T⟩ : Ed) :: l.map (fun p => ⟨p, v, T⟩) = [⟨p, v, T⟩] ++ l.map fun p => ⟨p, v, T⟩ from rfl, this, List.count_cons]
    by_cases e : p = q
    · subst e
      rw [if_pos rfl, beq_self_eq_true, if_pos rfl, List.append_assoc, List.replicate_succ]; rfl
    · rw [if_neg e, if_neg (by rw [beq_iff_eq]; exact e), Nat.add_zero, List.append_nil]
theorem inN_add {v w : Nat} : ∀ {l : List Nat} {E : List Ed}, inN (E ++ l.map fun p => ⟨p, v, T⟩) [] w = inN E [] w + if w = v then l.length else 0
  | [], E => by rw [List.map_nil, List.append_nil]; split <;> rfl
  | p :: l, E => by
    have := inN_add (l := l) (E := E ++ [⟨p, v, T⟩]) (v := v) (w := w)
    rw [List.append_assoc] at this
    rw [List.map_cons, show (⟨p, v, T⟩ : Ed) :: l.map (fun p => ⟨p, v, T⟩) = [⟨p, v, T⟩] ++ l.map fun p => ⟨p, v, T⟩ from rfl, this]
    have h1 : inN (E ++ [⟨p, v, T⟩]) [] w = inN E [] w + if w = v then 1 else 0 := by
      unfold inN
      rw [List.countP_append, List.countP_singleton]
      congr 1
      by_cases e : w = v
      · subst e; simp
      · have : ¬ v = w := Ne.symm e
        simp [e, this]
    rw [h1]
    split
    · rw [List.length_cons]; lia
    · lia
theorem NmOk.inj' (N : NmOk n nm) {l : List Nat} (hl : ∀ x ∈ l, x < n) : ∀ x ∈ l, ∀ y ∈ l, nm x = nm y → x = y := fun x hx y hy e => N.inj x y (Nat.le_of_lt (hl x hx)) (Nat.le_of_lt (hl y hy)) e
theorem G0.add (N : NmOk n nm) (G : G0 n nm P E T st) (R : Pre n nm P E st) {v : Nat} {l : List Nat} (hv : v < n) (hl : ∀ p ∈ l, p < n) (hz : l.length ≤ 3) :
    ∃ E', G0 n nm (P.add T v l) E' (T + 1) (st.add (nm v) (l.map nm)) ∧ Pre n nm (P.add T v l) E' (st.add (nm v) (l.map nm)) := by
  obtain ⟨a1, a2, a3, a4, a5, a6⟩ := adds_all (k := nm v) (ps := l.map nm) (st := st.addN (nm v) (l.map nm).length)
  have B : Bk (P.add T v l) (E ++ l.map fun p => ⟨p, v, T⟩) v T := Bk.links (P := P.name (v :: l)) ⟨G.srt, fun e he => ⟨Nat.le_of_lt (G.ed e he).2.2, fun q => absurd (G.ed e he).2.2 (by walk_at "le")⟩, G.aft, G.ned, G.lst⟩
  have hk : (P.add T v l).known = uqN P.known (v :: l) ∧ (P.add T v l).given = P.given ∧ (P.add T v l).finished = P.finished := by
    have : ∀ (l : List Nat) (P : PS), (l.foldl (fun P p => P.link v T p) P).known = P.known ∧ (l.foldl (fun P p => P.link v T p) P).given = P.given ∧ (l.foldl (fun P p => P.link v T p) P).finished = P.finished := by
      intro l
      induction l with
      | nil => exact fun P => ⟨rfl, rfl, rfl⟩
      | cons p l ih => exact fun P => ih (P.link v T p)
    exact this l (P.name (v :: l))
  have hall : ∀ x ∈ P.known ++ (v :: l), x < n := fun x hx => by
    rcases List.mem_append.mp hx with hx | hx
    · exact G.lt x hx
    · rcases List.mem_cons.mp hx with rfl | hx
      · exact hv
      · exact hl x hx
  have hmem : ∀ x, x ∈ uqN P.known (v :: l) → x < n := fun x hx => hall x (List.mem_append.mpr (uqN_mem.mp hx))
  have keys : (st.add (nm v) (l.map nm)).keys = (uqN P.known (v :: l)).map nm := by
    refine a1.trans ?_
    rw [← uqN_map (N.inj' hall), ← G.keys]
    rfl
  have hF : (st.add (nm v) (l.map nm)).Fit (5 * (T + 1)) := (G.fit.add (k := nm v) (ps := l.map nm)).mono (by rw [List.length_map]; lia)
  refine ⟨E ++ l.map fun p => ⟨p, v, T⟩, ⟨by rw [hk.1]; exact uqN_nd G.kn, by rw [hk.1]; exact hmem, by rw [keys, hk.1], fun e he => ?_, B.srt, fun p hp => ?_, fun k hk' => ?_, B.aft, B.ned, B.lst, hF⟩, ⟨?_, hk.2.1.trans R.gv, hk.2.2.trans R.fi, fun w hw => ?_, ?_, ?_⟩⟩
  · rw [hk.1]
    rcases List.mem_append.mp he with he | he
    · obtain ⟨h1, h2, h3⟩ := G.ed e he
      exact ⟨uqN_mem.mpr (.inl h1), uqN_mem.mpr (.inl h2), Nat.lt_succ_of_lt h3⟩
    · obtain ⟨p, hp, rfl⟩ := List.mem_map.mp he
      exact ⟨uqN_mem.mpr (.inr (.tail _ hp)), uqN_mem.mpr (.inr List.mem_cons_self), Nat.lt_succ_self _⟩
  · refine (a2 _).trans ?_
    rw [outN_add, List.map_append, List.map_replicate]
    rw [count_nm fun y hy e => N.inj y p (Nat.le_of_lt (hl y hy)) hp e]
    congr 1
    exact G.su p hp
  · refine (a2 _).trans ?_
    rw [keys] at hk'
    have h1 : k ∉ l.map nm := fun q => by
      obtain ⟨p, hp, rfl⟩ := List.mem_map.mp q
      exact hk' (List.mem_map_of_mem (uqN_mem.mpr (.inr (.tail _ hp))))
    rw [List.count_eq_zero.mpr h1]
    show st.su k ++ [] = []
    rw [List.append_nil]
    refine G.dfl k fun q => hk' ?_
    rw [G.keys] at q
    obtain ⟨p, hp, rfl⟩ := List.mem_map.mp q
    exact List.mem_map_of_mem (uqN_mem.mpr (.inl hp))
  · exact a6.trans R.rd
  · refine (congrFun a3 _).trans ?_
    rw [inN_add]
    show fset st.np (nm v) (st.np (nm v) + ((l.map nm).length : Int)) (nm w) = _
    rw [List.length_map]
    by_cases e : w = v
    · subst e
      rw [fset_self, if_pos rfl, R.np w hw]; lia
    · rw [fset_ne (fun q => e (N.inj w v (Nat.le_of_lt hw) (Nat.le_of_lt hv) q)), if_neg e, R.np w hw]; lia
  · exact a5.trans R.pass
  · exact a4.trans R.fin
end Mine.Internal
namespace Mine.Internal
open PySem PySem.W PyProof.Rows PySem.Calls PySem.F PySem.SeqAt
theorem ltL_irr : ∀ {l : List Int}, ltL l l = false
  | [] => rfl
  | x :: xs => by rw [ltL, if_pos rfl]; exact ltL_irr
theorem ltL_cons {x y : Int} {xs ys : List Int} : ltL (x :: xs) (y :: ys) = true ↔ x < y ∨ x = y ∧ ltL xs ys = true := by
  rw [ltL]
  split
  · rename_i e; subst e; exact ⟨fun h => .inr ⟨rfl, h⟩, fun h => (h.resolve_left (Int.lt_irrefl _)).2⟩
  · rename_i e; exact ⟨fun h => .inl (of_decide_eq_true h), fun h => decide_eq_true (h.resolve_right fun z => e z.1)⟩
theorem ltL_tr : ∀ {a b c : List Int}, ltL a b = true → ltL b c = true → ltL a c = true
  | [], [], _, h, _ => nomatch h
  | _ :: _, [], _, h, _ => nomatch h
  | _, _ :: _, [], _, h => nomatch h
  | [], _ :: _, _ :: _, _, _ => rfl
  | x :: xs, y :: ys, z :: zs, h1, h2 => by
    rw [ltL_cons] at *
    rcases h1 with h1 | ⟨rfl, h1⟩
    · rcases h2 with h2 | ⟨rfl, h2⟩
      · exact .inl (Int.lt_trans h1 h2)
      · exact .inl h1
    · rcases h2 with h2 | ⟨rfl, h2⟩
      · exact .inl h2
      · exact .inr ⟨rfl, ltL_tr h1 h2⟩
theorem ltL_tot : ∀ {a b : List Int}, a ≠ b → ltL a b = true ∨ ltL b a = true
  | [], [], h => (h rfl).elim
  | [], _ :: _, _ => .inl rfl
  | _ :: _, [], _ => .inr rfl
  | x :: xs, y :: ys, h => by
    rw [ltL_cons, ltL_cons]
    rcases Int.lt_trichotomy x y with q | rfl | q
    · exact .inl (.inl q)
    · rcases ltL_tot (a := xs) (b := ys) (fun z => h (by rw [z])) with q | q
      · exact .inl (.inr ⟨rfl, q⟩)
      · exact .inr (.inr ⟨rfl, q⟩)
    · exact .inr (.inl q)
theorem ltL_asym {a b : List Int} (h : ltL a b = true) : ¬ ltL b a = true := fun q => by
  have := ltL_tr h q; rw [ltL_irr] at this; cases this
theorem rise_eq {α : Type} {lt : α → α → Prop} (irr : ∀ a, ¬ lt a a) (as : ∀ a b, lt a b → ¬ lt b a) : ∀ {l m : List α}, l.Pairwise lt → m.Pairwise lt → (∀ x, x ∈ l ↔ x ∈ m) → l = m
  | [], [], _, _, _ => rfl
  | [], b :: m, _, _, h => absurd ((h b).mpr List.mem_cons_self) List.not_mem_nil
  | a :: l, [], _, _, h => absurd ((h a).mp List.mem_cons_self) List.not_mem_nil
  | a :: l, b :: m, hl, hm, h => by
    rw [List.pairwise_cons] at hl hm
    have e : a = b := by
      rcases List.mem_cons.mp ((h a).mp List.mem_cons_self) with q | q
      · exact q
      · rcases List.mem_cons.mp ((h b).mpr List.mem_cons_self) with q2 | q2
        · exact q2.symm
        · exact absurd (hl.1 b q2) (as _ _ (hm.1 a q))
    subst e
    rw [rise_eq irr as hl.2 hm.2 fun x => ?_]
    have hx := h x
    constructor
    · intro q
      exact (List.mem_cons.mp (hx.mp (List.mem_cons_of_mem _ q))).resolve_left fun z => irr a (by have := hl.1 x q; rwa [z] at this)
    · intro q
      exact (List.mem_cons.mp (hx.mpr (List.mem_cons_of_mem _ q))).resolve_left fun z => irr a (by have := hm.1 x q; rwa [z] at this)
theorem sorted_mem {rs : List (List Int)} {p : Array Nat} (h : Sorted rs rs.length p) : (p.toList.map fun i => rs.getD i []).Pairwise (fun x y => ltL x y = true) ∧ ∀ x, x ∈ (p.toList.map fun i => rs.getD i []) ↔ x ∈ rs := by
  obtain ⟨P, U⟩ := h
  have gk : ∀ i (hi : i < p.toList.length), p.toList[i] = p.getD i 0 := fun i hi => by
    rw [Array.getElem_toList]
    exact (getD_of (Array.getElem?_eq_getElem (by simpa using hi))).symm
  have hsz : p.toList.length = rs.length := by rw [Array.length_toList]; exact P.sz
  have hk : ∀ i (hi : i < rs.length), rs.getD i [] = rs[i] := fun i hi => by rw [List.getD_eq_getElem?_getD, List.getElem?_eq_getElem hi]; rfl
  refine ⟨?_, fun x => ⟨fun hx => ?_, fun hx => ?_⟩⟩
  · rw [List.pairwise_map, List.pairwise_iff_getElem]
    intro i j hi hj hij
    rw [gk i hi, gk j hj]
    exact U i j hij (by walk_at "le")
  · obtain ⟨i, hi, rfl⟩ := List.mem_map.mp hx
    obtain ⟨j, hj, rfl⟩ := List.mem_iff_getElem.mp hi
    rw [gk j hj, hk _ (P.lt j (by walk_at "le"))]
    exact List.getElem_mem _
  · have hnd : p.toList.Nodup := by
      rw [List.nodup_iff_pairwise_ne, List.pairwise_iff_getElem]
      intro i j hi hj hij z
      rw [gk i hi, gk j hj] at z
      have := P.inj i j (by walk_at "le") (by walk_at "le") z
      lia
    obtain ⟨j, hj, rfl⟩ := List.mem_iff_getElem.mp hx
    refine List.mem_map.mpr ⟨j, ?_, hk j hj⟩
    refine Classical.byContradiction fun z => ?_
    have := nodup_le (l := j :: p.toList) (os := List.range rs.length) (List.nodup_cons.mpr ⟨z, hnd⟩) fun y hy => by
      rcases List.mem_cons.mp hy with rfl | hy
      · exact List.mem_range.mpr hj
      · obtain ⟨i, hi, rfl⟩ := List.mem_iff_getElem.mp hy
        rw [gk i hi]; exact List.mem_range.mpr (P.lt i (by walk_at "le"))
    rw [List.length_cons, List.length_range] at this
    lia
theorem bit_add {v m j : Nat} (h : m.testBit v = false) : (2 ^ v + m).testBit j = (decide (j = v) || m.testBit j) := by
  rcases Nat.lt_trichotomy j v with q | rfl | q
  · rw [Nat.testBit_two_pow_add_gt q, decide_eq_false (Nat.ne_of_lt q), Bool.false_or]
  · rw [Nat.testBit_two_pow_add_eq, h, decide_eq_true rfl]; rfl
  · rw [decide_eq_false (Nat.ne_of_gt q), Bool.false_or]
    obtain ⟨k, rfl⟩ : ∃ k, j = k + (v + 1) := ⟨j - (v + 1), by lia⟩
    rw [← Nat.testBit_div_two_pow, ← Nat.testBit_div_two_pow]
    congr 1
    rw [Nat.testBit_eq_decide_div_mod_eq] at h
    have h0 := of_decide_eq_false h
    rw [Nat.pow_succ, ← Nat.div_div_eq_div_mul, ← Nat.div_div_eq_div_mul, Nat.add_div_left _ (Nat.two_pow_pos v)]
    lia
theorem done_bit {p : Nat} : ∀ {fi : List Nat}, fi.Nodup → ((doneM fi).testBit p = true ↔ p ∈ fi)
  | [], _ => by
    show (0 : Nat).testBit p = true ↔ _
    rw [Nat.zero_testBit]
    exact Iff.intro (fun h => (nomatch h)) (fun h => absurd h List.not_mem_nil)
  | v :: fi, h => by
    rw [List.nodup_cons] at h
    have e : doneM (v :: fi) = 2 ^ v + doneM fi := by unfold doneM; rw [List.map_cons, List.sum_cons]
    have hv : (doneM fi).testBit v = false := Bool.eq_false_iff.mpr fun q => h.1 ((done_bit h.2).mp q)
    rw [e, bit_add hv, Bool.or_eq_true, decide_eq_true_iff, done_bit h.2, List.mem_cons]
theorem ok_iff {need : Nat → Nat} {gv fi : List Nat} {v : Nat} (hf : fi.Nodup) : okF need gv fi v = true ↔ v ∉ gv ∧ ∀ p, (need v).testBit p = true → p ∈ fi := by
  unfold okF
  rw [Bool.and_eq_true, Bool.not_eq_true', decide_eq_false_iff_not, beq_iff_eq]
  refine and_congr_right fun _ => ⟨fun h p hp => ?_, fun h => Nat.eq_of_testBit_eq fun p => ?_⟩
  · rw [← h, Nat.testBit_and, Bool.and_eq_true] at hp
    exact (done_bit hf).mp hp.2
  · rw [Nat.testBit_and]
    cases q : (need v).testBit p with
    | false => rfl
    | true => rw [(done_bit hf).mpr (h p q)]; rfl
theorem behind_iff {need : Nat → Nat} {fi : List Nat} {v t : Nat} : t ∈ behindL need fi v ↔ ∃ p, fi[t]? = some p ∧ (need v).testBit p = true := by
  unfold behindL behindF
  rw [List.mem_filter, List.mem_range]
  constructor
  · rintro ⟨h1, h2⟩
    refine ⟨fi[t], List.getElem?_eq_getElem h1, ?_⟩
    rw [List.getD_eq_getElem?_getD, List.getElem?_eq_getElem h1, Option.getD_some] at h2
    rw [Nat.testBit_eq_decide_div_mod_eq]
    exact decide_eq_true (beq_iff_eq.mp h2)
  · rintro ⟨p, h1, h2⟩
    refine ⟨(List.getElem?_eq_some_iff.mp h1).1, ?_⟩
    rw [List.getD_eq_getElem?_getD, h1, Option.getD_some]
    rw [Nat.testBit_eq_decide_div_mod_eq] at h2
    exact beq_iff_eq.mpr (of_decide_eq_true h2)
variable {n T : Nat} {nm : Nat → AV} {P : PS} {E : List Ed} {fr : List Nat} {st : SS}
theorem ok_free (G : G0 n nm P E T st) (hf : P.finished.Nodup) {v : Nat} : (v ∈ P.known ∧ okF P.need P.given P.finished v = true) ↔ FreeOk P E v := by
  unfold FreeOk
  rw [ok_iff hf]
  refine and_congr_right fun _ => and_congr_right fun _ => ⟨fun h e he ev => h e.p ((G.ned v e.p).mpr ⟨e, he, rfl, ev⟩), fun h p hp => ?_⟩
  obtain ⟨e, he, h1, h2⟩ := (G.ned v p).mp hp
  rw [← h1]; exact h e he h2
theorem idx_at {l : List Nat} (h : l.Nodup) {i v : Nat} (hv : l[i]? = some v) : l.idxOf v = i := by
  have hm := List.mem_of_getElem? hv
  have h1 := List.getElem_idxOf (List.idxOf_lt_length_iff.mpr hm)
  exact nodup_idx (f := id) (by rw [List.map_id]; exact h) (List.getElem?_eq_some_iff.mpr ⟨_, h1⟩) hv rfl
theorem rowOf_v {v : Nat} : (rowOf P v).getD 2 0 = (v : Int) := by
  unfold rowOf rowF; split <;> rfl
theorem rows_mem (G : G0 n nm P E T st) (hf : P.finished.Nodup) {r : List Int} : r ∈ rowsF P.need P.last P.known P.given P.finished ↔ ∃ v, FreeOk P E v ∧ r = rowOf P v := by
  unfold rowsF
  rw [List.mem_filterMap]
  constructor
  · rintro ⟨i, hi, h⟩
    obtain ⟨v, hv⟩ : ∃ v, P.known[i]? = some v := ⟨_, List.getElem?_eq_getElem (List.mem_range.mp hi)⟩
    unfold rowAt at h
    rw [getD_at hv] at h
    split at h
    · rename_i hok
      refine ⟨v, (ok_free G hf).mp ⟨List.mem_of_getElem? hv, hok⟩, ?_⟩
      unfold rowOf
      rw [idx_at G.kn hv]; exact (Option.some.inj h).symm
    · cases h
  · rintro ⟨v, hF, rfl⟩
    obtain ⟨hk, hok⟩ := (ok_free G hf).mpr hF
    obtain ⟨i, hi⟩ := List.mem_iff_getElem?.mp hk
    refine ⟨i, List.mem_range.mpr (List.getElem?_eq_some_iff.mp hi).1, ?_⟩
    unfold rowAt
    rw [getD_at hi, hok, if_pos rfl]
    unfold rowOf
    rw [idx_at G.kn hi]
theorem rows_nd (G : G0 n nm P E T st) : (rowsF P.need P.last P.known P.given P.finished).Nodup := by
  unfold rowsF
  refine List.Pairwise.filterMap _ (R := fun a a' => a ≠ a' ∧ a < P.known.length ∧ a' < P.known.length) (fun i j hij b hb b' hb' e => ?_) ?_
  · obtain ⟨hne, hi, hj⟩ := hij
    have hb2 : ∀ {i : Nat} {b : List Int}, rowAt P.need P.last P.known P.given P.finished i = some b → b.getD 2 0 = ((P.known.getD i 0 : Nat) : Int) := fun h => by
      unfold rowAt at h
      split at h
      · rw [← Option.some.inj h]; unfold rowF; split <;> rfl
      · cases h
    have h1 := hb2 hb
    have h2 := hb2 hb'
    rw [← e, h1] at h2
    have h3 := Int.ofNat_inj.mp h2
    obtain ⟨v, hv⟩ : ∃ v, P.known[i]? = some v := ⟨_, List.getElem?_eq_getElem hi⟩
    obtain ⟨w, hw⟩ : ∃ w, P.known[j]? = some w := ⟨_, List.getElem?_eq_getElem hj⟩
    rw [getD_at hv, getD_at hw] at h3
    exact hne (nodup_idx (f := id) (by rw [List.map_id]; exact G.kn) hv hw h3)
  · rw [List.pairwise_iff_getElem]
    intro i j hi hj hij
    rw [List.getElem_range, List.getElem_range]
    rw [List.length_range] at hi hj
    exact ⟨Nat.ne_of_lt hij, hi, hj⟩
theorem Post.tot (G : G0 n nm P E T st) (R : Post n nm P E fr st) : Tot (fun i j => ltL ((rowsF P.need P.last P.known P.given P.finished).getD i []) ((rowsF P.need P.last P.known P.given P.finished).getD j [])) (rowsF P.need P.last P.known P.given P.finished).length := by
  have hn := rows_nd G
  generalize rowsF P.need P.last P.known P.given P.finished = rs at *
  refine ⟨fun i _ => ltL_irr, fun i j k _ _ _ => ltL_tr, fun i j hi hj hne => ltL_tot fun e => hne ?_⟩
  rw [List.getD_eq_getElem?_getD, List.getD_eq_getElem?_getD, List.getElem?_eq_getElem hi, List.getElem?_eq_getElem hj] at e
  exact nodup_idx (f := id) (by rw [List.map_id]; exact hn) (List.getElem?_eq_getElem hi) (List.getElem?_eq_getElem hj) e
theorem Post.sorted (G : G0 n nm P E T st) (R : Post n nm P E fr st) : ∀ p, Sorted (rowsF P.need P.last P.known P.given P.finished) (rowsF P.need P.last P.known P.given P.finished).length p → (p.toList.map fun i => ((rowsF P.need P.last P.known P.given P.finished).getD i []).getD 2 0) = fr.map fun (v : Nat) => (v : Int) := fun p hp => by
  obtain ⟨h1, h2⟩ := sorted_mem hp
  have e : (p.toList.map fun i => (rowsF P.need P.last P.known P.given P.finished).getD i []) = fr.map (rowOf P) := by
    refine rise_eq (lt := fun x y => ltL x y = true) (fun a q => by rw [ltL_irr] at q; cases q) (fun a b q => ltL_asym q) h1 R.ord fun x => ?_
    rw [h2 x, rows_mem G R.fnd, List.mem_map]
    exact ⟨fun pz4 => pz4.elim fun v pz5 => pz5.elim fun h e => ⟨v, (R.free v).mpr h, e.symm⟩, fun pz6 => pz6.elim fun v pz7 => pz7.elim fun h e => ⟨v, (R.free v).mp h, e.symm⟩⟩
  have := congrArg (List.map fun (r : List Int) => r.getD 2 0) e
  rw [List.map_map, List.map_map] at this
  refine this.trans (List.map_congr_left fun v _ => rowOf_v)
end Mine.Internal
namespace Mine.Internal
open PySem PySem.W PyProof.Rows PySem.Calls PySem.F PySem.SeqAt
theorem cnt_add {α : Type} {p q r : α → Bool} : ∀ {l : List α}, (∀ a, (p a = (q a || r a)) ∧ (q a && r a) = false) → l.countP p = l.countP q + l.countP r
  | [], _ => rfl
  | a :: l, h => by
    rw [List.countP_cons, List.countP_cons, List.countP_cons, cnt_add h]
    obtain ⟨h1, h2⟩ := h a
    rw [h1]
    generalize l.countP q = m
    generalize l.countP r = n
    cases hq : q a with
    | false =>
      cases hr : r a with
      | false => rfl
      | true => exact Nat.add_assoc m n 1
    | true =>
      cases hr : r a with
      | false => exact (Nat.add_right_comm m n 1)
      | true => rw [hq, hr] at h2; cases h2
theorem inN_zero {E : List Ed} {dn : List Nat} {v : Nat} : inN E dn v = 0 ↔ ∀ e ∈ E, e.v = v → e.p ∈ dn := by
  unfold inN
  rw [List.countP_eq_zero]
  refine forall_congr' fun e => forall_congr' fun _ => ?_
  rw [Bool.and_eq_true, decide_eq_true_iff, decide_eq_true_iff]
  exact ⟨fun h q => Classical.byContradiction fun z => h ⟨q, z⟩, fun h q => q.2 (h q.1)⟩
theorem inN_out {E : List Ed} {dn : List Nat} {p v : Nat} (hp : p ∉ dn) : inN E dn v = (outN E p).count v + inN E (dn ++ [p]) v := by
  have h1 : (outN E p).count v = E.countP fun e => decide (e.v = v) && decide (e.p = p) := by
    unfold outN
    rw [List.count, List.countP_map, List.countP_filter]
    refine List.countP_congr fun e _ => ?_
    rw [Bool.and_eq_true, Bool.and_eq_true, decide_eq_true_iff, decide_eq_true_iff]
    exact and_congr (beq_iff_eq (a := e.v)) Iff.rfl
  rw [h1]
  unfold inN
  refine cnt_add fun e => ⟨?_, ?_⟩
  · rw [← Bool.and_or_distrib_left, ← Bool.decide_or]
    refine congrArg _ (decide_eq_decide.mpr ⟨fun h => ?_, fun h => ?_⟩)
    · by_cases q : e.p = p
      · exact .inl q
      · exact .inr fun z => (List.mem_append.mp z).elim h fun y => q (List.mem_singleton.mp y)
    · rcases h with h | h
      · rw [h]; exact hp
      · exact fun z => h (List.mem_append_left _ z)
  · cases q : decide (e.p = p) with
    | false => rw [Bool.and_false]; rfl
    | true => rw [decide_eq_false (p := e.p ∉ dn ++ [p]) (fun z => z (List.mem_append_right dn (List.mem_singleton.mpr (of_decide_eq_true q)))), Bool.and_false, Bool.and_false]
theorem outN_mem {E : List Ed} {p v : Nat} : v ∈ outN E p ↔ ∃ e ∈ E, e.p = p ∧ e.v = v := by
  unfold outN
  rw [List.mem_map]
  constructor
  · rintro ⟨e, he, h⟩
    obtain ⟨h1, h2⟩ := List.mem_filter.mp he
    exact ⟨e, h1, of_decide_eq_true h2, h⟩
  · rintro ⟨e, h1, h2, h3⟩
    exact ⟨e, List.mem_filter.mpr ⟨h1, decide_eq_true h2⟩, h3⟩
variable {n T : Nat} {nm : Nat → AV} {P : PS} {E : List Ed} {fr : List Nat} {st : SS}
theorem NmOk.mem (N : NmOk n nm) {v : Nat} {l : List Nat} (hv : v ≤ n) (hl : ∀ x ∈ l, x ≤ n) : nm v ∈ l.map nm ↔ v ∈ l := by
  rw [List.mem_map]
  exact ⟨fun pz8 => pz8.elim fun x pz9 => pz9.elim fun hx e => N.inj x v (hl x hx) hv e ▸ hx, fun h => ⟨v, h, rfl⟩⟩
theorem Post.start (N : NmOk n nm) (G : G0 n nm P E T st) (R : Pre n nm P E st) : ∃ fr, Post n nm P E fr st.prep := by
  have hz : ∀ v, v ∈ P.known.filter (fun v => decide (inN E [] v = 0)) ↔ FreeOk P E v := fun v => by
    rw [List.mem_filter, decide_eq_true_iff, inN_zero]
    unfold FreeOk
    rw [R.gv, R.fi]
    exact ⟨fun h => ⟨h.1, List.not_mem_nil, h.2⟩, fun h => ⟨h.1, h.2.2⟩⟩
  refine ⟨P.known.filter (fun v => decide (inN E [] v = 0)), ⟨?_, ?_, ?_, ?_, ?_, ?_, ?_, ?_, fun v hv _ => R.np v hv |>.trans (by rw [R.fi]), G.kn.filter _, hz, ?_, ?_, ?_⟩⟩
  · show some (st.keys.filter fun k => decide (st.np k = 0)) = _
    rw [G.keys, List.filter_map]
    refine congrArg some (congrArg _ (List.filter_congr fun v hv => ?_))
    show decide (st.np (nm v) = 0) = _
    rw [R.np v (G.lt v hv)]
    exact decide_eq_decide.mpr Int.ofNat_eq_zero
  · rw [R.fi]; exact fun v hv => (nomatch hv)
  · rw [R.fi]; exact .nil
  · rw [R.gv]; exact fun v hv => (nomatch hv)
  · rw [R.gv]; exact .nil
  · rw [R.gv]; exact fun v hv => (nomatch hv)
  · rw [R.fi]; exact fun v hv => (nomatch hv)
  · rw [R.gv]; exact fun v hv => (nomatch hv)
  · rw [List.pairwise_map]
    refine List.Pairwise.sublist List.filter_sublist ?_
    have hrow : ∀ v, rowOf P v = [-1, ((P.known.idxOf v : Nat) : Int), (v : Int)] := fun v => by
      unfold rowOf rowF
      rw [R.fi]; rfl
    rw [List.pairwise_iff_getElem]
    intro i j hi hj hij
    rw [hrow, hrow, idx_at G.kn (List.getElem?_eq_getElem hi), idx_at G.kn (List.getElem?_eq_getElem hj), ltL_cons, ltL_cons]
    exact .inr ⟨rfl, .inl (Int.ofNat_lt.mpr hij)⟩
  · rw [R.gv]; exact R.pass
  · rw [R.fi]; exact R.fin
theorem Post.get (N : NmOk n nm) (G : G0 n nm P E T st) (R : Post n nm P E fr st) : Post n nm { P with given := P.given ++ fr } E [] (st.getReady (fr.map nm)) := by
  have hfk : ∀ v ∈ fr, v ∈ P.known ∧ v ∉ P.given := fun v hv => ⟨((R.free v).mp hv).1, ((R.free v).mp hv).2.1⟩
  have hfn : ∀ v ∈ fr, v ≤ n := fun v hv => Nat.le_of_lt (G.lt v (hfk v hv).1)
  have hno : ∀ v, v < n → v ∉ fr → (st.getReady (fr.map nm)).np (nm v) = st.np (nm v) := fun v hv h => out_np.1 fun q => h ((N.mem (Nat.le_of_lt hv) hfn).mp q)
  have hgn : ∀ v ∈ P.given, v < n := fun v hv => G.lt v (R.gsub v hv)
  refine ⟨rfl, fun v hv => List.mem_append_left _ (R.fsub v hv), R.fnd, fun v hv => ?_, List.nodup_append.mpr ⟨R.gnd, R.frn, fun a ha b hb e => (hfk b hb).2 (e ▸ ha)⟩, fun v hv => ?_, fun v hv => ?_, fun v hv hf => ?_, fun v hv hg => ?_, .nil, fun v => ?_, .nil, ?_, R.fin⟩
  · exact (List.mem_append.mp hv).elim (R.gsub v) fun h => (hfk v h).1
  · rcases List.mem_append.mp hv with h | h
    · exact R.gok v h
    · exact ((R.free v).mp h).2.2
  · rw [hno v (hgn v (R.fsub v hv)) fun h => (hfk v h).2 (R.fsub v hv)]; exact R.npf v hv
  · by_cases h : v ∈ fr
    · exact out_np.2 (List.mem_map_of_mem h)
    · have hg := (List.mem_append.mp hv).resolve_right h
      rw [hno v (hgn v hg) h]; exact R.npg v hg hf
  · have h1 : v ∉ P.given := fun h => hg (List.mem_append_left _ h)
    rw [hno v hv fun h => hg (List.mem_append_right _ h)]; exact R.np v hv h1
  · refine Iff.intro (fun h => absurd h List.not_mem_nil) fun pz10 => pz10.elim fun h1 pz11 => pz11.elim fun h2 h3 => absurd ((R.free v).mpr ⟨h1, fun h => h2 (List.mem_append_left _ h), h3⟩) fun h => h2 (List.mem_append_right _ h)
  · show st.npass + ((fr.map nm).length : Int) = _
    rw [R.pass, List.length_map, List.length_append, Int.natCast_add]
noncomputable def saidOf (P : PS) (v : Nat) : Str := if v ∉ P.known then " was not added using add()" else if v ∉ P.given then " was not passed out (still not ready)" else if v ∈ P.finished then " was already marked done" else ""
theorem Post.bad (N : NmOk n nm) (G : G0 n nm P E T st) (R : Post n nm P E fr st) {v : Nat} (hv : v ≤ n) (h : ¬ (v ∈ P.given ∧ v ∉ P.finished)) : Bad st (nm v) (saidOf P v) := by
  have hk : nm v ∈ st.keys ↔ v ∈ P.known := by rw [G.keys]; exact N.mem hv fun x hx => Nat.le_of_lt (G.lt x hx)
  unfold saidOf
  by_cases h1 : v ∈ P.known
  · rw [if_neg (fun q => q h1)]
    by_cases h2 : v ∈ P.given
    · rw [if_neg (fun q => q h2)]
      have h3 : v ∈ P.finished := Classical.byContradiction fun z => h ⟨h2, z⟩
      rw [if_pos h3]
      exact .again (hk.mpr h1) (R.npf v h3)
    · rw [if_pos h2]
      refine .early (hk.mpr h1) ?_
      rw [R.np v (G.lt v h1) h2]; exact Int.natCast_nonneg _
  · rw [if_pos h1]
    exact .unknown fun q => h1 (hk.mp q)
noncomputable def lastF (F : List Ed) (a v : Nat) : Nat := F.foldl (fun a e => if e.v = v then e.t else a) a
theorem lastF_eq {p v : Nat} : ∀ {E : List Ed} {a : Nat}, E.foldl (fun a e => if e.p = p ∧ e.v = v then e.t else a) a = lastF (E.filter fun e => decide (e.p = p)) a v
  | [], _ => rfl
  | e :: E, a => by
    rw [List.foldl_cons, lastF_eq, List.filter_cons]
    by_cases h : e.p = p
    · rw [if_pos (decide_eq_true h)]
      show lastF _ (if e.p = p ∧ e.v = v then e.t else a) v = lastF _ (if e.v = v then e.t else a) v
      by_cases h2 : e.v = v
      · rw [if_pos ⟨h, h2⟩, if_pos h2]
      · rw [if_neg fun q => h2 q.2, if_neg h2]
    · rw [if_neg fun q => h (of_decide_eq_true q), if_neg fun q => h q.1]
theorem lastF_no {v : Nat} : ∀ {F : List Ed} {a : Nat}, v ∉ F.map (·.v) → lastF F a v = a
  | [], _, _ => rfl
  | e :: F, a, h => by
    rw [List.map_cons, List.mem_cons, not_or] at h
    show lastF F (if e.v = v then e.t else a) v = a
    rw [if_neg (Ne.symm h.1)]; exact lastF_no h.2
theorem lastF_in {v : Nat} : ∀ {F : List Ed} {a : Nat}, v ∈ F.map (·.v) → (∃ e ∈ F, e.v = v ∧ lastF F a v = e.t) ∧ ∀ b, lastF F a v = lastF F b v
  | [], _, h => nomatch h
  | e :: F, a, h => by
    show (∃ e' ∈ e :: F, e'.v = v ∧ lastF F (if e.v = v then e.t else a) v = e'.t) ∧ ∀ b, lastF F (if e.v = v then e.t else a) v = lastF F (if e.v = v then e.t else b) v
    by_cases hF : v ∈ F.map (·.v)
    · obtain ⟨⟨e', h1, h2, h3⟩, h4⟩ := lastF_in (a := if e.v = v then e.t else a) hF
      exact ⟨⟨e', .tail _ h1, h2, h3⟩, fun b => h4 _⟩
    · have hv : e.v = v := ((List.mem_cons.mp h).resolve_right hF).symm
      refine ⟨⟨e, List.mem_cons_self, hv, ?_⟩, fun b => ?_⟩
      · rw [if_pos hv]; exact lastF_no hF
      · rw [if_pos hv, if_pos hv]
theorem lasts_up : ∀ {F : List Ed} {a : Nat}, (F.Pairwise fun e e' => e.t ≤ e'.t ∧ (e.t = e'.t → e.v = e'.v)) → (lasts (F.map (·.v))).Pairwise fun v w => lastF F a v < lastF F a w
  | [], _, _ => .nil
  | e :: F, a, h => by
    rw [List.pairwise_cons] at h
    have same : ∀ v ∈ F.map (·.v), lastF (e :: F) a v = lastF F a v := fun v hv => (lastF_in hv).2 _
    have ih := lasts_up (a := a) h.2
    have tail : (lasts (F.map (·.v))).Pairwise fun v w => lastF (e :: F) a v < lastF (e :: F) a w := ih.imp_of_mem fun hv hw q => by
      rw [same _ (lasts_mem.mp hv), same _ (lasts_mem.mp hw)]; exact q
    rw [List.map_cons, lasts_cons]
    by_cases hm : e.v ∈ F.map (·.v)
    · rw [if_pos hm]; exact tail
    · rw [if_neg hm, List.pairwise_cons]
      refine ⟨fun w hw => ?_, tail⟩
      have hw' := lasts_mem.mp hw
      obtain ⟨⟨e', h1, h2, h3⟩, _⟩ := lastF_in (a := a) hw'
      rw [same w hw', h3]
      have he : lastF (e :: F) a e.v = e.t := by
        show lastF F (if e.v = e.v then e.t else a) e.v = _
        rw [if_pos rfl]; exact lastF_no hm
      rw [he]
      obtain ⟨q1, q2⟩ := h.1 e' h1
      exact Nat.lt_of_le_of_ne q1 fun z => hm (by rw [q2 z, h2]; exact hw')
end Mine.Internal
namespace Mine.Internal
open PySem PySem.W PyProof.Rows PySem.Calls PySem.F PySem.SeqAt
theorem behind_snoc {need : Nat → Nat} {fi : List Nat} {v w : Nat} : behindL need (fi ++ [v]) w = behindL need fi w ++ if (need w).testBit v = true then [fi.length] else [] := by
  unfold behindL
  rw [List.length_append, List.length_cons, List.length_nil, List.range_succ, List.filter_append]
  congr 1
  · refine List.filter_congr fun t ht => ?_
    unfold behindF
    rw [getD_l (List.mem_range.mp ht)]
  · rw [List.filter_cons, List.filter_nil]
    have : behindF need (fi ++ [v]) w fi.length = (need w).testBit v := by
      unfold behindF
      rw [getD_r, Nat.testBit_eq_decide_div_mod_eq]; rfl
    rw [this]
theorem row_old {need : Nat → Nat} {lt : Nat → Nat → Nat} {fi : List Nat} {v p w : Nat} (h : (need w).testBit v = false) : rowF need lt (fi ++ [v]) p w = rowF need lt fi p w := by
  unfold rowF
  rw [behind_snoc, h, if_neg Bool.false_ne_true, List.append_nil]
  cases hb : (behindL need fi w).getLast? with
  | none => rfl
  | some t =>
    obtain ⟨ws, hws⟩ := List.getLast?_eq_some_iff.mp hb
    obtain ⟨q, hq, _⟩ := behind_iff.mp (show t ∈ behindL need fi w by rw [hws]; simp)
    show [(t : Int), ((lt ((fi ++ [v]).getD t 0) w : Nat) : Int), (w : Int)] = [(t : Int), ((lt (fi.getD t 0) w : Nat) : Int), (w : Int)]
    rw [getD_l (List.getElem?_eq_some_iff.mp hq).1]
theorem row_new {need : Nat → Nat} {lt : Nat → Nat → Nat} {fi : List Nat} {v p w : Nat} (h : (need w).testBit v = true) : rowF need lt (fi ++ [v]) p w = [(fi.length : Int), (lt v w : Int), (w : Int)] := by
  unfold rowF
  rw [behind_snoc, h, if_pos rfl, List.getLast?_append, List.getLast?_singleton]
  show [((fi.length : Nat) : Int), ((lt ((fi ++ [v]).getD fi.length 0) w : Nat) : Int), (w : Int)] = _
  rw [getD_r]
theorem row_lt {need : Nat → Nat} {lt : Nat → Nat → Nat} {fi : List Nat} {p w : Nat} {x y : Int} : ltL (rowF need lt fi p w) [(fi.length : Int), x, y] = true := by
  unfold rowF
  split
  · rw [ltL_cons]; exact .inl (by walk_at "le")
  · rename_i t ht
    obtain ⟨ws, hws⟩ := List.getLast?_eq_some_iff.mp ht
    obtain ⟨q, hq, _⟩ := behind_iff.mp (show t ∈ behindL need fi w by rw [hws]; simp)
    rw [ltL_cons]
    exact .inl (Int.ofNat_lt.mpr (List.getElem?_eq_some_iff.mp hq).1)
variable {n T : Nat} {nm : Nat → AV} {P : PS} {E : List Ed} {fr : List Nat} {st : SS}
theorem Post.fin1 (N : NmOk n nm) (G : G0 n nm P E T st) (R : Post n nm P E fr st) {v : Nat} (h1 : v ∈ P.given) (h2 : v ∉ P.finished) : ∃ fr', Post n nm (P.fin [v]) E fr' (st.done1 (nm v)) := by
  have hvn : v < n := G.lt v (R.gsub v h1)
  have hgn : ∀ w ∈ P.given, w < n := fun w hw => G.lt w (R.gsub w hw)
  have hT : ∀ w ∈ outN E v, w ∈ P.known ∧ w ∉ P.given := fun w hw => by
    obtain ⟨e, he, e1, e2⟩ := outN_mem.mp hw
    refine ⟨e2 ▸ (G.ed e he).2.1, fun hg => h2 ?_⟩
    rw [← e1]; exact R.gok w hg e he e2
  have hTn : ∀ w ∈ outN E v, w < n := fun w hw => G.lt w (hT w hw).1
  have hsu := G.su v (Nat.le_of_lt hvn)
  have hTv : ∀ w ∈ outN E v, w ≠ v := fun w hw e => (hT w hw).2 (e ▸ h1)
  have hcount : ∀ w, w < n → ((outN E v).map nm).count (nm w) = (outN E v).count w := fun w hw => count_nm fun y hy e => N.inj y w (Nat.le_of_lt (hTn y hy)) (Nat.le_of_lt hw) e
  have hc0 : ∀ w ∈ P.given, (outN E v).count w = 0 := fun w hw => List.count_eq_zero.mpr fun q => (hT w q).2 hw
  -- the counts
  have np1 : ∀ w, w < n → (st.done1 (nm v)).np (nm w) = (if w = v then -2 else st.np (nm w)) - ((outN E v).count w : Int) := fun w hw => by
    show ((st.su (nm v)).foldl (fun (s : SS) p => s.dec p) { st with np := fset st.np (nm v) (-2) }).np (nm w) = _
    rw [decs_np, hsu, hcount w hw]
    congr 1
    show fset st.np (nm v) (-2) (nm w) = _
    by_cases e : w = v
    · rw [if_pos e, e, fset_self]
    · rw [if_neg e, fset_ne fun q => e (N.inj w v (Nat.le_of_lt hw) (Nat.le_of_lt hvn) q)]
  have hin : ∀ w, inN E P.finished w = (outN E v).count w + inN E (P.finished ++ [v]) w := fun w => inN_out h2
  -- what gets free
  have hzs : zs (fun w => (inN E P.finished w : Int)) (outN E v) = (lasts (outN E v)).filter fun w => decide ((inN E P.finished w : Int) = ((outN E v).count w : Int)) := zs_lasts fun w _ => by rw [hin w]; lia
  have hnew : ∀ w, w ∈ zs (fun w => (inN E P.finished w : Int)) (outN E v) ↔ w ∈ outN E v ∧ inN E (P.finished ++ [v]) w = 0 := fun w => by
    rw [hzs, List.mem_filter, lasts_mem, decide_eq_true_iff, hin w]
    exact and_congr_right fun _ => by lia
  have hsame := SS.done1_same (st := st) (k := nm v)
  have hned : ∀ w, w ∈ outN E v → (P.need w).testBit v = true := fun w hw => by
    obtain ⟨e, he, e1, e2⟩ := outN_mem.mp hw
    exact (G.ned w v).mpr ⟨e, he, e1, e2⟩
  have hfrT : ∀ w ∈ fr, w ∉ outN E v := fun w hw q => by
    obtain ⟨e, he, e1, e2⟩ := outN_mem.mp q
    exact h2 (e1 ▸ ((R.free w).mp hw).2.2 e he e2)
  refine ⟨fr ++ zs (fun w => (inN E P.finished w : Int)) (outN E v), ⟨?_, fun w hw => ?_, List.nodup_append.mpr ⟨R.fnd, by simp, fun a ha b hb e => h2 (by rw [← List.mem_singleton.mp hb, ← e]; exact ha)⟩, R.gsub, R.gnd, fun w hw e he ev => List.mem_append_left _ (R.gok w hw e he ev), fun w hw => ?_, fun w hw hf => ?_, fun w hw hg => ?_, ?_, fun w => ?_, ?_, ?_, ?_⟩⟩
  · show ((st.su (nm v)).foldl (fun (s : SS) p => s.dec p) { st with np := fset st.np (nm v) (-2) }).ready = _
    rw [decs_ready (st := { st with np := fset st.np (nm v) (-2) }) (r := fr.map nm) R.rd, hsu, List.map_append]
    congr 2
    refine zs_map (N.inj' hTn) fun x hx => ?_
    show fset st.np (nm v) (-2) (nm x) = _
    rw [fset_ne fun q => hTv x hx (N.inj x v (Nat.le_of_lt (hTn x hx)) (Nat.le_of_lt hvn) q)]
    exact R.np x (hTn x hx) (hT x hx).2
  · rcases List.mem_append.mp hw with hw | hw
    · exact R.fsub w hw
    · rw [List.mem_singleton.mp hw]; exact h1
  · rcases List.mem_append.mp hw with hw | hw
    · have hg := R.fsub w hw
      rw [np1 w (hgn w hg), if_neg (fun e : w = v => h2 (e ▸ hw)), R.npf w hw, hc0 w hg]; rfl
    · rw [List.mem_singleton.mp hw, np1 v hvn, if_pos rfl, hc0 v h1]; rfl
  · have hne : w ≠ v := fun e => hf (List.mem_append_right _ (List.mem_singleton.mpr e))
    rw [np1 w (hgn w hw), if_neg hne, R.npg w hw fun q => hf (List.mem_append_left _ q), hc0 w hw]; rfl
  · rw [np1 w hw, if_neg (fun e : w = v => hg (show w ∈ P.given from e ▸ h1)), R.np w hw hg, hin w]
    show _ = (inN E (P.finished ++ [v]) w : Int)
    lia
  · refine List.nodup_append.mpr ⟨R.frn, by rw [hzs]; exact lasts_nd.filter _, fun a ha b hb e => hfrT a ha ?_⟩
    rw [e]; exact ((hnew b).mp hb).1
  · rw [List.mem_append, hnew]
    constructor
    · rintro (h | ⟨h, h0⟩)
      · obtain ⟨a1, a2, a3⟩ := (R.free w).mp h
        exact ⟨a1, a2, fun e he ev => List.mem_append_left _ (a3 e he ev)⟩
      · exact ⟨(hT w h).1, (hT w h).2, inN_zero.mp h0⟩
    · rintro ⟨a1, a2, a3⟩
      by_cases hw : w ∈ outN E v
      · exact .inr ⟨hw, inN_zero.mpr a3⟩
      · refine .inl ((R.free w).mpr ⟨a1, a2, fun e he ev => ?_⟩)
        rcases List.mem_append.mp (a3 e he ev) with q | q
        · exact q
        · exact absurd (outN_mem.mpr ⟨e, he, List.mem_singleton.mp q, ev⟩) hw
  · have ro : ∀ w ∈ fr, rowOf (P.fin [v]) w = rowOf P w := fun w hw => by
      unfold rowOf
      refine row_old (Bool.eq_false_iff.mpr fun q => ?_)
      obtain ⟨e, he, e1, e2⟩ := (G.ned w v).mp q
      exact hfrT w hw (outN_mem.mpr ⟨e, he, e1, e2⟩)
    have rn : ∀ w ∈ zs (fun w => (inN E P.finished w : Int)) (outN E v), rowOf (P.fin [v]) w = [(P.finished.length : Int), (P.last v w : Int), (w : Int)] := fun w hw => by
      unfold rowOf
      exact row_new (hned w ((hnew w).mp hw).1)
    rw [List.map_append, List.map_congr_left ro, List.map_congr_left rn]
    refine List.pairwise_append.mpr ⟨R.ord, ?_, fun a ha b hb => ?_⟩
    · rw [List.pairwise_map, hzs]
      refine List.Pairwise.filter _ ?_
      have up := lasts_up (F := E.filter fun e => decide (e.p = v)) (a := 0) (G.srt.filter _)
      refine up.imp fun {a b} h => ?_
      rw [ltL_cons]
      refine .inr ⟨rfl, ?_⟩
      rw [ltL_cons, G.lst, G.lst]
      unfold lastT
      rw [lastF_eq, lastF_eq]
      exact .inl (Int.ofNat_lt.mpr h)
    · obtain ⟨w, _, rfl⟩ := List.mem_map.mp ha
      obtain ⟨u, _, rfl⟩ := List.mem_map.mp hb
      exact row_lt
  · show (st.done1 (nm v)).npass = _
    rw [hsame.2.2.2.1]; exact R.pass
  · rw [hsame.2.2.2.2.1, R.fin]
    show _ = ((P.finished ++ [v]).length : Int)
    rw [List.length_append]; rfl
end Mine.Internal
namespace Mine.Internal
open PySem PySem.W PyProof.Rows PySem.Calls PySem.F PySem.SeqAt
section
variable {α β : Type} {f : α → β} {su : α → List α} {su' : β → List β} {M : α → Prop}
theorem stay_via (hc : ∀ v, M v → ∀ w ∈ su v, M w) (hs : ∀ v, M v → su' (f v) = (su v).map f) {v : α} (hv : M v) : Stay su' (f v) ↔ Stay su v := by
  constructor
  · rintro ⟨S, h1, h2⟩
    refine ⟨fun u => M u ∧ S (f u), ⟨hv, h1⟩, fun u pz12 => pz12.elim fun hu su1 => ?_⟩
    obtain ⟨w', hw', sw⟩ := h2 (f u) su1
    rw [hs u hu] at hw'
    obtain ⟨w, hw, rfl⟩ := List.mem_map.mp hw'
    exact ⟨w, hw, hc u hu w hw, sw⟩
  · rintro ⟨S, h1, h2⟩
    refine ⟨fun y => ∃ u, M u ∧ S u ∧ y = f u, ⟨v, hv, h1, rfl⟩, fun y pz13 => pz13.elim fun u pz14 => pz14.elim fun hu pz15 => pz15.elim fun su1 e => ?_⟩
    obtain ⟨w, hw, sw⟩ := h2 u su1
    exact ⟨f w, by rw [e, hs u hu]; exact List.mem_map_of_mem hw, w, hc u hu w hw, sw, rfl⟩
theorem first_via (hc : ∀ v, M v → ∀ w ∈ su v, M w) (hs : ∀ v, M v → su' (f v) = (su v).map f) {u w : α} (hu : M u) (h : FirstStay su u w) : FirstStay su' (f u) (f w) ∧ M w := by
  obtain ⟨a, b, e, ha, hw⟩ := h
  have hm : ∀ x ∈ a ++ w :: b, M x := fun x hx => hc u hu x (by rw [e]; exact hx)
  have mw := hm w (by first | decide | simp)
  refine ⟨⟨a.map f, b.map f, by rw [hs u hu, e, List.map_append]; rfl, fun t ht q => ?_, (stay_via hc hs mw).mpr hw⟩, mw⟩
  obtain ⟨t0, ht0, rfl⟩ := List.mem_map.mp ht
  exact ha t0 ht0 ((stay_via hc hs (hm t0 (List.mem_append_left _ ht0))).mp q)
theorem chain_via (hc : ∀ v, M v → ∀ w ∈ su v, M w) (hs : ∀ v, M v → su' (f v) = (su v).map f) {l : List α} (h : Chain (FirstStay su) l) : (∀ v, l.head? = some v → M v) → (∀ x ∈ l, M x) ∧ Chain (FirstStay su') (l.map f) := by
  induction h with
  | one => exact fun hm => ⟨fun x hx => by rw [List.mem_singleton.mp hx]; exact hm _ rfl, .one⟩
  | @cons u v l h1 h2 ih =>
    intro hm
    have hu := hm u rfl
    obtain ⟨h3, mv⟩ := first_via hc hs hu h1
    obtain ⟨i1, i2⟩ := ih fun x hx => by cases hx; exact mv
    exact ⟨fun x hx => (List.mem_cons.mp hx).elim (fun e => e ▸ hu) (i1 x), .cons h3 i2⟩
theorem RingRes.via (hc : ∀ v, M v → ∀ w ∈ su v, M w) (hs : ∀ v, M v → su' (f v) = (su v).map f) (hi : ∀ x y, M x → M y → f x = f y → x = y) {keys : List α} {r : Option (List α)} (h : RingRes keys su r) (hk : ∀ k ∈ keys, M k) :
    RingRes (keys.map f) su' (r.map (List.map f)) ∧ ∀ l, r = some l → (∀ x ∈ l, M x) ∧ ∃ l' : List α, l'.Nodup ∧ (∀ x ∈ l', M x) ∧ l.length ≤ l'.length + 1 := by
  cases h with
  | no h =>
    refine ⟨.no fun k hk' q => ?_, fun l e => nomatch e⟩
    obtain ⟨k0, hk0, rfl⟩ := List.mem_map.mp hk'
    exact h k0 hk0 ((stay_via hc hs (hk k0 hk0)).mp q)
  | @yes pre post v0 last w p q e hp hn hh hl hch hf =>
    have m0 : M v0 := hk v0 (by rw [e]; simp)
    obtain ⟨hm, hch'⟩ := chain_via hc hs hch fun x hx => by rw [hh] at hx; cases hx; exact m0
    have ml : M last := hm last (List.mem_of_getLast? hl)
    obtain ⟨hf', mw⟩ := first_via hc hs ml hf
    constructor
    · rw [List.map_append] at hch'
      have hn' : (p.map f ++ f w :: q.map f).Nodup := by
        rw [show p.map f ++ f w :: q.map f = (p ++ w :: q).map f by rw [List.map_append]; rfl]
        rw [List.nodup_iff_pairwise_ne, List.pairwise_map]
        exact (List.nodup_iff_pairwise_ne.mp hn).imp_of_mem fun ha hb hne e => hne (hi _ _ (hm _ ha) (hm _ hb) e)
      have := RingRes.yes (keys := keys.map f) (su := su') (pre := pre.map f) (post := post.map f) (v0 := f v0) (last := f last) (w := f w) (p := p.map f) (q := q.map f) (by rw [e, List.map_append]; rfl) (fun k hk' s => ?_) hn'
        (by rw [show p.map f ++ f w :: q.map f = (p ++ w :: q).map f by rw [List.map_append]; rfl, List.head?_map, hh]; rfl) (by rw [show p.map f ++ f w :: q.map f = (p ++ w :: q).map f by rw [List.map_append]; rfl, List.getLast?_map, hl]; rfl) hch' hf'
      · show RingRes _ _ (some ((w :: q ++ [w]).map f))
        rw [List.map_append]; exact this
      · obtain ⟨k0, hk0, rfl⟩ := List.mem_map.mp hk'
        exact hp k0 hk0 ((stay_via hc hs (hk k0 (by rw [e]; simp [hk0]))).mp s)
    · intro l el
      cases el
      refine ⟨fun x hx => ?_, p ++ w :: q, hn, hm, ?_⟩
      · rcases List.mem_append.mp hx with hx | hx
        · exact hm x (List.mem_append_right _ hx)
        · rw [List.mem_singleton.mp hx]; exact mw
      · rw [List.length_append, List.length_append, List.length_cons]
        simp only [List.length_cons, List.length_nil]; lia
theorem RingRes.map {keys : List α} {su af : α → List α} {r : Option (List α)} (h : RingRes keys su r) (hf : ∀ u w, FirstStay su u w → FirstStay af u w) (hs : ∀ v, Stay su v ↔ Stay af v) : RingRes keys af r := by
  have mono : ∀ {l : List α}, Chain (FirstStay su) l → Chain (FirstStay af) l := fun c => by
    induction c with
    | one => exact .one
    | cons h1 _ ih => exact .cons (hf _ _ h1) ih
  cases h with
  | no h => exact .no fun k hk z => h k hk ((hs k).mpr z)
  | yes hk hp hn hh hl hc hf' => exact .yes hk (fun k hk z => hp k hk ((hs k).mpr z)) hn hh hl (mono hc) (hf _ _ hf')
end
variable {n T : Nat} {nm : Nat → AV} {P : PS} {E : List Ed} {fr : List Nat} {st : SS}
theorem G0.closed (G : G0 n nm P E T st) : ∀ k s, s ∈ st.su k → s ∈ st.keys := fun k s hs => by
  by_cases hk : k ∈ st.keys
  · rw [G.keys] at hk ⊢
    obtain ⟨p, hp, rfl⟩ := List.mem_map.mp hk
    rw [G.su p (Nat.le_of_lt (G.lt p hp))] at hs
    obtain ⟨w, hw, rfl⟩ := List.mem_map.mp hs
    obtain ⟨e, he, _, e2⟩ := outN_mem.mp hw
    exact List.mem_map_of_mem (e2 ▸ (G.ed e he).2.1)
  · rw [G.dfl k hk] at hs; exact absurd hs List.not_mem_nil
theorem G0.aft_in (G : G0 n nm P E T st) {p w : Nat} (h : w ∈ P.after p) : w ∈ P.known := by
  rw [G.aft] at h
  obtain ⟨e, he, _, e2⟩ := outN_mem.mp ((uqN_mem.mp h).resolve_left List.not_mem_nil)
  exact e2 ▸ (G.ed e he).2.1
theorem G0.rg (G : G0 n nm P E T st) (hn : n ≤ 60) (hT : T ≤ 400) : RgOk (IV P.known) (suI fun p => IV (P.after p)) := by
  have hkn : P.known.length ≤ n := by
    have := nodup_le (os := List.range n) G.kn fun v hv => List.mem_range.mpr (G.lt v hv)
    rwa [List.length_range] at this
  refine ⟨by rw [List.length_map]; lia, fun v hv => ?_, fun v hv w hw => ?_, fun v => ?_, ?_⟩
  · obtain ⟨i, _, rfl⟩ := List.mem_map.mp hv; exact KO.int
  · obtain ⟨i, _, rfl⟩ := List.mem_map.mp hv
    obtain ⟨j, hj, rfl⟩ := List.mem_map.mp (show w ∈ IV (P.after (i : Int).toNat) from hw)
    exact List.mem_map_of_mem (G.aft_in hj)
  · cases v with
    | int i =>
      show (IV (P.after i.toNat)).length ≤ _
      rw [List.length_map]
      have hnd : (P.after i.toNat).Nodup := by rw [G.aft]; exact uqN_nd .nil
      have := nodup_le hnd fun w hw => G.aft_in hw
      lia
    | _ => exact Nat.zero_le _
  · rw [List.nodup_iff_pairwise_ne, List.pairwise_map]
    exact (List.nodup_iff_pairwise_ne.mp G.kn).imp fun hne e => hne (Int.ofNat.inj (AV.int.inj e))
theorem G0.ring (N : NmOk n nm) (G : G0 n nm P E T st) {r : Option (List AV)} (h : RingRes (IV P.known) (suI fun p => IV (P.after p)) r) : ∃ ps : Option (List Nat), r = ps.map IV ∧ (∀ l, ps = some l → l.length ≤ n + 1 ∧ ∀ v ∈ l, v < n) ∧ ∀ r', RingRes st.keys st.su r' → r' = ps.map (List.map nm) := by
  let f : AV → AV := fun v => match v with | .int i => nm i.toNat | _ => .none
  let g : AV → Nat := fun v => match v with | .int i => i.toNat | _ => 0
  have hM : ∀ {x : AV}, x ∈ IV P.known → ∃ p, p ∈ P.known ∧ x = iv p := fun hx => by
    obtain ⟨p, hp, rfl⟩ := List.mem_map.mp hx; exact ⟨p, hp, rfl⟩
  have hfl : ∀ {l : List AV}, (∀ x ∈ l, x ∈ IV P.known) → l.map f = (l.map g).map nm ∧ IV (l.map g) = l ∧ ∀ v ∈ l.map g, v < n := fun {l} hl => by
    refine ⟨?_, ?_, fun v hv => ?_⟩
    · rw [List.map_map]
      refine List.map_congr_left fun x hx => ?_
      obtain ⟨p, _, rfl⟩ := hM (hl x hx); rfl
    · rw [IV, List.map_map]
      refine (List.map_congr_left fun x hx => ?_).trans (List.map_id l)
      obtain ⟨p, _, rfl⟩ := hM (hl x hx); rfl
    · obtain ⟨x, hx, rfl⟩ := List.mem_map.mp hv
      obtain ⟨p, hp, rfl⟩ := hM (hl x hx)
      exact G.lt p hp
  have hsu : ∀ v, v ∈ IV P.known → uqN [] (st.su (f v)) = ((suI fun p => IV (P.after p)) v).map f := fun v hv => by
    obtain ⟨p, hp, rfl⟩ := hM hv
    show uqN [] (st.su (nm p)) = (IV (P.after p)).map f
    rw [G.su p (Nat.le_of_lt (G.lt p hp)), G.aft, List.map_map]
    have := uqN_map (f := nm) (S := []) (l := outN E p) (N.inj' fun x hx => by
      obtain ⟨e, he, _, e2⟩ := outN_mem.mp (show x ∈ outN E p from hx)
      exact e2 ▸ G.lt _ (G.ed e he).2.1)
    exact this
  obtain ⟨h1, h2⟩ := RingRes.via (f := f) (su' := fun k => uqN [] (st.su k)) (M := fun x => x ∈ IV P.known) (fun v hv w hw => by
      obtain ⟨p, hp, rfl⟩ := hM hv
      obtain ⟨j, hj, rfl⟩ := List.mem_map.mp (show w ∈ IV (P.after p) from hw)
      exact List.mem_map_of_mem (G.aft_in hj)) hsu (fun x y hx hy e => by
      obtain ⟨p, hp, rfl⟩ := hM hx
      obtain ⟨q, hq, rfl⟩ := hM hy
      have e : nm p = nm q := e
      rw [N.inj p q (Nat.le_of_lt (G.lt p hp)) (Nat.le_of_lt (G.lt q hq)) e]) h (fun k hk => hk)
  have hkeys : (IV P.known).map f = st.keys := by
    rw [G.keys, List.map_map]; rfl
  rw [hkeys] at h1
  have hst : ∀ v, Stay st.su v ↔ Stay (fun k => uqN [] (st.su k)) v := fun v => ⟨Stay.of_mem fun v w hw => uqN_mem.mpr (.inr hw), Stay.of_mem fun v w hw => (uqN_mem.mp hw).resolve_left List.not_mem_nil⟩
  have huq : ∀ r', RingRes st.keys st.su r' → r' = r.map (List.map f) := fun r' hr' => by
    refine RingRes.unique (hr'.map (fun u w hfs => ?_) hst) h1
    obtain ⟨a, b, e, ha, hw⟩ := hfs
    obtain ⟨a', b', e', ha'⟩ := first_uq (P := Stay st.su) e ha hw
    exact ⟨a', b', e', fun t ht q => ha' t ht ((hst t).mpr q), (hst w).mp hw⟩
  cases r with
  | none => exact ⟨none, rfl, fun l e => (nomatch e), huq⟩
  | some l =>
    obtain ⟨a1, l', a2, a3, a4⟩ := h2 l rfl
    obtain ⟨b1, b2, b3⟩ := hfl a1
    refine ⟨some (l.map g), by rw [Option.map_some, b2], fun l0 e => ?_, fun r' hr' => ?_⟩
    · cases e
      refine ⟨?_, b3⟩
      rw [List.length_map]
      have h3 := nodup_le a2 a3
      have h4 : P.known.length ≤ n := by
        have := nodup_le (os := List.range n) G.kn fun v hv => List.mem_range.mpr (G.lt v hv)
        rwa [List.length_range] at this
      rw [List.length_map] at h3
      lia
    · rw [huq r' hr', Option.map_some, Option.map_some, b1]
end Mine.Internal
namespace Mine.Internal
end Mine.Internal
namespace Mine.Internal
open PySem PySem.W PyProof.Rows PySem.Calls PySem.F PySem.SeqAt
theorem tab_set {n i : Nat} {f : Nat → AV} {x : AV} (h : i < n) : (tab n f).set i x = tab n (fsN f i x) := by
  refine List.ext_getElem? fun j => ?_
  unfold tab
  rw [List.getElem?_set, List.getElem?_map, List.getElem?_map]
  by_cases e : i = j
  · subst e
    rw [if_pos rfl, if_pos (by simpa using h), List.getElem?_range h]
    simp [fsN]
  · rw [if_neg e]
    cases hj : (List.range n)[j]? with
    | none => rfl
    | some y =>
      have : y = j := by
        obtain ⟨h1, h2⟩ := List.getElem?_eq_some_iff.mp hj
        rw [List.getElem_range] at h2; exact h2.symm
      subst this
      show some (f y) = some (fsN f i x y)
      rw [fsN, if_neg (Ne.symm e)]
theorem tab_congr {n : Nat} {f f' : Nat → AV} (h : ∀ i, i < n → f i = f' i) : tab n f = tab n f' := List.map_congr_left fun i hi => h i (List.mem_range.mp hi)
structure BkAt (σ : Addr → Option (Nat × Cell)) (kv fv nv av lv : Addr) (as ls : List Addr) (n : Nat) (P : PS) : Prop where
  kv : σ kv = some (6, .list (IV P.known))
  fv : σ fv = some (10, .list (IV P.finished))
  nv : σ nv = some (11, .list (tab n fun v => iv (P.need v)))
  av : LT σ av 12 13 as n fun p => IV (P.after p)
  lv : LT σ lv 14 15 ls n fun p => tab n fun v => iv (P.last p v)
  asn : as.Nodup
  lsn : ls.Nodup
noncomputable abbrev bkC : List Nat := [6, 10, 11, 12, 13, 14, 15]
theorem LT.set {σ σ' : Addr → Option (Nat × Cell)} {D p : Addr} {k kr : Nat} {as : List Addr} {n i : Nat} {f : Nat → List AV} {x : List AV} (h : LT σ D k kr as n f) (hn : as.Nodup) (hk : k ≠ kr) (hi : as[i]? = some p) (e : σ' = upd σ p (some (kr, .list x))) : LT σ' D k kr as n (fsN f i x) := by
  have hp := h.row i p hi
  refine ⟨(put_ne e (fun q => by rw [← q, h.d] at hp; exact hk (congrArg Prod.fst (Option.some.inj hp)))).trans h.d, h.len, fun j q hj => ?_⟩
  by_cases z : j = i
  · subst z
    rw [hi] at hj; cases hj
    rw [e, upd_self, fsN, if_pos rfl]
  · rw [e, upd_ne (fun w : q = p => z (nodup_idx' hn (w ▸ hj : as[j]? = some p) hi)), fsN, if_neg z]
    exact h.row j q hj
theorem LT.congr {σ : Addr → Option (Nat × Cell)} {D : Addr} {k kr : Nat} {as : List Addr} {n : Nat} {f f' : Nat → List AV} (h : LT σ D k kr as n f) (e : ∀ i, i < n → f i = f' i) : LT σ D k kr as n f' :=
  ⟨h.d, h.len, fun j p hj => by rw [← e j (by rw [← h.len]; exact (List.getElem?_eq_some_iff.mp hj).1)]; exact h.row j p hj⟩
inductive RgA (σ : Addr → Option (Nat × Cell)) : Option (List AV) → AV → Prop
  | no : RgA σ none .none
  | yes {l : List AV} {a : Addr} : σ a = some (0, .list l) → (∀ v ∈ l, KO v) → RgA σ (some l) (.ref a)
noncomputable def ringD : Option (List AV) → PyData
  | none => .none
  | some l => .list (l.map kd)
theorem RgA.ext {C : List Nat} {σ σ' : Addr → Option (Nat × Cell)} {r : Option (List AV)} {v : AV} (h : RgA σ r v) (e : Ext C σ σ') (h0 : 0 ∉ C) : RgA σ' r v := by
  cases h with
  | no => exact .no
  | yes h1 h2 => exact .yes (e _ _ _ h1 h0) h2
theorem RgA.rd {σ : Addr → Option (Nat × Cell)} {r : Option (List AV)} {v : AV} (h : RgA σ r v) : RdV σ v (ringD r) := by
  cases h with
  | no => exact .none
  | yes h1 h2 => exact .list h1 (KO.rds h2)
theorem RgA.sh {σ : Addr → Option (Nat × Cell)} {r : Option (List AV)} {v : AV} (h : RgA σ r v) : Sh 1 (ringD r) := by
  cases h with
  | no => exact .none
  | yes h1 h2 => exact KO.shL h2
theorem RgA.all {σ : Addr → Option (Nat × Cell)} {r : Option (List AV)} {v : AV} {P : Value → Prop} (h : RgA σ r v) (q : ∀ u, er u = v → P u) : All v P := by
  cases h with
  | no => exact All.none (q _ rfl)
  | yes h1 h2 => exact All.ref (q _ rfl)
section
variable {c : Cx} {A : Around} {E : Value → AS → Prop} {a : AS} {env : Env} {fs : List Frm} {σ : Addr → Option (Nat × Cell)} {g : Array GenState} {d : Nat}
theorem W_Assign_T {t : Expr} {value : Expr} {pos : Pos} {Q : Flow → AS → Prop}
    (h : W c A (eval value env) (fun v a₁ => W c A (assign t env v) (fun _ => Q .next) E a₁) E a)
    (hs : exec (.Assign [t] value pos) env = (do standAt pos; let v ← eval value env; assign t env v; pure .next) := by with_unfolding_all rfl) : W c A (exec (.Assign [t] value pos) env) Q E a := by
  rw [hs]
  exact W_bind (W_standAt (W_bind (W_mono h (fun v a₁ q => W_bind (W_mono q (fun _ _ x => W_pure x) fun _ _ x => x)) fun _ _ x => x)))
noncomputable def Stores (c : Cx) (A : Around) (env : Env) (Q : Unit → AS → Prop) (E : Value → AS → Prop) : List Str → List AV → AS → Prop
  | x :: xs, v :: vs, a => All v (fun u => W c A (storeName env x u) (fun _ a₂ => Stores c A env Q E xs vs a₂) E a)
  | _, _, a => Q () a
theorem W_inNames {Q : Unit → AS → Prop} : ∀ {xs : List (Str × Pos)} {us : List Value} {a : AS}, Stores c A env Q E (xs.map (·.1)) (us.map er) a → W c A (assignInOrder ((assignEach (xs.map fun p => .Name p.1 p.2) env).map (·.2)) us) Q E a
  | [], us, a, h => W_inOrder_nil h
  | _ :: _, [], a, h => W_pure h
  | p :: xs, u :: us, a, h => W_inOrder_cons (W_assign_Name (W_mono ((show All (er u) (fun u => W c A (storeName env p.1 u) (fun _ a₂ => Stores c A env Q E (xs.map (·.1)) (us.map er) a₂) E a) from h).at rfl) (fun _ a₂ q => W_inNames q) fun _ _ x => x))
theorem W_assign_T2 {x y : Str} {px py p : Pos} {kk : Nat} {l : Addr} {v1 v2 : AV} {Q : Unit → AS → Prop} (hl : Starry c ⟨fs, σ, g⟩ l [v1, v2]) (hh : A.handled = none)
    (h : All v1 (fun u1 => W c A (storeName env x u1) (fun _ a₂ => All v2 (fun u2 => W c A (storeName env y u2) Q E a₂)) E ⟨fs, σ, g⟩)) : W c A (assign (.Tuple [.Name x px, .Name y py] kk p) env (.ref l)) Q E ⟨fs, σ, g⟩ :=
  W_assign_Tuple hl rfl hh fun us eu => W_inNames (xs := [(x, px), (y, py)]) (by rw [eu]; exact h)
theorem CompK_nm {sc : Scope} {cl : List (Str × Addr)} {L : Addr} {ns : List Str} {vs : List (Option AV)} {iter : Expr} {p1 p2 p3 px pos : Pos} {use : Option (Value → Sem Unit)} {nA p it : Addr} {kr n : Nat} {nm : Nat → AV} {l : List Nat} {σ₁ : Addr → Option (Nat × Cell)} {Q : Value → AS → Prop}
    (hsc : CScope sc "v" [] ["names"]) (hC : CapOk env cl ["names"]) (hgl : env.globals = mainGlobals) (hbl : env.builtins = builtinsNs) (hh : A.handled = none) (hf : ⟨L, cl, ns, vs⟩ ∈ fs) (hv : VarAt ns vs "names" (some (.ref nA))) (hnd : ns.Nodup)
    (hN : σ nA = some (0, .list (tab (n + 1) nm))) (hp : σ p = some (kr, .list (IV l))) (hr : kr ≠ 9) (hz : l.length ≤ 90000) (hn : n ≤ 90000) (hl : ∀ v ∈ l, v ≤ n) (hko : ∀ i, i ≤ n → KO (nm i)) (hit : σ it = none) (e1 : σ₁ = upd σ it (some (9, iterCell "list_iterator" p 0)))
    (fin : ∀ D C vx σ', Ext [] σ σ' → σ D = none → σ' D = some (0, .list (l.map nm)) → UseK c A fs g "v" Q E D C vx σ' use) :
    CompK c A env (.Subscript (.Name "names" p1) (.Name "v" p2) p3) iter "v" px [] sc pos ["names"] use (.ref it) Q E ⟨fs, σ₁, g⟩ := by
  have hlen : (IV l).length = l.length := List.length_map ..
  refine CompK_out (k := kr) (gs := []) hsc hC rfl (by first | decide | simp) hgl hbl (IterOf.list hh) IterSelf.list hr 0 (fun i => (l.take i).map nm) (fun σ => σ nA = some (0, .list (tab (n + 1) nm))) (fun _ _ q e => e _ _ _ q (by decide)) hit e1 ((put_ne e1 (ne_new hp hit)).trans hp) rfl hN
    (fun i _ => by rw [List.length_map]; exact Nat.le_trans (List.length_take_le' ..) (Nat.le_trans hz (by decide))) ?_ ?_
  · intro C cenv i v σ3 hCE hCC hg hb hN3 hv3 Y3
    obtain ⟨w, rfl, hw⟩ := IV_at hv3
    have hwn := hl w (List.mem_of_getElem? hw)
    refine W_tests_nil (W_Subscript (W_NameCap hCC (List.mem_cons_self ..) (List.mem_cons_of_mem _ hf) hv hnd (All.ref (W_Name hCE .here ?_))))
    intro t
    refine ⟨noGet_list hN3, W_item_list hN3 (Int.natCast_nonneg _) (v := nm w) (by rw [Int.toNat_natCast]; exact tab_at (Nat.lt_succ_of_le hwn)) (by rw [tab_len]; lia) (All.key (hko w hwn).key fun u eu => ⟨σ3, rfl, Ext.refl, ?_⟩)⟩
    rw [take_snoc hw, List.map_append, eu]; rfl
  · intro D C vx σ3 _ Y3 h0 hD
    rw [hlen, List.take_length] at hD
    exact fin D C vx σ3 Y3 h0 hD
end
end Mine.Internal
namespace Mine.Internal
open PySem PySem.W PyProof.Rows PySem.Calls PySem.F PySem.SeqAt
theorem Sh.str {x : Str} {n : Nat} (h : PyData.strOk x = true) : Sh n (.str x) := ⟨h, Nat.zero_le _⟩
theorem Sh.bool {b : Bool} {n : Nat} : Sh n (.bool b) := ⟨rfl, Nat.zero_le _⟩
theorem Sh.one {d : PyData} {n : Nat} (h : Sh n d) : Sh (n + 1) (.list [d]) := Sh.list fun e he => by rw [List.mem_singleton.mp he]; exact h
variable {n T : Nat} {nm : Nat → AV} {P : PS} {Es : List Ed} {fr : List Nat} {st : SS} {ring : Option (List AV)} {pr : Bool}
theorem Ph.known (G : G0 n nm P Es T st) : P.known.length ≤ n := by
  have := nodup_le (os := List.range n) G.kn fun v hv => List.mem_range.mpr (G.lt v hv)
  rwa [List.length_range] at this
theorem keep_free {w : World} : keepIn (KK w) (.ref 144) = true := by rfl
section
variable {c : Cx} {A B : Around} {E X : Value → AS → Prop} {env : Env} {fs : List Frm} {σ : Addr → Option (Nat × Cell)} {g : Array GenState} {d : Nat} {L : Addr} {cl : List (Str × Addr)} {ca nA x kv gv fv frA nv av lv er : Addr} {rg : AV} {as ls : List Addr} {bv bp tu wa sa ac to : Option AV}
end
end Mine.Internal
namespace Mine.Internal
open PySem PySem.W PyProof.Rows PySem.Calls PySem.F PySem.SeqAt
theorem IV_app {l m : List Nat} : IV (l ++ m) = IV l ++ IV m := List.map_append
variable {n T : Nat} {nm : Nat → AV} {P : PS} {Es : List Ed} {fr : List Nat} {st : SS} {ring : Option (List AV)} {pr : Bool}
section
variable {c : Cx} {A B : Around} {E X : Value → AS → Prop} {env : Env} {fs : List Frm} {σ : Addr → Option (Nat × Cell)} {g : Array GenState} {d : Nat} {L : Addr} {cl : List (Str × Addr)} {ca nA x kv gv fv frA nv av lv er pi du : Addr} {rg : AV} {as ls : List Addr} {bv bp tu wa sa ac to : Option AV} {Q : Flow → AS → Prop}
set_option maxHeartbeats 2000000 in
end
end Mine.Internal
namespace Mine.Internal
open PySem PySem.W PyProof.Rows PySem.Calls PySem.F PySem.SeqAt
variable {n T : Nat} {nm : Nat → AV} {P : PS} {Es : List Ed} {fr : List Nat} {st : SS} {ring : Option (List AV)} {pr : Bool}
inductive DoneJ (n : Nat) (nm : Nat → AV) (P : PS) (Es : List Ed) (T : Nat) (st : SS) (ps : List Nat) (j : Nat) : Prop
  | mk (fr' : List Nat) : G0 n nm (P.fin (ps.take j)) Es T (st.done ((ps.take j).map nm)) → Post n nm (P.fin (ps.take j)) Es fr' (st.done ((ps.take j).map nm)) → (∀ i k, i < j → (ps.map nm)[i]? = some k → k ∈ st.keys ∧ (st.done ((ps.map nm).take i)).np k = -1) → DoneJ n nm P Es T st ps j
theorem DoneJ.zero (G : G0 n nm P Es T st) (R : Post n nm P Es fr st) {ps : List Nat} : DoneJ n nm P Es T st ps 0 := by
  have e : P.fin (ps.take 0) = P := by unfold PS.fin; rw [List.take_zero, List.append_nil]
  exact ⟨fr, by rw [e]; exact G, by rw [e]; exact R, fun i k hi => absurd hi (Nat.not_lt_zero i)⟩
theorem fin_snoc {l : List Nat} {v : Nat} : P.fin (l ++ [v]) = (P.fin l).fin [v] := by unfold PS.fin; rw [List.append_assoc]
theorem DoneJ.step (N : NmOk n nm) (G0' : G0 n nm P Es T st) {ps : List Nat} {j v : Nat} (D : DoneJ n nm P Es T st ps j) (hv : ps[j]? = some v) (h1 : v ∈ P.given) (h2 : v ∉ P.finished ++ ps.take j) : DoneJ n nm P Es T st ps (j + 1) := by
  obtain ⟨fr', G, R, hg⟩ := D
  obtain ⟨fr2, R2⟩ := R.fin1 N G (v := v) h1 h2
  have e1 : ps.take (j + 1) = ps.take j ++ [v] := take_snoc hv
  have e2 : st.done ((ps.take (j + 1)).map nm) = (st.done ((ps.take j).map nm)).done1 (nm v) := by rw [e1, List.map_append]; exact SS.done_snoc
  refine ⟨fr2, ?_, ?_, fun i k hi hk => ?_⟩
  · rw [e2, e1, fin_snoc]; exact G.fin1 N [v]
  · rw [e2, e1, fin_snoc]; exact R2
  · by_cases e : i = j
    · subst e
      rw [List.getElem?_map, hv] at hk
      obtain rfl := Option.some.inj hk
      refine ⟨by rw [G0'.keys]; exact List.mem_map_of_mem (R.gsub v h1), ?_⟩
      rw [← List.map_take]
      exact R.npg v h1 h2
    · exact hg i k (by lia) hk
section
variable {c : Cx} {A B : Around} {E X : Value → AS → Prop} {env : Env} {fs : List Frm} {σ : Addr → Option (Nat × Cell)} {g : Array GenState} {d : Nat} {L : Addr} {cl : List (Str × Addr)} {ca nA x kv gv fv frA nv av lv er pi du : Addr} {rg : AV} {as ls : List Addr} {bv bp tu wa sa ac to : Option AV} {Q : Flow → AS → Prop}
set_option maxHeartbeats 2000000 in
end
end Mine.Internal
namespace Mine.Internal
open PySem PySem.W PyProof.Rows PySem.Calls PySem.F PySem.SeqAt
theorem tab_succ {n : Nat} {f : Nat → AV} : tab (n + 1) f = tab n f ++ [f n] := by
  unfold tab; rw [List.range_succ, List.map_append]; rfl
inductive RwsJ (kr : Nat) (row : List AV) (i : Nat) (ys : List AV) (σ : Addr → Option (Nat × Cell)) : Prop
  | mk (as : List Addr) : ys = as.map AV.ref → as.length = i → as.Nodup → (∀ a ∈ as, σ a = some (kr, .list row)) → RwsJ kr row i ys σ
theorem RwsJ.ext {kr : Nat} {row : List AV} {i : Nat} {ys : List AV} {σ σ' : Addr → Option (Nat × Cell)} {C : List Nat} (h : RwsJ kr row i ys σ) (e : Ext C σ σ') (hk : kr ∉ C) : RwsJ kr row i ys σ' := by
  obtain ⟨as, h1, h2, h3, h4⟩ := h
  exact ⟨as, h1, h2, h3, fun a ha => e _ _ _ (h4 a ha) hk⟩
theorem RwsJ.push {kr : Nat} {row : List AV} {i : Nat} {ys : List AV} {σ σ' : Addr → Option (Nat × Cell)} {l : Addr} (h : RwsJ kr row i ys σ) (hl : σ l = none) (e : Ext [] σ σ') (hr : σ' l = some (kr, .list row)) : RwsJ kr row (i + 1) (ys ++ [.ref l]) σ' := by
  obtain ⟨as, h1, h2, h3, h4⟩ := h
  refine ⟨as ++ [l], by rw [h1, List.map_append]; rfl, by rw [List.length_append, h2]; rfl, List.nodup_append.mpr ⟨h3, by simp, fun a ha b hb q => ?_⟩, fun a ha => ?_⟩
  · rw [List.mem_singleton.mp hb] at q
    have := h4 a ha
    rw [q, hl] at this; cases this
  · rcases List.mem_append.mp ha with ha | ha
    · exact e _ _ _ (h4 a ha) List.not_mem_nil
    · rw [List.mem_singleton.mp ha]; exact hr
theorem RwsJ.zero {kr : Nat} {row : List AV} {σ : Addr → Option (Nat × Cell)} : RwsJ kr row 0 [] σ := ⟨[], rfl, rfl, .nil, fun a ha => nomatch ha⟩
theorem RwsJ.lt {kr k n i : Nat} {row : List AV} {ys : List AV} {σ : Addr → Option (Nat × Cell)} {D : Addr} (h : RwsJ kr row i ys σ) (hn : i = n) (hD : σ D = some (k, .list ys)) : ∃ as, LT σ D k kr as n (fun _ => row) ∧ as.Nodup := by
  obtain ⟨as, h1, h2, h3, h4⟩ := h
  exact ⟨as, ⟨by rw [hD, h1], h2.trans hn, fun j p hj => h4 p (List.mem_of_getElem? hj)⟩, h3⟩
section
variable {c : Cx} {A B : Around} {E X : Value → AS → Prop} {env : Env} {fs : List Frm} {σ : Addr → Option (Nat × Cell)} {g : Array GenState} {d : Nat} {L : Addr} {cl : List (Str × Addr)}
end
end Mine.Internal
namespace Mine.Internal
open PySem PySem.W PyProof.Rows PySem.Calls PySem.F PySem.SeqAt
theorem uqN_len : ∀ {l S : List Nat}, (uqN S l).length ≤ S.length + l.length
  | [], S => Nat.le_refl _
  | y :: l, S => by
    have h : uqN S (y :: l) = uqN (if y ∈ S then S else S ++ [y]) l := rfl
    rw [h]
    refine Nat.le_trans uqN_len ?_
    split
    · rw [List.length_cons]; lia
    · rw [List.length_append, List.length_cons, List.length_cons, List.length_nil]; lia
theorem uqN_snoc {S l : List Nat} {y : Nat} : uqN S (l ++ [y]) = if y ∈ uqN S l then uqN S l else uqN S l ++ [y] := by
  unfold uqN; rw [List.foldl_append]; rfl
structure LkAt (σ : Addr → Option (Nat × Cell)) (nv av lv : Addr) (as ls : List Addr) (n : Nat) (P : PS) : Prop where
  nv : σ nv = some (11, .list (tab n fun v => iv (P.need v)))
  av : LT σ av 12 13 as n fun p => IV (P.after p)
  lv : LT σ lv 14 15 ls n fun p => tab n fun v => iv (P.last p v)
theorem LkAt.ext {σ σ' : Addr → Option (Nat × Cell)} {nv av lv : Addr} {as ls : List Addr} {n : Nat} {P : PS} {C : List Nat} (h : LkAt σ nv av lv as ls n P) (e : Ext C σ σ') (hC : ∀ k ∈ [11, 12, 13, 14, 15], k ∉ C) : LkAt σ' nv av lv as ls n P :=
  ⟨e _ _ _ h.nv (hC 11 (by decide)), h.av.ext e (hC 12 (by decide)) (hC 13 (by decide)), h.lv.ext e (hC 14 (by decide)) (hC 15 (by decide))⟩
theorem link_known {v t : Nat} : ∀ {l : List Nat} {P : PS}, (l.foldl (fun P p => P.link v t p) P).known = P.known ∧ (l.foldl (fun P p => P.link v t p) P).given = P.given ∧ (l.foldl (fun P p => P.link v t p) P).finished = P.finished
  | [], P => ⟨rfl, rfl, rfl⟩
  | p :: l, P => link_known (l := l) (P := P.link v t p)
theorem link_in {P : PS} {v t p : Nat} (h : v ∈ P.after p) : (P.link v t p).after = P.after := if_pos h
theorem link_out {P : PS} {v t p : Nat} (h : v ∉ P.after p) : (P.link v t p).after = fsN P.after p (P.after p ++ [v]) := if_neg h
theorem link_len {v t q : Nat} : ∀ {l : List Nat} {P : PS}, ((l.foldl (fun P p => P.link v t p) P).after q).length ≤ (P.after q).length + l.length
  | [], P => Nat.le_refl _
  | p :: l, P => by
    refine Nat.le_trans (link_len (l := l) (P := P.link v t p)) ?_
    have : ((P.link v t p).after q).length ≤ (P.after q).length + 1 := by
      by_cases h : v ∈ P.after p
      · rw [link_in h]; lia
      · rw [link_out h]; unfold fsN
        split
        · rename_i e; rw [e, List.length_append]; exact Nat.le_refl _
        · lia
    rw [List.length_cons]; lia
theorem G0.after_len {n T : Nat} {nm : Nat → AV} {P : PS} {Es : List Ed} {st : SS} (G : G0 n nm P Es T st) {p : Nat} (hp : p ≤ n) : (P.after p).length ≤ 5 * T := by
  have h1 := uqN_len (S := []) (l := outN Es p)
  have h2 := G.fit.su (nm p)
  rw [G.su p hp, List.length_map] at h2
  rw [G.aft p]
  rw [List.length_nil] at h1; lia
variable {n T : Nat} {nm : Nat → AV} {P : PS} {Es : List Ed} {fr : List Nat} {st : SS} {ring : Option (List AV)} {pr : Bool}
section
variable {c : Cx} {A B : Around} {E X : Value → AS → Prop} {env : Env} {fs : List Frm} {σ : Addr → Option (Nat × Cell)} {g : Array GenState} {d : Nat} {L : Addr} {cl : List (Str × Addr)} {ca nA x kv gv fv frA nv av lv er pi du : Addr} {rg : AV} {as ls : List Addr} {bv bp tu wa sa ac to : Option AV} {Q : Flow → AS → Prop}
set_option maxHeartbeats 2000000 in
end
end Mine.Internal
namespace Mine.Internal
open PySem PySem.W PyProof.Rows PySem.Calls PySem.F PySem.SeqAt
theorem keep_ring {w : World} : keepIn (KK w) (.ref 139) = true := by rfl
variable {n T : Nat} {nm : Nat → AV} {P : PS} {Es : List Ed} {fr : List Nat} {st : SS} {ring : Option (List AV)} {pr : Bool}
section
variable {c : Cx} {A B : Around} {E X : Value → AS → Prop} {env : Env} {fs : List Frm} {σ : Addr → Option (Nat × Cell)} {g : Array GenState} {d : Nat} {L : Addr} {cl : List (Str × Addr)} {ca nA x kv gv fv frA nv av lv er pi du : Addr} {rg : AV} {as ls : List Addr} {bv bp tu wa sa ac to : Option AV} {Q : Flow → AS → Prop}
theorem W_fc {y : Addr} {v0 : AV} {Q : Value → AS → Prop} (lv : Lv c) (hA : AOk A fs (d + 1)) (S : SO σ y st) (hsu : ∀ k s, s ∈ st.su k → s ∈ st.keys) (hF : st.Fit 2000)
    (hring : ∀ res, RingRes st.keys st.su res → res = ring) (hr0 : RgA σ ring v0) (h : ∀ v σ', Ext [3, 4, 8] σ σ' → RgA σ' ring (Mine.Internal.er v) → Q v ⟨fs, σ', g⟩) : W c A (call (.ref 120) [.ref y]) Q E ⟨fs, σ, g⟩ := by
  obtain ⟨dx, nd, rv, as, ep, S⟩ := S
  refine find_cycle_spec lv.toLw hA S hsu (Nat.lt_of_le_of_lt hF.keys (by decide)) (fun k => Nat.le_trans (hF.su k) (by decide)) (fun σ' hr X => ?_) (fun r l σ' hr _ X hl => ?_)
  · rw [← hring _ hr] at h
    exact h _ σ' X .no
  · rw [← hring _ hr] at h hr0
    cases hr0 with
    | yes _ hk => exact h _ σ' X (.yes hl hk)
theorem W_fcMeth {y : Addr} {pl : Sem Bool} {Q : Value × List Value → AS → Prop} (lv : Lv c) (S : SO σ y st) (h : Q (.ref 120, [.ref y]) ⟨fs, σ, g⟩) : W c A (getMethod (.ref y) "_find_cycle" pl) Q E ⟨fs, σ, g⟩ := by
  obtain ⟨dx, nd, rv, as, ep, S⟩ := S
  exact W_getMethod S.x S.dx (lv.K ▸ bo_find.get) (lv.K ▸ bo_find.find) (lv.K ▸ bo_find.fn) (no_attr (by decide +kernel)) h
set_option maxHeartbeats 2000000 in
end
end Mine.Internal
namespace Mine.Internal
open PySem PySem.W PyProof.Rows PySem.Calls PySem.Sem
section
variable {M : Model} {A : Around} {Φ : End → Shared → Prop} {c : Code} {fs : List Frame} {s : Shared} {α : Type}
noncomputable def Sg (M : Model) (A : Around) (Φ : End → Shared → Prop) (c : Code) (t : Sem Fin) (fs : List Frame) (s : Shared) : Prop :=
  ∀ Γ p, Γ.code = c → Γ.Woken A → ∃ e s', Runs M Γ p t fs s e s' ∧ e.quiet = true ∧ Φ e s'
theorem sg_wrap {m : Sem α} {K : α → Sem Fin} {H : Value → Sem Fin} {gd lv}
    (h : wpAny M (A.over c fs) m (fun a s' => Sg M A Φ c (K a) fs s') (fun x s' => Sg M A Φ c (H x) fs s') s) : Sg M A Φ c (m.wrap K H gd lv) fs s := by
  rintro Γ p rfl hΓ
  exact runs_wrap_of_wp (Φ := fun e s' => e.quiet = true ∧ Φ e s') K H gd lv m (h (Γ.over fs) p (hΓ.over fs)) (fun a p' s' h' => h' Γ p' rfl hΓ) fun x p' s' h' => h' Γ p' rfl hΓ
theorem sg_at {p' : Pos} {k : Unit → Sem Fin} (h : Sg M A Φ c (k ()) fs s) : Sg M A Φ c (.at p' k) fs s :=
  sg_wrap (m := standAt p') (K := k) (H := .raise) (gd := id) (lv := id) (wpAny_standAt h)
theorem sg_point {l : List Value} {k : Unit → Sem Fin} (h : Sg M A Φ c (k ()) fs s) : Sg M A Φ c (.point l k) fs s :=
  sg_wrap (m := point) (K := k) (H := .raise) (gd := id) (lv := fun _ => l) (wpAny_point h)
theorem sg_call {c' : Code} {h g l} {k : Result → Sem Fin} (hc : ∀ p, Sg M A Φ c' (M.den c') (.ret k h g l c p [] :: fs) s) : Sg M A Φ c (.call c' h g l k) fs s := by
  rintro Γ p rfl hΓ
  obtain ⟨e, s', hr, he⟩ := hc p (Γ.goto c') p rfl (hΓ.goto c')
  exact ⟨e, s', runs_call_seg hr, he⟩
theorem sg_leaf {k h g l c₁ p₁ kp} (r : Result) (hk : Sg M A Φ c₁ (k r) fs s) : Sg M A Φ c (leafOf r) (.ret k h g l c₁ p₁ kp :: fs) s := by
  rintro Γ p rfl hΓ
  obtain ⟨e, s', hr, he⟩ := hk (Γ.goto c₁) p₁ rfl (hΓ.goto c₁)
  exact ⟨e, s', Runs.pop r hr, he⟩
theorem sg_again {c' : Code} (hq : c'.quiet = true) (hc : Sg M A Φ c' (M.den c') fs s) : Sg M A Φ c (.pure (.again c')) fs s := by
  rintro Γ p rfl hΓ
  obtain ⟨e, s', hr, he⟩ := hc (Γ.goto c') p rfl (hΓ.goto c')
  exact ⟨e, s', Runs.head (c₁ := c') (fun _ _ x => .again hq x) hr, he⟩
theorem sg_end (r : Result) (h : Φ (.ret r) s) : Sg M A Φ c (leafOf r) [] s := by
  rintro Γ p rfl _
  exact ⟨.ret r, s, Runs.leaf r, rfl, h⟩
theorem sg_yield {v g l} {k : Resume → Sem Fin} (hfs : splitAtGen fs = none) (hg : g = false) (hfg : fs.any Frame.guarded = false) (h : ∀ p, Φ (.susp v g l k c p fs) s) : Sg M A Φ c (.yield v g l k) fs s := by
  rintro Γ p rfl _
  exact ⟨_, s, Runs.yield' fs hfs, by simp [End.quiet, hg, hfg], h p⟩
noncomputable def GGo (M : Model) (A : Around) (Φ : End → Shared → Prop) (gs : GenState) (s : Shared) : Prop :=
  match gs with
  | .fresh c => Sg M A Φ c (M.den c) [] s
  | .suspended k _ c _ fs _ => Sg M A Φ c (k (.send .none)) fs s
  | _ => False
theorem wpAny_resumeS {E : Value → Shared → Prop} {g : Nat} {gs : GenState} {l : List Value} {k : GenResult → Sem α} {Q : α → Shared → Prop} (hg : s.gens[g]? = some gs)
    (hgo : GGo M A Φ gs (s.setGen g .running)) (h : ∀ e s₁, e.quiet = true → Φ e s₁ → wpAny M A (k e.result) Q E (s₁.setGen g e.genState)) : wpAny M A (.resume g (.send .none) l k) Q E s := by
  intro Γ p hΓ
  rw [Sem.wp_resume]
  have hB : ∀ c, (Γ.wake c p).Woken A := fun c => hΓ.wake c p
  cases gs with
  | fresh c =>
    obtain ⟨e, s₁, hr, hq, he⟩ := hgo (Γ.wake c p) p rfl (hB c)
    exact ⟨_, _, by unfold Wakes; rw [hg]; exact ⟨e, s₁, hr, hq, rfl, rfl⟩, h e s₁ hq he Γ p hΓ⟩
  | suspended k₀ l₀ c₀ p₀ fs₀ cl =>
    obtain ⟨e, s₁, hr, hq, he⟩ := hgo (Γ.wake c₀ p) p₀ rfl (hB c₀)
    exact ⟨_, _, by unfold Wakes; rw [hg]; exact ⟨e, s₁, hr, hq, rfl, rfl⟩, h e s₁ hq he Γ p hΓ⟩
  | running => exact hgo.elim
  | finished => exact hgo.elim
end
end Mine.Internal
namespace Mine.Internal
open PySem PySem.W PyProof.Rows PySem.Calls
noncomputable def frC (ns : List Str) (vs : List (Option AV)) : Cell := .raw fun o => ∃ (h : Heap) (L : Addr) (m : Str → Option Value), h.Ns L m ∧ h.get? L = some o ∧ ∀ x, (m x).map er = gv ns vs x
theorem ns_of {h h' : Heap} {L L' : Addr} {m : Str → Option Value} {o : Obj} (hn : h.Ns L m) (ho : h.get? L = some o) (ho' : h'.get? L' = some o) : h'.Ns L' m := by
  obtain ⟨o', es, ep, h1, r⟩ := hn
  rw [ho] at h1; cases h1
  exact ⟨o, es, ep, ho', r⟩
theorem St.shelve {c : Cx} {L : Addr} {ns : List Str} {vs : List (Option AV)} {fs : List Frm} {σ σ' : Addr → Option (Nat × Cell)} {g : Array GenState} {k : Nat} {s : Shared} (h : St c ⟨⟨L, [], ns, vs⟩ :: fs, σ, g⟩ s)
    (e : σ' = upd σ L (some (k, frC ns vs))) : St c ⟨fs, σ', g⟩ s := by
  subst e
  have P := h.pop
  refine ⟨P.keep, P.fr, P.nb, P.nd, fun y k' cl q => ?_, P.os, P.gens⟩
  by_cases z : y = L
  · subst z
    change upd σ y _ y = _ at q
    rw [upd_self] at q; cases q
    obtain ⟨m, hn, hm, _⟩ := h.fr _ List.mem_cons_self
    have hn' := hn
    obtain ⟨o, es, ep, ho, _⟩ := hn'
    refine ⟨⟨o, ho, s.heap, y, m, hn, ho, fun x => hm x rfl⟩, h.nb _ List.mem_cons_self _ List.mem_cons_self, fun hx => ?_⟩
    have := h.nd
    rw [List.flatMap_cons] at this
    exact (List.nodup_append.mp this).2.2 y List.mem_cons_self y hx rfl
  · change upd σ L _ y = _ at q
    rw [upd_ne z] at q; exact P.own y k' cl q
theorem St.unshelve {c : Cx} {L : Addr} {ns : List Str} {vs : List (Option AV)} {fs : List Frm} {σ σ' : Addr → Option (Nat × Cell)} {g : Array GenState} {k : Nat} {s : Shared} (h : St c ⟨fs, σ, g⟩ s)
    (hL : σ L = some (k, frC ns vs)) (e : σ' = upd σ L none) : St c ⟨⟨L, [], ns, vs⟩ :: fs, σ', g⟩ s := by
  subst e
  obtain ⟨⟨o, ho, h0, L0, m, hn, ho0, hm⟩, hb, hx⟩ := h.own L k _ hL
  refine ⟨h.keep, fun f hf => ?_, fun f hf x hx' => ?_, ?_, fun y k' cl q => ?_, h.os, h.gens⟩
  · rcases List.mem_cons.mp hf with rfl | hf
    · exact ⟨m, ns_of hn ho0 ho, fun x _ => hm x, fun p hp => nomatch hp⟩
    · exact h.fr f hf
  · rcases List.mem_cons.mp hf with rfl | hf
    · rcases List.mem_cons.mp hx' with rfl | q
      · exact hb
      · exact nomatch q
    · exact h.nb f hf x hx'
  · rw [List.flatMap_cons]
    exact List.nodup_cons.mpr ⟨hx, h.nd⟩
  · change upd σ L _ y = _ at q
    have z : y ≠ L := fun z => by rw [z, upd_self] at q; cases q
    rw [upd_ne z] at q
    obtain ⟨q1, q2, q3⟩ := h.own y k' cl q
    refine ⟨q1, q2, fun w => ?_⟩
    rw [List.flatMap_cons] at w
    rcases List.mem_append.mp w with w | w
    · rcases List.mem_cons.mp w with w | w
      · exact z w
      · exact nomatch w
    · exact q3 w
theorem St.setG {c : Cx} {fs : List Frm} {σ : Addr → Option (Nat × Cell)} {g g' : Array GenState} {s s' : Shared} (h : St c ⟨fs, σ, g⟩ s) (e1 : s'.heap = s.heap) (e2 : s'.os = s.os) (e3 : s'.gens = g') : St c ⟨fs, σ, g'⟩ s' :=
  ⟨by rw [e1]; exact h.keep, by rw [e1]; exact h.fr, h.nb, h.nd, by rw [e1]; exact h.own, e2.trans h.os, e3⟩
structure Over (cds : List Code) (frs : List Frame) : Prop where
  codes : frs.map (fun f => f.where_.1) = cds
  marks : ∀ x, marksOver frs x = x
  nogen : splitAtGen frs = none
  quiet : frs.any Frame.guarded = false
theorem Over.nil : Over [] [] := ⟨rfl, fun _ => rfl, rfl, rfl⟩
theorem Over.ret {cds : List Code} {frs : List Frame} {k : Result → Sem Fin} {l : List Value} {cd : Code} {p : Pos} {kp : List Value} (h : Over cds frs) : Over (cd :: cds) (.ret k none false l cd p kp :: frs) :=
  ⟨by rw [List.map_cons, h.codes]; rfl, fun x => by show Frame.marks (.ret k none false l cd p kp) (marksOver frs x) = x; rw [h.marks]; rfl, by show (splitAtGen frs).map _ = none; rw [h.nogen]; rfl, by
    rw [List.any_cons, h.quiet]; rfl⟩
theorem AOk.over {A : Around} {fs : List Frm} {d k : Nat} {cd : Code} {cds : List Code} {frs : List Frame} (h : AOk A fs (d + k)) (ho : Over cds frs) (hw : ((cd :: cds).map Code.weight).sum ≤ 8 * k) (hu : ((cd :: cds).map Code.cUnits).sum ≤ 200 * k)
    (hg : ∀ c ∈ cd :: cds, c.guards = []) (he : ∀ c ∈ cd :: cds, ∀ e ∈ c.envs, e.scope.kind = .function ∧ ∃ f ∈ fs, e.frame = some f.L) : AOk (A.over cd frs) fs d := by
  have m1 : (frs.map Frame.where_).map (·.1) = cds := by rw [List.map_map]; exact ho.codes
  have w1 : frameCount (frs.map Frame.where_) = (cds.map Code.weight).sum := by
    rw [frameCount, ← m1, List.map_map, List.map_map, List.map_map]; rfl
  have u1 : unitsOf (frs.map Frame.where_) = (cds.map Code.cUnits).sum := by
    rw [unitsOf, ← m1, List.map_map, List.map_map, List.map_map]; rfl
  rw [List.map_cons, List.sum_cons] at hw hu
  have hd := h.depth; have hn := h.units
  refine ⟨?_, ?_, ?_, ?_, ?_⟩
  · show A.depth + frameCount (frs.map Frame.where_) + cd.weight + 8 * d ≤ 900
    rw [w1]; lia
  · show A.units + unitsOf (frs.map Frame.where_) + cd.cUnits + 200 * d ≤ 9000
    rw [u1]; lia
  · obtain ⟨envs, e, r⟩ := h.link
    have key : ∀ l : List (Code × Pos), (∀ c ∈ l.map (·.1), ∀ e ∈ c.envs, e.scope.kind = .function ∧ ∃ f ∈ fs, e.frame = some f.L) → ∀ e ∈ envsOf l, e.scope.kind = .function ∧ ∃ f ∈ fs, e.frame = some f.L := by
      intro l
      induction l with
      | nil => intro _ e he; exact nomatch he
      | cons x l ih =>
        obtain ⟨c, p⟩ := x
        intro q e he
        rw [envsOf_cons] at he
        rcases List.mem_append.mp he with he | he
        · exact q c List.mem_cons_self e he
        · exact ih (fun c hc => q c (List.mem_cons_of_mem _ hc)) e he
    refine ⟨cd.envs ++ (envsOf (frs.map Frame.where_) ++ envs), ?_, fun x hx => ?_⟩
    · show pushEnvs cd.envs (pushEnvs _ A.frames) = _
      rw [pushEnvs_eq, pushEnvs_eq, e]; rfl
    · rcases List.mem_append.mp hx with hx | hx
      · exact he _ List.mem_cons_self x hx
      · rcases List.mem_append.mp hx with hx | hx
        · exact key _ (by rw [m1]; exact fun c hc => he c (List.mem_cons_of_mem _ hc)) x hx
        · exact r x hx
  · have key : ∀ l : List (Code × Pos), (∀ c ∈ l.map (·.1), c.guards = []) → guardsOf l = [] := by
      intro l
      induction l with
      | nil => intro _; rfl
      | cons x l ih =>
        obtain ⟨c, p⟩ := x
        intro q
        rw [guardsOf_cons, ih (fun c hc => q c (List.mem_cons_of_mem _ hc)), List.append_nil]
        exact q c List.mem_cons_self
    show pushGuards cd.guards (pushGuards (guardsOf (frs.map Frame.where_)) A.guards) = some []
    rw [hg _ List.mem_cons_self, key _ (by rw [m1]; exact fun c hc => hg c (List.mem_cons_of_mem _ hc))]
    exact h.guards
  · show (marksOver frs (A.handled, A.handled)).1 = none
    rw [ho.marks]; exact h.handled
noncomputable def WG (c : Cx) (A : Around) (Φ : End → AS → Prop) (cd : Code) (t : Sem Fin) (frs : List Frame) (a : AS) : Prop :=
  ∀ s, St c a s → Sg (model c.prog c.w) A (fun e s' => ∃ a', St c a' s' ∧ Φ e a') cd t frs s
section
variable {c : Cx} {A : Around} {Φ : End → AS → Prop} {cd : Code} {frs : List Frame} {a : AS} {α : Type} {env : Env} {K : Flow → Sem Fin} {H : Value → Sem Fin} {gd : Bool → Bool} {lv : List Value → List Value}
theorem wg_wrap {m : Sem α} {K : α → Sem Fin} {H : Value → Sem Fin} (h : W c (A.over cd frs) m (fun v a' => WG c A Φ cd (K v) frs a') (fun x a' => WG c A Φ cd (H x) frs a') a) : WG c A Φ cd (m.wrap K H gd lv) frs a :=
  fun s hs => sg_wrap (wpAny_mono (h s hs) (fun v s' z => z.elim fun a' z => z.elim fun h1 q => q s' h1) fun v s' z => z.elim fun a' z => z.elim fun h1 q => q s' h1)
theorem wg_cons {st : Stmt} {rest : List Stmt}
    (h : WG c A Φ cd ((exec st env).wrap (fun f => match f with | .next => (execs rest env).wrap K H gd lv | f => K f) H gd lv) frs a) : WG c A Φ cd ((execs (st :: rest) env).wrap K H gd lv) frs a := by
  rw [execs_cons_wrap]; exact h
theorem wg_leaf {k g l c₁ p₁ kp} (r : Result) (hk : WG c A Φ c₁ (k r) frs a) : WG c A Φ cd (leafOf r) (.ret k none g l c₁ p₁ kp :: frs) a := fun s hs => sg_leaf r (hk s hs)
theorem wg_end (r : Result) (h : Φ (.ret r) a) : WG c A Φ cd (leafOf r) [] a := fun s hs => sg_end r ⟨a, hs, h⟩
theorem wg_While {test : Expr} {body orelse : List Stmt} {pos : Pos}
    (h : ∀ p, WG c A Φ (.whileLoop test body orelse env) ((model c.prog c.w).den (.whileLoop test body orelse env))
      (.ret (fun r => ((match r with | .ok f => (.pure f : Sem Flow) | .error e => .raise e).onRaise fun (x : Value) => do
        if (← field x 1) == Value.none then unsupported "frame.own-activation:exception-without-traceback"
        setFlight x env.frame).wrap K H gd lv) none (gd false) (lv []) cd p [] :: frs) a) :
    WG c A Φ cd ((exec (.While test body orelse pos) env).wrap K H gd lv) frs a := fun s hs => sg_at (sg_call fun p => h p s hs)
theorem wg_whileLoop {test : Expr} {body orelse : List Stmt}
    (h : W c (A.over (.whileLoop test body orelse env) frs) (isTrue test env (eval test env)) (fun b a' =>
        if b = true then WG c A Φ (.whileLoop test body orelse env) ((execs body env).wrap (fun f => match f with
            | .next | .cont => .pure (.again (.whileLoop test body orelse env))
            | .brk => .pure (.done .next)
            | .ret v => .pure (.done (.ret v))) (fun e => (do noteFrame e env; theTreesLotGoes e : Sem Unit).wrap (fun _ => .raise e) .raise id id) id id) frs a'
        else WG c A Φ (.whileLoop test body orelse env) ((execs orelse env).wrap (fun f => .pure (.done f)) (fun e => (do noteFrame e env; theTreesLotGoes e : Sem Unit).wrap (fun _ => .raise e) .raise id id) id id) frs a')
      (fun x a' => WG c A Φ (.whileLoop test body orelse env) ((do noteFrame x env; theTreesLotGoes x : Sem Unit).wrap (fun _ => .raise x) .raise id id) frs a') a) :
    WG c A Φ (.whileLoop test body orelse env) ((model c.prog c.w).den (.whileLoop test body orelse env)) frs a := by
  show WG c A Φ _ ((whileTurn test body orelse env).onRaise (fun x => do noteFrame x env; theTreesLotGoes x)) frs a
  unfold whileTurn
  rw [Sem.onRaise_eq_wrap, Sem.bind_eq_wrap', Sem.wrap_wrap]
  refine wg_wrap (W_mono h (fun b a' hb => ?_) fun x a' hx => ?_)
  · cases b with
    | true =>
      rw [if_pos rfl] at hb
      show WG c A Φ _ (Sem.wrap _ _ _ _ (if true = true then _ else _)) frs a'
      rw [if_pos rfl, Sem.bind_eq_wrap', Sem.wrap_wrap]
      rw [Sem.wrap_congr (execs body env) _ _ (K' := fun f => match f with
            | .next | .cont => .pure (.again (.whileLoop test body orelse env))
            | .brk => .pure (.done .next)
            | .ret v => .pure (.done (.ret v))) (H' := (fun e => (do noteFrame e env; theTreesLotGoes e : Sem Unit).wrap (fun _ => .raise e) .raise id id))
        (fun f => by cases f <;> rfl)
        (fun e => by first | exact Sem.bind_eq_wrap _ _ | (show (do noteFrame e env; theTreesLotGoes e : Sem Unit).bind (fun _ => .raise e) = _; rw [Sem.bind_eq_wrap]))]
      exact hb
    | false =>
      rw [if_neg Bool.false_ne_true] at hb
      show WG c A Φ _ (Sem.wrap _ _ _ _ (if false = true then _ else _)) frs a'
      rw [if_neg Bool.false_ne_true, Sem.bind_eq_wrap', Sem.wrap_wrap]
      rw [Sem.wrap_congr (execs orelse env) _ _ (K' := fun f => (.pure (.done f) : Sem Fin)) (H' := (fun e => (do noteFrame e env; theTreesLotGoes e : Sem Unit).wrap (fun _ => .raise e) .raise id id))
        (fun f => by rfl)
        (fun e => by first | exact Sem.bind_eq_wrap _ _ | (show (do noteFrame e env; theTreesLotGoes e : Sem Unit).bind (fun _ => .raise e) = _; rw [Sem.bind_eq_wrap]))]
      exact hb
  · first
      | (rw [← Sem.bind_eq_wrap] at hx; exact hx)
      | (show WG c A Φ _ ((do noteFrame x env; theTreesLotGoes x : Sem Unit).bind fun _ => .raise x) frs a'; rw [Sem.bind_eq_wrap]; exact hx)
theorem wg_again {c' : Code} (hq : c'.quiet = true) (h : WG c A Φ c' ((model c.prog c.w).den c') frs a) : WG c A Φ cd (.pure (.again c')) frs a := fun s hs => sg_again hq (h s hs)
theorem wg_func {body : List Stmt}
    (h : WG c A Φ (.func body env) ((execs body env).wrap (fun f => .pure (.done (.ret (match f with | .ret v => v | _ => .none))))
      (fun e => (leaving env e).wrap (fun _ => .raise e) .raise id id) id id) frs a) :
    WG c A Φ (.func body env) ((model c.prog c.w).den (.func body env)) frs a := by
  show WG c A Φ _ (.point [] fun _ => ((execs body env).onRaise (leaving env)) >>= _) frs a
  refine fun s hs => sg_point ?_
  revert s
  show WG c A Φ _ _ frs a
  rw [Sem.onRaise_eq_wrap, Sem.bind_eq_wrap', Sem.wrap_wrap]
  rw [Sem.wrap_congr (execs body env) _ _ (K' := fun f => .pure (.done (.ret (match f with | .ret v => v | _ => .none))))
    (H' := fun e => (leaving env e).wrap (fun _ => .raise e) .raise id id) (fun f => by cases f <;> rfl)
    (fun e => by rw [Sem.bind_eq_wrap, Sem.wrap_wrap]; rfl)]
  exact h
end
end Mine.Internal
namespace Mine.Internal
open PySem PySem.W PyProof.Rows PySem.Calls
noncomputable def genC (n : Nat) : Cell := .raw fun o => ∃ nm qn, o.cls = .type "generator" ∧ o.data = .fields #[.int n 0, nm, qn] ∧ o.slots = #[]
noncomputable def AS.put (a : AS) (n : Nat) (gs : GenState) : AS := ⟨a.fs, a.σ, a.gens.setIfInBounds n gs⟩
section
variable {c : Cx} {A : Around} {E : Value → AS → Prop} {a : AS} {fs : List Frm} {σ : Addr → Option (Nat × Cell)} {g : Array GenState} {k n : Nat} {G : Addr}
theorem gen_of {s : Shared} (hs : St c a s) (h : a.σ G = some (k, genC n)) : s.heap.IsGen G n := by
  obtain ⟨⟨o, ho, nm, qn, h1, h2, h3⟩, _⟩ := hs.own G k _ h
  exact ⟨o, nm, qn, ho, h1, h2, h3⟩
theorem St.putG {s : Shared} {x : GenState} (hs : St c a s) : St c (a.put n x) (s.setGen n x) :=
  ⟨hs.keep, hs.fr, hs.nb, hs.nd, hs.own, hs.os, by show s.gens.setIfInBounds n x = a.gens.setIfInBounds n x; rw [hs.gens]⟩
theorem W_iter_gen {Q : Value → AS → Prop} (h : a.σ G = some (k, genC n)) (q : Q (.ref G) a) : W c A (pyIter (.ref G)) Q E a := fun s hs => wpAny_pyIter_gen (gen_of hs h) ⟨a, hs, q⟩
noncomputable def Turned (c : Cx) (G : Addr) (n : Nat) (Q : Option Value → AS → Prop) (E : Value → AS → Prop) (e : End) (a : AS) : Prop := match e with
  | .susp v _ _ _ _ _ _ => Q (some v) (a.put n e.genState)
  | .ret (.ok (.ret .none)) => Q none (a.put n .finished)
  | .ret (.error (.ref x)) => (∃ t cls args tb k, Exc a.σ x t cls args tb ∧ subIn c.K cls (.type "StopIteration") = some false ∧ a.σ G = some (k, genC n)) ∧ E (.ref x) (a.put n .finished)
  | _ => False
theorem W_next_gen {gs : GenState} {Φ : End → AS → Prop} {Q : Option Value → AS → Prop} (hh : A.handled = none) (hroom : A.depth < recursionLimit) (hG : a.σ G = some (k, genC n)) (hg : a.gens[n]? = some gs)
    (hgo : ∀ s, St c (a.put n .running) s → GGo (model c.prog c.w) A.in1 (fun e s' => ∃ a', St c a' s' ∧ Φ e a') gs s) (h : ∀ e a', e.quiet = true → Φ e a' → Turned c G n Q E e a') :
    W c A (pyNext (.ref G)) Q E a := by
  intro s hs
  have hI := gen_of hs hG
  have hgs : s.gens[n]? = some gs := by rw [hs.gens]; exact hg
  have hgo' := hgo _ (hs.putG (n := n) (x := .running))
  unfold pyNext
  refine wpAny_bind (wpAny_attempt (wpAny_callSpecial?_slot (name := Str.ofString "__next__") hI.typeIs slot_gen_next (wpAny_call_entry slot_gen_next hI.typeIs entry_gen_next ?_ (args_gen_next _))))
  show wpAny _ _ (Builtin.Generator.genWake (.ref G) (.send .none)) _ _ s
  unfold Builtin.Generator.genWake
  refine wpAny_bind (wpAny_holding (wpAny_genNumber hI (wpAny_bind (wpAny_genState hgs ?_))))
  have go : gs.status = .fresh ∨ gs.status = .suspended := by cases gs <;> first | exact .inl rfl | exact .inr rfl | exact hgo'.elim
  have main : wpAny (model c.prog c.w) A.in1 (do
      match ← resume n (.send .none) with
      | .yielded v => ret v
      | .returned v =>
        if v == .none then raiseNew (← newExc (.type "StopIteration") [])
        rule "generator.return-value"; throw (← newExc (.type "StopIteration") [v])
      | .raised e => Builtin.Generator.genLeft (.ref G) e
      | .running => rule "generator.already-executing"; raiseError "ValueError" "generator already executing"
      | .justStarted => rule "generator.send-to-fresh"; raiseError "TypeError" "can't send non-None value to a just-started generator"
      | .finished => raiseNew (← newExc (.type "StopIteration") [])) (fun r s' => ∃ v, r = .done (.ret v) ∧ ∃ a', St c a' s' ∧ Q (some v) a')
      (fun e s' => (wpAny (model c.prog c.w) A (isInstance e (.type "StopIteration")) (fun b s'' => ∃ a', St c a' s'' ∧ if b then Q none a' else E e a') (fun _ _ => False) s')) s := by
    show wpAny _ _ (.resume n (.send .none) [] _) _ _ s
    refine wpAny_resumeS hgs hgo' (fun e s₁ hq hΦ => ?_)
    obtain ⟨a', h1, hΦ⟩ := hΦ
    have T := h e a' hq hΦ
    have S2 := h1.putG (n := n) (x := e.genState)
    cases e with
    | susp v g₀ l₀ k₀ c₀ p₀ fs₀ => exact wpAny_pure ⟨v, rfl, _, S2, T⟩
    | ret r =>
      cases r with
      | ok f =>
        cases f with
        | ret v =>
          cases v with
          | none =>
            show wpAny _ _ (newExc (.type "StopIteration") [] >>= _) _ _ _
            refine wpAny_bind ?_
            simp only [newExc, newTuple]
            refine wpAny_bind (wpAny_newObj_type ?_ (by size_fits))
            refine wpAny_bind (m := firstArgMember _ _) (wpAny_of_eq (a := Value.none) (by first | rfl | (simp only [firstArgMember]; rfl)) ?_)
            refine wpAny_newObj_type ?_ (by size_fits)
            simp only [raiseNew]
            refine wpAny_bind (wpAny_bind (wpAny_handled ?_))
            rw [show A.in1.handled = none from hh]
            refine wpAny_throw ?_
            refine wpAny_isInstance (T := "StopIteration") (b := true) ⟨_, Heap.get?_push_size _ rfl, rfl⟩ isSubtype_stop ?_
            exact ⟨_, S2.grow fun b o hb => Heap.get?_push_of_some _ (Heap.get?_push_of_some _ hb), T⟩
          | _ => exact T.elim
        | _ => exact T.elim
      | error x =>
        cases x with
        | ref x =>
          obtain ⟨⟨t, cls, args, tb, k', hx, hsub, hG'⟩, hE⟩ := T
          have S2 : St c (a'.put n .finished) (s₁.setGen n .finished) := S2
          have hI2 := gen_of S2 hG'
          have hx2 : Exc (a'.put n .finished).σ x t cls args tb := hx
          have L : Looks (model c.prog c.w) (s₁.setGen n .finished).heap (isInstance (.ref x) (.type "StopIteration")) false := by
            have e0 : isInstance (.ref x) (.type "StopIteration") = typeOf (.ref x) >>= fun t => isSubtype t (.type "StopIteration") := by simp only [isInstance]
            rw [e0]
            exact (hx2.looks S2).andThen (looks_subIn (c.inK.keeps S2.keep) hsub)
          obtain ⟨o, nm, qn, ho, h2, h3, h4⟩ := hI2
          show wpAny _ _ (Builtin.Generator.genLeft (.ref G) (.ref x)) _ _ _
          unfold Builtin.Generator.genLeft Builtin.Generator.madeByALambda
          refine wpAny_bind (wpAny_bind (wpAny_load ho (wpAny_pure ?_)))
          rw [h2, h3]
          refine wpAny_bind (L.at ?_)
          dsimp only
          rw [Bool.and_false, if_neg Bool.false_ne_true]
          unfold Builtin.Generator.genEscaped
          refine wpAny_bind (L.at ?_)
          refine wpAny_throw ?_
          exact L.at ⟨_, S2, hE⟩
        | _ => exact T.elim
  cases gs with
  | running => exact hgo'.elim
  | finished => exact hgo'.elim
  | _ =>
    refine wpAny_bind (wpAny_roomToWake (c.nolim.keeps hs.keep) hroom ?_)
    refine wpAny_mono main (fun r s' z => ?_) fun e s' q => ?_
    · obtain ⟨v, rfl, a', h1, q⟩ := z
      exact ⟨v, rfl, wpAny_pure ⟨a', h1, q⟩⟩
    · exact wpAny_bind (wpAny_mono q (fun b s'' z => z.elim fun a' z => z.elim fun h1 q => by cases b <;> first | exact wpAny_pure ⟨a', h1, q⟩ | exact wpAny_throw ⟨a', h1, q⟩) fun _ _ z => z.elim)
end
end Mine.Internal
namespace Mine.Internal
open PySem PySem.W PyProof.Rows PySem.Calls
theorem entry_yf : entryFor table "proto.yield_from" = some Builtin.«proto.yield_from» := entryFor_of_tree (by kernel_rfl)
theorem yf_plain : plainId "proto.yield_from" = true := by decide +kernel
noncomputable abbrev yfC (it : Addr) : Code := .builtin "proto.yield_from" ⟨[.ref it, .bool false, .none], []⟩
section
variable {prog : Program} {w : World} {A : Around} {Φ : End → Shared → Prop} {cd : Code} {frs : List Frame} {s : Shared} {α : Type}
theorem sg_bind {M : Model} {m : Sem α} {K : α → Sem Fin} (h : wpAny M (A.over cd frs) m (fun a s' => Sg M A Φ cd (K a) frs s') (fun x s' => Sg M A Φ cd (.raise x) frs s') s) : Sg M A Φ cd (m >>= K) frs s := by
  rw [Sem.bind_eq_wrap']; exact sg_wrap h
theorem den_of {id : String} {args : Args} {b : Builtin} (hb : entryFor table id = some b) : (model prog w).den (.builtin id args) = b args := by
  show (match entryFor table id with | some b => b args | none => unsupported ((withoutEnding? id "#data").getD id)) = _
  rw [hb]
theorem sg_rule {M : Model} {tag : String} {m : Sem Fin} (h : Sg M A Φ cd m frs s) : Sg M A Φ cd (do rule tag; m) frs s := sg_bind (wpAny_rule h)
noncomputable def Goes (M : Model) (cd : Code) (frs : List Frame) (it : Addr) (e : End) : Prop :=
  ∀ (A : Around) (Φ : End → Shared → Prop) (s : Shared), s.TypeIs (.ref it) "tuple_iterator" → Sg M A Φ cd (M.den cd) frs s → GGo M A Φ e.genState s
theorem no_close : typeLookup (.type "tuple_iterator") "close" = pure none := by rw [typeLookup_type, builtinLookup_eq_fast]; kernel_rfl
theorem slept {M : Model} {B : Around} {E : Value → Shared → Prop} {it : Addr} {b : Bool} {Q : Unit → Shared → Prop} (hT : s.TypeIs (.ref it) "tuple_iterator") (hQ : Q () s) : wpAny M B (Builtin.Generator.sleptOver (.ref it) b) Q E s := by
  obtain ⟨o, ho, hc⟩ := hT
  unfold Builtin.Generator.sleptOver
  refine wpAny_bind (wpAny_load ho ?_)
  rw [hc, if_pos (by decide)]
  exact wpAny_pure hQ
theorem sg_yf_item {it t : Addr} {i : Nat} {items : Array Value} {x : Value} (hit : s.heap.IsTupleIter it t i) (ht : s.heap.IsTuple t items) (hx : items[i]? = some x) (ho : splitAtGen frs = none) (hq : frs.any Frame.guarded = false)
    (h : ∀ h' e, h'.IsTupleIter it t (i + 1) → Heap.SameBut it s.heap h' → (∃ g l k c p fs, e = .susp x g l k c p fs) → Goes (model prog w) (yfC it) frs it e → Φ e { s with heap := h' }) :
    Sg (model prog w) A Φ (yfC it) ((model prog w).den (yfC it)) frs s := by
  rw [den_of entry_yf]
  unfold Builtin.«proto.yield_from»
  dsimp only
  refine sg_bind (wpAny_pure ?_)
  refine sg_bind (wpAny_attempt (wpAny_holding ?_))
  rw [if_neg Bool.false_ne_true]
  obtain ⟨o, hio, hc, hd⟩ := id hit
  obtain ⟨ol, hol, hcl, nl, hdl⟩ := ht
  rw [if_pos (beq_self_eq_true _)]
  refine wpAny_bind (wpAny_rule (wpAny_bind (wpAny_callSpecial?_slot (name := Str.ofString "__next__") hit.typeIs F.slot_tuple_iterator_next
    (wpAny_call_entry F.slot_tuple_iterator_next hit.typeIs F.entry_tuple_iterator_next ?_ (F.args_tuple_iterator_next_1 _)))))
  show wpAny _ _ (field (.ref it) 0 >>= _) _ _ s
  refine wpAny_bind (wpAny_field hio hd (x := .ref t) rfl ?_)
  show wpAny _ _ (if (Value.ref t == Value.none) = true then _ else _) _ _ s
  rw [if_neg (show ¬ ((Value.ref t == Value.none) = true) from Bool.false_ne_true)]
  show wpAny _ _ (field (.ref it) 1 >>= _) _ _ s
  refine wpAny_bind (wpAny_field hio hd (x := .int i 0) rfl ?_)
  show wpAny _ _ (seqItems? (.ref t) >>= _) _ _ s
  refine wpAny_bind (wpAny_seqItems hol hdl ?_)
  simp only [Int.toNat_natCast, hx]
  have hit2 : (s.heap.update it (Obj.mapFields fun xs => xs.setIfInBounds 1 (rawInt (i + 1)))).IsTupleIter it t (i + 1) := ⟨_, Heap.get?_update_self _ hio (Obj.isFreed_of_fields (Obj.data_mapFields hd _)), (Obj.cls_mapFields ..).trans hc, by
    rw [Obj.data_mapFields hd]; simp [rawInt]⟩
  refine wpAny_bind (wpAny_setField hio hd (by simp) (wpAny_pure ⟨x, rfl, wpAny_pure ?_⟩))
  have hsb : Heap.SameBut it s.heap (s.heap.update it (Obj.mapFields fun xs => xs.setIfInBounds 1 (rawInt (i + 1)))) := Heap.SameBut.update ..
  have H := fun e => h _ e hit2 hsb
  generalize hs2 : ({ s with heap := s.heap.update it (Obj.mapFields fun xs => xs.setIfInBounds 1 (rawInt (i + 1))) } : Shared) = s2 at H
  have hit3 : s2.heap.IsTupleIter it t (i + 1) := hs2 ▸ hit2
  have hT3 : s2.TypeIs (.ref it) "tuple_iterator" := hit3.typeIs
  refine sg_bind (wpAny_typeOf hT3 ?_)
  refine sg_bind (wpAny_of_eq no_close ?_)
  refine sg_bind (wpAny_pure ?_)
  refine sg_bind (slept hT3 ?_)
  refine sg_yield ho rfl hq fun p => H _ ⟨_, _, _, _, _, _, rfl⟩ ?_
  intro A' Φ' s'' hT hS
  show Sg _ A' Φ' _ (Builtin.Generator.sleptOver (.ref it) false >>= _) frs s''
  refine sg_bind (slept hT ?_)
  refine sg_bind (wpAny_pure ?_)
  exact sg_again (plainId_quiet yf_plain _) hS
theorem sg_yf_end {it t : Addr} {i : Nat} {items : Array Value} {k : Result → Sem Fin} {g : Bool} {l : List Value} {c₁ : Code} {p₁ : Pos} {kp : List Value} (hh : (A.over (yfC it) (.ret k none g l c₁ p₁ kp :: frs)).handled = none)
    (hit : s.heap.IsTupleIter it t i) (ht : s.heap.IsTuple t items) (hx : items[i]? = none)
    (h : ∀ h', Heap.ExtBut it s.heap h' → Sg (model prog w) A Φ c₁ (k (.ok (.ret .none))) frs { s with heap := h' }) :
    Sg (model prog w) A Φ (yfC it) ((model prog w).den (yfC it)) (.ret k none g l c₁ p₁ kp :: frs) s := by
  rw [den_of entry_yf]
  unfold Builtin.«proto.yield_from»
  dsimp only
  refine sg_bind (wpAny_pure ?_)
  refine sg_bind (wpAny_attempt (wpAny_holding ?_))
  rw [if_neg Bool.false_ne_true]
  obtain ⟨o, hio, hc, hd⟩ := id hit
  obtain ⟨ol, hol, hcl, nl, hdl⟩ := ht
  rw [if_pos (beq_self_eq_true _)]
  refine wpAny_bind (wpAny_rule (wpAny_bind (wpAny_callSpecial?_slot (name := Str.ofString "__next__") hit.typeIs F.slot_tuple_iterator_next
    (wpAny_call_entry F.slot_tuple_iterator_next hit.typeIs F.entry_tuple_iterator_next ?_ (F.args_tuple_iterator_next_1 _)))))
  show wpAny _ _ (field (.ref it) 0 >>= _) _ _ s
  refine wpAny_bind (wpAny_field hio hd (x := .ref t) rfl ?_)
  show wpAny _ _ (if (Value.ref t == Value.none) = true then _ else _) _ _ s
  rw [if_neg (show ¬ ((Value.ref t == Value.none) = true) from Bool.false_ne_true)]
  show wpAny _ _ (field (.ref it) 1 >>= _) _ _ s
  refine wpAny_bind (wpAny_field hio hd (x := .int i 0) rfl ?_)
  show wpAny _ _ (seqItems? (.ref t) >>= _) _ _ s
  refine wpAny_bind (wpAny_seqItems hol hdl ?_)
  simp only [Int.toNat_natCast, hx]
  refine wpAny_bind (wpAny_rule (wpAny_bind (wpAny_setField hio hd (by simp) ?_)))
  show wpAny _ _ (newExc (.type "StopIteration") [] >>= _) _ _ _
  refine wpAny_bind ?_
  simp only [newExc, newTuple]
  refine wpAny_bind (wpAny_newObj_type ?_ (by size_fits))
  refine wpAny_bind (m := firstArgMember _ _) (wpAny_of_eq (a := Value.none) (by first | rfl | (simp only [firstArgMember]; rfl)) ?_)
  refine wpAny_newObj_type ?_ (by size_fits)
  simp only [raiseNew]
  refine wpAny_bind (wpAny_handled ?_)
  rw [show (A.over (yfC it) (.ret k none g l c₁ p₁ kp :: frs)).in1.handled = none from hh]
  refine wpAny_bind (wpAny_pure (wpAny_throw ?_))
  refine sg_bind ?_
  unfold Builtin.Generator.endsTheTurnAsAValue Builtin.Generator.isStopAndMetaclass
  refine wpAny_bind (wpAny_bind (wpAny_typeOf (T := "StopIteration") ⟨_, Heap.get?_push_size _ rfl, rfl⟩ ?_))
  refine wpAny_bind (wpAny_of_eq isSubtype_stop (wpAny_bind (wpAny_of_eq (a := Value.type "type") (by rfl) (wpAny_pure ?_))))
  rw [if_neg Bool.false_ne_true]
  refine wpAny_pure ?_
  rw [if_pos rfl]
  refine sg_rule ?_
  refine sg_bind (wpAny_field (x := .none) (Heap.get?_push_size _ rfl) rfl (by rfl) ?_)
  exact sg_leaf _ (h _ (((Heap.SameBut.update s.heap it _).extBut.push _).push _))
end
end Mine.Internal
namespace Mine.Internal
open PySem PySem.W PyProof.Rows PySem.Calls
section
variable {c : Cx} {A : Around} {Φ : End → AS → Prop} {cd : Code} {cds : List Code} {frs : List Frame} {a : AS} {fs : List Frm} {σ : Addr → Option (Nat × Cell)} {g : Array GenState} {env : Env} {k i : Nat} {it t : Addr} {vs : List AV}
  {K : Flow → Sem Fin} {H : Value → Sem Fin} {gd : Bool → Bool} {lv : List Value → List Value}
noncomputable def GoesW (c : Cx) (cd : Code) (frs : List Frame) (it : Addr) (e : End) : Prop := ∀ (A : Around) (Φ : End → AS → Prop) (a : AS) (ki : Nat) (t : Addr) (i : Nat), a.σ it = some (ki, iterCell "tuple_iterator" t i) →
  WG c A Φ cd ((model c.prog c.w).den cd) frs a → ∀ s, St c a s → GGo (model c.prog c.w) A (fun e s' => ∃ a', St c a' s' ∧ Φ e a') e.genState s
theorem wg_yf_item {ki : Nat} {v : AV} (hit : σ it = some (ki, iterCell "tuple_iterator" t i)) (ht : σ t = some (k, .tuple vs)) (hx : vs[i]? = some v) (ho : Over cds frs)
    (h : ∀ e x g' l kk c' p fs' σ', e = .susp x g' l kk c' p fs' → er x = v → σ' = upd σ it (some (ki, iterCell "tuple_iterator" t (i + 1))) → GoesW c (yfC it) frs it e → Φ e ⟨fs, σ', g⟩) :
    WG c A Φ (yfC it) ((model c.prog c.w).den (yfC it)) frs ⟨fs, σ, g⟩ := by
  intro s hs
  obtain ⟨us, n, ho', e⟩ := own_tuple hs ht
  obtain ⟨u, hu, eu⟩ := get_of e hx
  refine sg_yf_item (tupleIter_of hs hit) (isTuple_of ho') hu ho.nogen ho.quiet (fun h' e hi hsb hsusp hgo => ?_)
  obtain ⟨o, ho2, hc, hd⟩ := hi
  have S2 : St c ⟨fs, upd σ it (some (ki, iterCell "tuple_iterator" t (i + 1))), g⟩ { s with heap := h' } := hs.put hit (fun b o q z => (hsb.2 b q).trans z) ho2 (cl' := iterCell "tuple_iterator" t (i + 1)) ⟨hc, hd⟩
  obtain ⟨g', l, kk, c', p, fs', rfl⟩ := hsusp
  exact ⟨_, S2, h _ u g' l kk c' p fs' _ rfl eu rfl fun A' Φ' a' k' t' i' hit' hw s' hs' => hgo A' _ s' (tupleIter_of hs' hit').typeIs (hw s' hs')⟩
theorem wg_yf_end {ki : Nat} {kk : Result → Sem Fin} {l : List Value} {c₁ : Code} {p₁ : Pos} {kp : List Value} (hh : A.handled = none) (hit : σ it = some (ki, iterCell "tuple_iterator" t i)) (ht : σ t = some (k, .tuple vs)) (hx : i = vs.length) (ho : Over cds frs)
    (h : ∀ σ', σ' = upd σ it none → WG c A Φ c₁ (kk (.ok (.ret .none))) frs ⟨fs, σ', g⟩) :
    WG c A Φ (yfC it) ((model c.prog c.w).den (yfC it)) (.ret kk none false l c₁ p₁ kp :: frs) ⟨fs, σ, g⟩ := by
  intro s hs
  obtain ⟨us, n, ho', e⟩ := own_tuple hs ht
  refine sg_yf_end ?_ (tupleIter_of hs hit) (isTuple_of ho') (by rw [Array.getElem?_eq_none]; rw [size_of e, hx]; exact Nat.le_refl _) (fun h' hx => ?_)
  · show (marksOver (.ret kk none false l c₁ p₁ kp :: frs) (A.handled, A.handled)).1 = none
    rw [(ho.ret (k := kk) (l := l) (cd := c₁) (p := p₁) (kp := kp)).marks]; exact hh
  · exact h _ rfl _ (hs.drop hit fun b o q z => hx b o q z)
theorem wg_YieldFrom {e : Expr} {ypos pos : Pos} (hgd : gd false = false)
    (h : W c (A.over cd frs) (eval e env) (fun v a₁ => ∃ t k vs, v = .ref t ∧ a₁.σ t = some (k, .tuple vs) ∧ ∀ it σ', a₁.σ it = none → σ' = upd a₁.σ it (some (9, iterCell "tuple_iterator" t 0)) → ∀ kk l p kp, kk (.ok (.ret .none)) = K .next →
        WG c A Φ (yfC it) ((model c.prog c.w).den (yfC it)) (.ret kk none false l cd p kp :: frs) ⟨a₁.fs, σ', a₁.gens⟩) (fun x a' => WG c A Φ cd (H x) frs a') a)
    (hi : interactive env = false := by with_unfolding_all rfl) (hs : swapsWith (.YieldFrom e ypos) none pos.line env = pure false := by with_unfolding_all rfl) :
    WG c A Φ cd ((exec (.Expr (.YieldFrom e ypos) pos) env).wrap K H gd lv) frs a := by
  rw [exec_Expr env _ pos hi hs]
  have e0 : ((do standAt pos; let v ← eval (.YieldFrom e ypos) env; dropValue (.YieldFrom e ypos) pos v : Sem Flow).wrap K H gd lv) =
    ((standAt pos).wrap (fun _ => (eval e env).wrap (fun v => (standAt ypos).wrap (fun _ => (yieldFrom env v).wrap (fun v => (dropValue (.YieldFrom e ypos) pos v).wrap K H gd lv) H gd lv) H gd lv) H gd lv) H gd lv) := by
    have e1 : eval (.YieldFrom e ypos) env = (eval e env >>= fun v => standAt ypos >>= fun _ => yieldFrom env v) := rfl
    rw [e1]
    simp only [Sem.bind_eq_wrap', Sem.wrap_wrap]
    rfl
  rw [e0]
  refine wg_wrap (W_standAt (wg_wrap (W_mono h (fun v a₁ q => ?_) fun _ _ x => x)))
  refine wg_wrap (W_standAt ?_)
  obtain ⟨t, k, vs, rfl, ht, q⟩ := q
  obtain ⟨fs1, σ1, g1⟩ := a₁
  have e2 : yieldFrom env (.ref t) = (typeOf (.ref t) >>= fun ty => if (ty == .type "coroutine") = true then (do
      if ((← codeFlagsOf env.code) &&& (coIterableCoroutine ||| 0x80)) == 0 then
        rule "yield-from.coroutine"; raiseError "TypeError" "cannot 'yield from' a coroutine object in a non-coroutine generator"
      rule "yield-from.coroutine-in-an-iterable-coroutine"
      runValue (.builtin "proto.yield_from" ⟨[.ref t, .bool false, .none], []⟩)) else holding [.ref t] (pyIter (.ref t)) >>= fun it => runValue (.builtin "proto.yield_from" ⟨[it, .bool false, .none], []⟩)) := rfl
  rw [e2, Sem.bind_eq_wrap', Sem.wrap_wrap]
  refine wg_wrap (fun s hs => ?_)
  obtain ⟨us, n, ho', eus⟩ := own_tuple hs ht
  refine wpAny_typeOf (T := "tuple") ⟨_, ho', rfl⟩ ⟨_, hs, ?_⟩
  clear hs ho' eus us n s
  dsimp only
  rw [if_neg (by decide), Sem.bind_eq_wrap', Sem.wrap_wrap]
  refine wg_wrap (W_holding (W_iter_tuple ht fun it hit σ' e' => ?_))
  intro s hs
  refine sg_call (c' := yfC it) (h := none) (g := gd false) fun p => ?_
  rw [hgd]
  exact q it σ' hit e' _ _ p [] rfl s hs
end
end Mine.Internal
namespace Mine.Internal
open PySem PySem.W PyProof.Rows PySem.Calls
structure GnOk (K : Frag) (f : Addr) (ps rs : List Str) : Prop where
  fn : isFd K f = true
  code : codeIn K (fdOf K f).code (fdOf K f).qualname = true
  names : (fdOf K f).scope.names = (ps ++ rs).map (·, NameKind.local)
  kind : (fdOf K f).scope.kind = .function
  co : (fdOf K f).scope.isCoroutine = false
  gen : (fdOf K f).scope.isGenerator = true
  body : (fdOf K f).body = .stmts (bodyOf (fdOf K f))
  gl : (fdOf K f).globals = mainGlobals
  bl : (fdOf K f).builtins = builtinsNs
  nd : ((("__debug__" : Str) :: ((ps ++ rs) ++ [])).map codeOf).Nodup
section
variable {c : Cx} {A : Around} {E : Value → AS → Prop} {fs : List Frm} {σ : Addr → Option (Nat × Cell)} {g : Array GenState} {d : Nat}
theorem Wk_call_gen {K : Frag} {f : Addr} {ps rs : List Str} {args : List Value} {us : List AV} {vs : List (Option AV)} {R : Result → AS → Prop} (hK : c.K = K) (hf : GnOk K f ps rs)
    (hbind : bindArgs (fdOf K f) ⟨args, []⟩ = pure (ps.zip args)) (hu : args.map er = us) (hi : Init ps us rs vs) (hA : AOk A fs (d + 1))
    (h : ∀ L G σ', L ≠ G → σ L = none → σ G = none → σ' = upd (upd σ L (some (16, frC (ps ++ rs) vs))) G (some (17, genC g.size)) → EnvOk c (callEnv (fdOf K f) L f) L [] (ps ++ rs) [] →
      R (.ok (.ret (.ref G))) ⟨fs, σ', g.push (.fresh (.func (bodyOf (fdOf K f)) (callEnv (fdOf K f) L f)))⟩) :
    Wk c A (.call (.ref f) ⟨args, []⟩) R ⟨fs, σ, g⟩ := by
  subst hK
  intro s hs
  obtain ⟨o, ho, hd⟩ := fdOf_ex hf.fn
  have X : c.K.In s.heap := c.inK.keeps hs.keep
  obtain ⟨f1, f2, f3⟩ := hs.fresh
  have hnm := hf.names
  have hnd := nodup_of_codes hf.nd
  rw [List.append_nil] at hnd
  have hnd2 := (List.nodup_cons.mp hnd).2
  refine codeAny_call_generator hA.room (X _ _ ho) hd hf.co hf.gen hf.body (codeRec_of X hf.code) (BindsTo.of_eq hbind _ _ _ _ ?_)
  refine wpAny_newFunctionEnv (fun x hx => ?_) (fun x hx => ?_) (fun h₀ hns hsb => ⟨(c.nolim.keeps hs.keep).fresh _ hsb, ?_⟩) hf.kind
  · rw [hnm] at hx
    obtain ⟨y, _, rfl⟩ := List.mem_map.mp hx; intro q; cases q
  · have hkeys : ((fdOf c.K f).scope.names.map (·.1)).Nodup := by
      rw [hnm, List.map_map]
      simpa [Function.comp_def] using hnd2
    exact lookup_nodup hkeys (p := (x.1, .local)) (by rw [hnm]; exact List.mem_map.mpr ⟨x.1, List.mem_append_left _ (List.of_mem_zip hx).1, rfl⟩)
  have hk₀ : ∀ b o, s.heap.get? b = some o → h₀.get? b = some o := fun b o e => hsb.extBut b o (Nat.ne_of_lt (Heap.lt_size e)) (Heap.get?_push_of_some _ e)
  have hns2 := hns
  obtain ⟨oL, es, ep, hoL, _⟩ := hns2
  have S0 : St c ⟨fs, upd σ s.heap.objs.size (some (16, frC (ps ++ rs) vs)), g⟩ { s with heap := h₀, toks := s.toks + (ps.zip args).length } := by
    refine ⟨fun b o e => hk₀ b o (hs.keep b o e), fun f' hf => (hs.fr f' hf).keeps fun b _ o e => hk₀ b o e, hs.nb, hs.nd, fun y k cl e => ?_, hs.os, hs.gens⟩
    by_cases z : y = s.heap.objs.size
    · subst z
      change upd σ _ _ _ = _ at e
      rw [upd_self] at e; cases e
      refine ⟨⟨oL, hoL, h₀, _, _, hns, hoL, fun x => ?_⟩, f3, f2⟩
      rw [lookup_reverse (zip_nodup (List.nodup_append.mp hnd2).1)]
      exact hi.gv args hu x
    · change upd σ _ _ y = _ at e
      rw [upd_ne z] at e
      obtain ⟨⟨o', ho', ok⟩, r⟩ := hs.own y k cl e
      exact ⟨⟨o', hk₀ _ _ ho', ok⟩, r⟩
  have hne : s.heap.objs.size ≠ h₀.objs.size := Nat.ne_of_lt (Heap.lt_size hoL)
  have S1 := (S0.alloc (k := 17) (cl := genC g.size) (o := { cls := .type "generator", data := .fields #[.int g.size 0, .str (fdOf c.K f).name (s.toks + (ps.zip args).length), .str (fdOf c.K f).qualname (s.toks + (ps.zip args).length + 1)] })
    ⟨_, _, rfl, rfl, rfl⟩ rfl)
  have hG := S0.fresh.1
  change upd σ _ _ h₀.objs.size = none at hG
  rw [upd_ne (Ne.symm hne)] at hG
  have hgs : s.gens = g := hs.gens
  have hgsz : s.gens.size = g.size := by rw [hgs]
  refine ⟨_, ?_, h _ _ _ hne f1 hG rfl (mkEnv (gs := []) (by rw [hnm, List.map_nil, List.append_nil]) hf.kind hf.gl hf.bl hf.nd (fun p hp => nomatch hp))⟩
  have S2 := S1.setG (g' := g.push (.fresh (.func (bodyOf (fdOf c.K f)) (callEnv (fdOf c.K f) s.heap.objs.size f)))) (s' := { s with
    gens := s.gens.push (.fresh (.func (bodyOf (fdOf c.K f)) (callEnv (fdOf c.K f) s.heap.objs.size f))), toks := s.toks + (ps.zip args).length + 1 + 1,
    heap := h₀.push { cls := .type "generator", data := .fields #[.int g.size 0, .str (fdOf c.K f).name (s.toks + (ps.zip args).length), .str (fdOf c.K f).qualname (s.toks + (ps.zip args).length + 1)] } }) rfl rfl (by rw [hgs])
  dsimp only
  rw [hgsz]
  exact S2
end
end Mine.Internal
namespace Mine.Internal
open PySem PySem.W PyProof.Rows PySem.Calls
noncomputable def soK : Flow → Sem Fin := fun f => .pure (.done (.ret (match f with | .ret v => v | _ => .none)))
noncomputable def soH (env : Env) : Value → Sem Fin := fun e => (leaving env e).wrap (fun _ => .raise e) .raise id id
noncomputable def soKW (env : Env) (rest : List Stmt) : Result → Sem Fin := fun r => ((match r with | .ok f => (.pure f : Sem Flow) | .error e => .raise e).onRaise fun (x : Value) => do
        if (← field x 1) == Value.none then unsupported "frame.own-activation:exception-without-traceback"
        setFlight x env.frame).wrap (fun (f : Flow) => match f with | .next => (execs rest env).wrap soK (soH env) id id | f => soK f) (soH env) id id
noncomputable def frW (env : Env) (cf : List Stmt) (p : Pos) : List Frame := [.ret (soKW env []) none false [] (.func cf env) p []]
theorem over_w {env : Env} {cf : List Stmt} {p : Pos} : Over [.func cf env] (frW env cf p) := Over.nil.ret
section
variable {c : Cx} {A : Around} {Φ : End → AS → Prop} {fs : List Frm} {σ : Addr → Option (Nat × Cell)} {g : Array GenState} {d : Nat} {env : Env} {L : Addr} {ns : List Str} {vs : List (Option AV)} {cf : List Stmt} {p : Pos}
theorem aok_f (hA : AOk A fs (d + 1)) (hk : env.scope.kind = .function) (hL : env.frame = some L) : AOk (A.over (.func cf env) []) (⟨L, [], ns, vs⟩ :: fs) d :=
  (hA.push (f := ⟨L, [], ns, vs⟩)).over (k := 1) .nil (Nat.le_of_ble_eq_true rfl) (Nat.le_of_ble_eq_true rfl) (fun c hc => by
    rcases List.mem_cons.mp hc with rfl | hc
    · rfl
    · exact nomatch hc) fun c hc e he => by
    rcases List.mem_cons.mp hc with rfl | hc
    · rcases List.mem_cons.mp (show e ∈ [env] from he) with rfl | he
      · exact ⟨hk, _, List.mem_cons_self, hL⟩
      · exact nomatch he
    · exact nomatch hc
theorem aok_w {t : Expr} {b o : List Stmt} (hA : AOk A fs (d + 1)) (hk : env.scope.kind = .function) (hL : env.frame = some L) : AOk (A.over (.whileLoop t b o env) (frW env cf p)) (⟨L, [], ns, vs⟩ :: fs) d :=
  (hA.push (f := ⟨L, [], ns, vs⟩)).over (k := 1) over_w (Nat.le_of_ble_eq_true rfl) (Nat.le_of_ble_eq_true rfl) (fun c hc => by
    rcases List.mem_cons.mp hc with rfl | hc
    · rfl
    · rcases List.mem_cons.mp hc with rfl | hc
      · rfl
      · exact nomatch hc) fun c hc e he => by
    rcases List.mem_cons.mp hc with rfl | hc
    · exact nomatch (show e ∈ ([] : List Env) from he)
    · rcases List.mem_cons.mp hc with rfl | hc
      · rcases List.mem_cons.mp (show e ∈ [env] from he) with rfl | he
        · exact ⟨hk, _, List.mem_cons_self, hL⟩
        · exact nomatch he
      · exact nomatch hc
theorem fr_f (hA : AOk A fs d) : ∃ outer, (A.over (.func cf env) []).frames = some (env :: outer) := by
  obtain ⟨envs, e, _⟩ := hA.link
  exact ⟨envs, by show pushEnvs [env] (pushEnvs [] A.frames) = _; rw [e]; rfl⟩
theorem fr_w {t : Expr} {b o : List Stmt} (hA : AOk A fs d) : ∃ outer, (A.over (.whileLoop t b o env) (frW env cf p)).frames = some (env :: outer) := by
  obtain ⟨envs, e, _⟩ := hA.link
  exact ⟨envs, by show pushEnvs [] (pushEnvs [env] A.frames) = _; rw [e]; rfl⟩
theorem wg_weaken {a a' : AS} {cd : Code} {t : Sem Fin} {frs : List Frame} (h : ∀ s, St c a s → St c a' s) (w : WG c A Φ cd t frs a') : WG c A Φ cd t frs a := fun s hs => w s (h s hs)
theorem wg_raise {e : Value} (h : Φ (.ret (.error e)) ⟨fs, σ, g⟩) {cd : Code} : WG c A Φ cd (.raise e) [] ⟨fs, σ, g⟩ := wg_end (.error e) h
theorem wg_leave {e t : Addr} {cls : Value} {args : List AV} {tb : Option Addr} (hA : AOk A fs (d + 1)) (hk : env.scope.kind = .function) (hL : env.frame = some L) (hX : Exc σ e t cls args tb)
    (h : ∀ σ' T, Ext [8] σ σ' → Exc σ' e t cls args (some T) → Φ (.ret (.error (.ref e))) ⟨⟨L, [], ns, vs⟩ :: fs, σ', g⟩) : WG c A Φ (.func cf env) (soH env (.ref e)) [] ⟨⟨L, [], ns, vs⟩ :: fs, σ, g⟩ := by
  obtain ⟨outer, ho⟩ := fr_f (cf := cf) (env := env) hA
  exact wg_wrap (W_leaving (aok_f (ns := ns) (vs := vs) hA hk hL).link ho hL hX fun σ' T x1 x2 => wg_raise (h σ' T x1 x2))
theorem wg_leaveW {e t : Addr} {cls : Value} {args : List AV} {tb : Option Addr} {tt : Expr} {b o : List Stmt} (hA : AOk A fs (d + 1)) (hk : env.scope.kind = .function) (hL : env.frame = some L) (hX : Exc σ e t cls args tb)
    (h : ∀ σ' T, Ext [8] σ σ' → Exc σ' e t cls args (some T) → Φ (.ret (.error (.ref e))) ⟨⟨L, [], ns, vs⟩ :: fs, σ', g⟩) :
    WG c A Φ (.whileLoop tt b o env) ((do noteFrame (.ref e) env; theTreesLotGoes (.ref e) : Sem Unit).wrap (fun _ => .raise (.ref e)) .raise id id) (frW env cf p) ⟨⟨L, [], ns, vs⟩ :: fs, σ, g⟩ := by
  obtain ⟨outer, ho⟩ := fr_w (cf := cf) (env := env) (p := p) (t := tt) (b := b) (o := o) hA
  refine wg_wrap (W_bind (W_noteFrame (aok_w (ns := ns) (vs := vs) hA hk hL).link ho hL hX fun σ1 T1 X1 hx1 => ?_))
  refine fun s hs => wpAny_theTreesLotGoes ⟨_, hs, ?_⟩
  refine wg_leaf (.error (.ref e)) ?_
  show WG c A Φ _ (Sem.wrap _ _ _ _ (Sem.onRaise (.raise (.ref e)) _)) [] _
  rw [Sem.onRaise_eq_wrap, Sem.wrap_wrap]
  show WG c A Φ _ (Sem.wrap _ _ _ _ (Sem.bind _ _)) [] _
  rw [Sem.bind_eq_wrap, Sem.wrap_wrap]
  exact wg_wrap (came_exc (E := fun e a' => WG c A Φ (.func cf env) (soH env e) [] a') hx1 (wg_leave hA hk hL hx1 fun σ' T x1 x2 => h σ' T (X1.trans x1) x2))
end
end Mine.Internal
namespace Mine.Internal
open PySem PySem.W PyProof.Rows PySem.Calls
theorem gn_so {w : World} : GnOk (KK w) 127 ["self"] ["node_group"] := ⟨rfl, rfl, rfl, rfl, rfl, rfl, rfl, rfl, rfl, by decide +kernel⟩
theorem bo_so {w : World} : BindOk (KK w) CTS "static_order" 127 := ⟨rfl, rfl, rfl, rfl, rfl, rfl, by decide +kernel⟩
theorem keep_so {w : World} : keepIn (KK w) (.ref 127) = true := by rfl
noncomputable abbrev nsS : List Str := ["self", "node_group"]
noncomputable def soB (w : World) : List Stmt := bodyOf (fdOf (KK w) 127)
noncomputable def whT : Stmt → Expr
  | .While t _ _ _ => t
  | _ => .Constant .none 0 ⟨0, 0, 0, 0⟩
noncomputable def whB : Stmt → List Stmt
  | .While _ b _ _ => b
  | _ => []
noncomputable def soC (w : World) (env : Env) : Code := .whileLoop (whT ((soB w).getD 1 stN)) (whB ((soB w).getD 1 stN)) [] env
noncomputable def soR (w : World) (env : Env) : Sem Fin := (execs ((whB ((soB w).getD 1 stN)).drop 2) env).wrap (fun (f : Flow) => match f with
            | .next | .cont => .pure (.again (soC w env))
            | .brk => .pure (.done .next)
            | .ret v => .pure (.done (.ret v))) (fun e => (do noteFrame e env; theTreesLotGoes e : Sem Unit).wrap (fun _ => .raise e) .raise id id) id id
section
variable {c : Cx} {A : Around} {fs : List Frm} {σ : Addr → Option (Nat × Cell)} {g : Array GenState} {d : Nat} {env : Env} {L x dx nd : Addr} {as : List NAd} {ep : Nat} {st : SS} {p : Pos}
noncomputable abbrev soF (L x : Addr) (v : Option AV) (fs : List Frm) : List Frm := ⟨L, [], nsS, [some (.ref x), v]⟩ :: fs
structure SoNext (W : Addr → End → Prop) (L x : Addr) (fs : List Frm) (g : Array GenState) (σ : Addr → Option (Nat × Cell)) (st : SS) (Φ : End → AS → Prop) : Prop where
  over : st.ready = some [] → st.nfin = st.npass → ∀ v σ', Ext [1, 18] σ σ' → SO σ' x st → Φ (.ret (.ok (.ret .none))) ⟨soF L x v fs, σ', g⟩
  some : ∀ r, st.ready = some r → (r = [] → st.nfin = st.npass) ∧ ∀ v r', r = v :: r' → ∀ e u g' l kk c' pp fs' tu it σ', e = .susp u g' l kk c' pp fs' → er u = v → Ext [1, 18] σ σ' → SO σ' x (st.getReady r) → σ' tu = .some (0, .tuple r) → σ' it = .some (18, iterCell "tuple_iterator" tu 1) → W it e →
    Φ e ⟨soF L x (.some (.ref tu)) fs, σ', g⟩
structure SoDone (W : Addr → End → Prop) (L x : Addr) (tu : Addr) (l : List AV) (fs : List Frm) (g : Array GenState) (σ : Addr → Option (Nat × Cell)) (st : SS) (Φ : End → AS → Prop) (m : Nat) : Prop where
  le : m ≤ l.length
  good : ∀ i k, i < m → l[i]? = some k → k ∈ st.keys ∧ (st.done (l.take i)).np k = -1
  bad : ∀ k, l[m]? = some k → ∃ said, Bad (st.done (l.take m)) k said ∧ ∀ e t T σ', Ext [1, 8, 18] σ σ' → SO σ' x (st.done (l.take m)) → Exc σ' e t (.type "ValueError") [.str (msgOf k said)] (some T) → Φ (.ret (.error (.ref e))) ⟨soF L x (some (.ref tu)) fs, σ', g⟩
  next : m = l.length → Sane (st.done l) ∧ ∀ σ', Ext [1, 18] σ σ' → SoNext W L x fs g σ' (st.done l) Φ
noncomputable def SoW (c : Cx) (d : Nat) (env : Env) (L x : Addr) : Nat → Addr → End → Prop
  | 0, _, _ => True
  | n + 1, it, e => ∃ cds frs, Over cds frs ∧ GoesW c (yfC it) frs it e ∧
    ∀ (A : Around) (Φ : End → AS → Prop) (fs : List Frm) (σ : Addr → Option (Nat × Cell)) (g : Array GenState) (tu : Addr) (l : List AV) (st : SS) (m : Nat), AOk A fs (d + 9) → σ it = some (18, iterCell "tuple_iterator" tu l.length) → σ tu = some (0, .tuple l) →
      SO σ x st → Sane st → st.ready.isSome = true → (∀ v ∈ l, KO v ∧ RpOk v) → l.length ≤ 200 → SoDone (SoW c d env L x n) L x tu l fs g σ st Φ m → WG c A Φ (yfC it) ((model c.prog c.w).den (yfC it)) frs ⟨soF L x (some (.ref tu)) fs, σ, g⟩
set_option maxHeartbeats 1000000 in
theorem so_top {W : Addr → End → Prop} {Φ : End → AS → Prop} {v : Option AV} (lv : Lv c) (hE : EnvOk c env L [] nsS []) (hk : env.scope.kind = .function) (hL : env.frame = some L) (hA : AOk A fs (d + 9)) (S : SO σ x st) (sane : Sane st) (hr : st.ready.isSome = true)
    (hW : ∀ it e kk l pp kp, kk (.ok (.ret .none)) = soR c.w env → GoesW c (yfC it) (.ret kk none false l (soC c.w env) pp kp :: frW env (soB c.w) p) it e → W it e) (H : SoNext W L x fs g σ st Φ) :
    WG c A Φ (soC c.w env) ((model c.prog c.w).den (soC c.w env)) (frW env (soB c.w) p) ⟨soF L x v fs, σ, g⟩ := by
    obtain ⟨dx, nd, rv, as, ep, S⟩ := S
    have hAw := aok_w (ns := nsS) (vs := [some (.ref x), v]) (cf := soB c.w) (p := p) (t := whT ((soB c.w).getD 1 stN)) (b := whB ((soB c.w).getD 1 stN)) (o := []) (d := d + 8) hA hk hL
    obtain ⟨r, hr1⟩ := Option.isSome_iff_exists.mp hr
    obtain ⟨rk, rz⟩ := sane.rd _ hr1
    refine wg_whileLoop ?_
    refine W_isTrue_any ?_
    refine W_Call_method ?_
    repeat walk_at "st"
    intro pl
    refine W_getMethod S.x S.dx (lv.K ▸ bo_active.get) (lv.K ▸ bo_active.find) (lv.K ▸ bo_active.fn) (no_attr (by decide +kernel)) ?_
    repeat walk_at "st"
    refine ⟨Kp.inK (lv.K ▸ keep_active), is_active_spec lv.toLw (d := d) (hAw.le (by walk_at "le")) S hr1 (Nat.le_trans rz (by decide)) ?_⟩
    repeat walk_at "st"
    cases hb : (decide (st.nfin < st.npass) || !r.isEmpty) with
    | false =>
      rw [if_neg Bool.false_ne_true]
      have hb2 := Bool.or_eq_false_iff.mp hb
      have hr0 : r = [] := List.isEmpty_iff.mp (by rw [← Bool.not_eq_false']; exact hb2.2)
      exact wg_leaf (.ok .next) (wg_end (.ok (.ret .none)) (H.over (hr0 ▸ hr1) ((H.some r hr1).1 hr0) _ _ Ext.refl ⟨_, _, _, _, _, S⟩))
    | true =>
      rw [if_pos rfl]
      obtain ⟨H1, H2⟩ := H.some r hr1
      obtain ⟨u0, r', rfl⟩ : ∃ u0 r', r = u0 :: r' := by
        cases r with
        | cons u0 r' => exact ⟨u0, r', rfl⟩
        | nil => rw [decide_eq_false (by rw [H1 rfl]; exact Int.lt_irrefl _)] at hb; cases hb
      refine wg_cons ?_
      refine wg_wrap ?_
      refine W_Assign_Name ?_
      repeat walk_at "st"
      intro pl2
      refine W_getMethod S.x S.dx (lv.K ▸ bo_ready.get) (lv.K ▸ bo_ready.find) (lv.K ▸ bo_ready.fn) (no_attr (by decide +kernel)) ?_
      repeat walk_at "st"
      refine ⟨Kp.inK (lv.K ▸ keep_ready), get_ready_spec lv.toLw (d := d) (hAw.le (by walk_at "le")) S hr1 rk (Nat.le_trans rz (by decide)) (fun t3 σ3 h3 X3 ht3 S3 => ?_)⟩
      repeat walk_at "st"
      refine wg_cons (wg_YieldFrom rfl ?_ (hi := by unfold interactive; rw [hE.kind]; rfl))
      repeat walk_at "st"
      refine ⟨t3, 0, _, rfl, ht3, fun it σ4 h4 e4 kk l pp kp hkk => ?_⟩
      have X4 : Ext [] σ3 σ4 := Ext.new_eq e4 h4
      have hit4 := at_upd e4
      refine wg_weaken (a' := ⟨soF L x (.some (.ref t3)) fs, upd σ4 it (some (18, iterCell "tuple_iterator" t3 0)), g⟩) (fun s hs => hs.recolour hit4) ?_
      generalize e5 : upd σ4 it (some (18, iterCell "tuple_iterator" t3 0)) = σ5
      have X5 : Ext [9] σ4 σ5 := Ext.own_eq e5.symm hit4 List.mem_cons_self
      have X35 : ∀ {k : Nat}, k ∉ [9] → ∀ y cl, σ3 y = some (k, cl) → σ5 y = some (k, cl) := fun hk y cl q => X5 _ _ _ (X4 _ _ _ q List.not_mem_nil) hk
      have ht5 := X35 (by decide) _ _ ht3
      have hit5 := at_upd e5.symm
      have hov : Over [soC c.w env, .func (soB c.w) env] (.ret kk none false l (soC c.w env) pp kp :: frW env (soB c.w) p) := over_w.ret
      refine wg_yf_item (vs := u0 :: r') (i := 0) (v := u0) hit5 ht5 rfl hov (fun e u g' l2 kk2 c' p2 fs' σ6 e6 eu e7 hgo => ?_)
      have X6 : Ext [18] σ5 σ6 := Ext.own_eq e7 hit5 List.mem_cons_self
      have X36 : Ext [] σ3 σ6 := fun y k cl q _ => by
        have ne := ne_new q h4
        rw [put_ne e7 ne, put_ne e5.symm ne, put_ne e4 ne]; exact q
      exact H2 _ _ rfl e u g' l2 kk2 c' p2 fs' t3 it σ6 e6 eu ((X3.trans X36.nil).mono (by decide)) ⟨_, _, _, _, _, (S3.ext X4 (by decide) (by decide)).ext X5 (by decide) (by decide) |>.ext X6 (by decide) (by decide)⟩ (X6 _ _ _ ht5 (by decide)) (at_upd e7) (hW it e kk l pp kp hkk hgo)
set_option maxHeartbeats 1000000 in
theorem so_rest {W : Addr → End → Prop} {Φ : End → AS → Prop} {tu : Addr} {l : List AV} {m : Nat} (lv : Lv c) (hE : EnvOk c env L [] nsS []) (hk : env.scope.kind = .function) (hL : env.frame = some L) (hA : AOk A fs (d + 9)) (S : SO σ x st) (sane : Sane st) (hr : st.ready.isSome = true)
    (htu : σ tu = some (0, .tuple l)) (hl : ∀ v ∈ l, KO v ∧ RpOk v) (hlz : l.length ≤ 200) (H : SoDone W L x tu l fs g σ st Φ m)
    (top : ∀ {σ' : Addr → Option (Nat × Cell)}, SO σ' x (st.done l) → Sane (st.done l) → (st.done l).ready.isSome = true → SoNext W L x fs g σ' (st.done l) Φ →
      WG c A Φ (soC c.w env) ((model c.prog c.w).den (soC c.w env)) (frW env (soB c.w) p) ⟨soF L x (some (.ref tu)) fs, σ', g⟩) :
    WG c A Φ (soC c.w env) (soR c.w env) (frW env (soB c.w) p) ⟨soF L x (some (.ref tu)) fs, σ, g⟩ := by
  obtain ⟨dx, nd, rv, as, ep, S⟩ := S
  have hAw := aok_w (ns := nsS) (vs := [some (.ref x), some (.ref tu)]) (cf := soB c.w) (p := p) (t := whT ((soB c.w).getD 1 stN)) (b := whB ((soB c.w).getD 1 stN)) (o := []) (d := d + 8) hA hk hL
  unfold soR
  refine wg_cons ?_
  refine wg_wrap ?_
  refine W_ExprE hE ?_
  refine W_Call_methodS ?_
  repeat walk_at "st"
  refine W_getBound S.x S.dx (lv.K ▸ bo_done) (no_attr (by decide +kernel)) (fun m5 h5 σ5 e5 => ?_)
  have X5 : Ext [] σ σ5 := Ext.new_eq e5 h5
  obtain ⟨od, ho1, ho2⟩ := fdOf_ex (K := KK c.w) fn_done.fn
  refine W_callWith (W_args_star ?_)
  repeat walk_at "st"
  refine ⟨tu, _, rfl, ⟨0, .inr (X5 _ _ _ htu List.not_mem_nil)⟩, Nat.le_trans hlz (by decide), fun us hus => ⟨Kp.bound (at_upd e5) (lv.K ▸ ho1) ho2, W_call (Wk_bound (at_upd e5) ?_)⟩⟩
  refine done_spec lv.toLw (d := d) (N := 2000) (hAw.le (by walk_at "le")) (S.ext X5 (by decide) (by decide)) hr sane.fit.su ?_ (Nat.le_trans hlz (by decide)) hus (fun k hk => ⟨(hl k hk).1.key, (hl k hk).2⟩) sane.su H.le H.good (fun k hk => ?_) (fun σ6 em X6 S6 => ?_)
  · obtain ⟨l0, hl0⟩ := Option.isSome_iff_exists.mp hr
    have := (sane.rd l0 hl0).2
    unfold SS.rl
    rw [hl0]
    show l0.length + _ ≤ _
    lia
  · obtain ⟨said, hb, hΦ⟩ := H.bad k hk
    refine ⟨said, hb, fun e t T σ' X S' hx => ?_⟩
    dsimp only
    refine wg_leaveW hA ‹_› hL hx fun σ2 T2 X2 hx2 => hΦ _ _ _ _ ((X5.nil.trans (X.trans (X2.mono (by decide)))).mono (by decide)) ⟨_, _, _, _, _, S'.ext X2 (by decide) (by decide)⟩ hx2
  · obtain ⟨sane2, next⟩ := H.next em
    have hr2 := (SS.done_same (l := l) (st := st) (N := 2000) sane.fit.su).2.2.1 hr
    dsimp only
    repeat walk_at "st"
    refine wg_again ?_ (top ⟨_, _, _, _, _, by first | exact S6 | (rw [em, List.take_length] at S6; exact S6)⟩ sane2 hr2 (next _ ((X5.nil.trans X6).mono (by decide))))
    rfl
end
end Mine.Internal
namespace Mine.Internal
open PySem PySem.W PyProof.Rows PySem.Calls
section
variable {c : Cx} {A : Around} {fs : List Frm} {σ : Addr → Option (Nat × Cell)} {g : Array GenState} {d : Nat} {env : Env} {L x dx nd G : Addr} {as : List NAd} {ep k : Nat} {st : SS} {p : Pos}
theorem SoDone.low {W : Addr → End → Prop} {tu : Addr} {l : List AV} {m : Nat} {σ' : Addr → Option (Nat × Cell)} {Φ : End → AS → Prop} (H : SoDone W L x tu l fs g σ st Φ m) (X : Ext [1, 18] σ σ') : SoDone W L x tu l fs g σ' st Φ m :=
  ⟨H.le, H.good, fun k hk => by
    obtain ⟨said, hb, q⟩ := H.bad k hk
    exact ⟨said, hb, fun e t T σ'' X' => q e t T σ'' ((X.mono (by decide)).trans X')⟩, fun em => ⟨(H.next em).1, fun σ'' X' => (H.next em).2 σ'' (X.trans X')⟩⟩
theorem so_wait (lv : Lv c) (hE : EnvOk c env L [] nsS []) (hk : env.scope.kind = .function) (hL : env.frame = some L) : ∀ (n : Nat) (it : Addr) (e : End) (kk : Result → Sem Fin) (l : List Value) (pp : Pos) (kp : List Value), kk (.ok (.ret .none)) = soR c.w env →
    GoesW c (yfC it) (.ret kk none false l (soC c.w env) pp kp :: frW env (soB c.w) p) it e → SoW c d env L x n it e
  | 0, _, _, _, _, _, _, _, _ => trivial
  | n + 1, it, e, kk, l, pp, kp, hkk, hgo => by
    refine ⟨_, _, over_w.ret, hgo, fun A Φ fs σ g tu l st m hA hit htu S sane hr hl hlz H => ?_⟩
    refine wg_yf_end hA.handled hit htu rfl over_w (fun σ' e' => ?_)
    have X : Ext [18] σ σ' := Ext.own_eq e' hit List.mem_cons_self
    have ne : tu ≠ it := fun z => by rw [z, hit] at htu; cases htu
    rw [hkk]
    exact so_rest lv hE hk hL hA (S.ext X (by decide) (by decide)) sane hr ((put_ne e' ne).trans htu) hl hlz (H.low (X.mono (by decide))) fun S' sane' hr' H' => so_top lv hE hk hL hA S' sane' hr' (so_wait lv hE hk hL n) H'
noncomputable def SoT (c : Cx) (G : Addr) (k : Nat) (L x : Addr) (fs : List Frm) (g : Array GenState) (Q : Option Value → AS → Prop) (E : Value → AS → Prop) : End → AS → Prop := fun e a =>
  ∃ v σ', a = ⟨soF L x v fs, σ', g⟩ ∧ (e.quiet = true → σ' L = none → Turned c G k Q E e ⟨fs, upd σ' L (some (16, frC nsS [some (.ref x), v])), g⟩)
theorem ggo_mono {M : Model} {Φ Φ' : End → Shared → Prop} {gs : GenState} {s : Shared} (h : GGo M A Φ gs s) (q : ∀ e s', Φ e s' → Φ' e s') : GGo M A Φ' gs s := by
  cases gs with
  | fresh c => exact fun Γ p e1 e2 => (h Γ p e1 e2).elim fun e z => z.elim fun s' z => ⟨e, s', z.1, z.2.1, q _ _ z.2.2⟩
  | suspended k l c p fs cl => exact fun Γ p e1 e2 => (h Γ p e1 e2).elim fun e z => z.elim fun s' z => ⟨e, s', z.1, z.2.1, q _ _ z.2.2⟩
  | running => exact h
  | finished => exact h
theorem sot_out {Q : Option Value → AS → Prop} {E : Value → AS → Prop} {e : End} {s' : Shared} (h : ∃ a', St c a' s' ∧ SoT c G k L x fs g Q E e a') : ∃ a', St c a' s' ∧ (e.quiet = true → Turned c G k Q E e a') := by
  obtain ⟨a', h1, v, σ', rfl, q⟩ := h
  refine ⟨_, h1.shelve rfl, fun hq => q hq ?_⟩
  cases z : σ' L with
  | none => rfl
  | some p =>
    obtain ⟨_, _, h3⟩ := h1.own L p.1 p.2 z
    exact absurd (by rw [List.flatMap_cons]; exact List.mem_append_left _ List.mem_cons_self) h3
theorem W_so_fresh {Q : Option Value → AS → Prop} {E : Value → AS → Prop} {v : Option AV} (hA : AOk A fs (d + 1)) (hG : σ G = some (17, genC k)) (hL : σ L = some (16, frC nsS [some (.ref x), v])) (hg : g[k]? = some (.fresh (.func (soB c.w) env)))
    (h : WG c A.in1 (SoT c G k L x fs (g.setIfInBounds k .running) Q E) (.func (soB c.w) env) ((model c.prog c.w).den (.func (soB c.w) env)) [] ⟨soF L x v fs, upd σ L none, g.setIfInBounds k .running⟩) : W c A (pyNext (.ref G)) Q E ⟨fs, σ, g⟩ := by
  refine W_next_gen (Φ := fun e a => e.quiet = true → Turned c G k Q E e a) hA.handled hA.room hG hg (fun s hs => ?_) fun e a' hq q => q hq
  exact ggo_mono (gs := .fresh (.func (soB c.w) env)) (h s (hs.unshelve hL rfl)) fun _ _ q => sot_out q
theorem W_so_wait {Q : Option Value → AS → Prop} {E : Value → AS → Prop} {v : Option AV} {e : End} {it : Addr} {frs : List Frame} {ki i : Nat} {tu : Addr} (hA : AOk A fs (d + 1)) (hG : σ G = some (17, genC k)) (hL : σ L = some (16, frC nsS [some (.ref x), v])) (hg : g[k]? = some e.genState)
    (hgo : GoesW c (yfC it) frs it e) (hit : upd σ L none it = some (ki, iterCell "tuple_iterator" tu i))
    (h : WG c A.in1 (SoT c G k L x fs (g.setIfInBounds k .running) Q E) (yfC it) ((model c.prog c.w).den (yfC it)) frs ⟨soF L x v fs, upd σ L none, g.setIfInBounds k .running⟩) : W c A (pyNext (.ref G)) Q E ⟨fs, σ, g⟩ := by
  refine W_next_gen (Φ := fun e a => e.quiet = true → Turned c G k Q E e a) hA.handled hA.room hG hg (fun s hs => ?_) fun e a' hq q => q hq
  exact ggo_mono (hgo A.in1 (SoT c G k L x fs (g.setIfInBounds k .running) Q E) ⟨soF L x v fs, upd σ L none, g.setIfInBounds k .running⟩ ki tu i hit h s (hs.unshelve hL rfl)) fun _ _ q => sot_out q
set_option maxHeartbeats 1000000 in
theorem so_start {W : Addr → End → Prop} {Φ : End → AS → Prop} (lv : Lv c) (hE : EnvOk c env L [] nsS []) (hk : env.scope.kind = .function) (hL : env.frame = some L) (hA : AOk A fs (d + 9)) (S : SO σ x st) (sane : Sane st)
    (hW : ∀ p it e kk l pp kp, kk (.ok (.ret .none)) = soR c.w env → GoesW c (yfC it) (.ret kk none false l (soC c.w env) pp kp :: frW env (soB c.w) p) it e → W it e)
    (late : st.ready.isSome = true → ∀ e t T σ', Ext [8] σ σ' → SO σ' x st → Exc σ' e t (.type "ValueError") [.str PRL] (some T) → Φ (.ret (.error (.ref e))) ⟨soF L x none fs, σ', g⟩)
    (ring : st.ready = none → ∀ r, RingRes st.keys st.su (some r) → ∀ e t T args σ', Ext [1, 3, 4, 8] σ σ' → SO σ' x st.prep → Exc σ' e t (.ref 48) args (some T) → Φ (.ret (.error (.ref e))) ⟨soF L x none fs, σ', g⟩)
    (go : st.ready = none → RingRes st.keys st.su none → Sane st.prep ∧ ∀ σ', Ext [1, 3, 4, 8] σ σ' → SO σ' x st.prep → SoNext W L x fs g σ' st.prep Φ) :
    WG c A Φ (.func (soB c.w) env) ((model c.prog c.w).den (.func (soB c.w) env)) [] ⟨soF L x none fs, σ, g⟩ := by
  obtain ⟨dx, nd, rv, as, ep, S⟩ := S
  have hAf := aok_f (ns := nsS) (vs := [some (.ref x), none]) (cf := soB c.w) (d := d + 8) hA hk hL
  refine wg_func (wg_cons ?_)
  refine wg_wrap ?_
  refine W_ExprE hE ?_
  repeat walk_at "st"
  intro pl
  refine W_getMethod S.x S.dx (lv.K ▸ bo_prepare.get) (lv.K ▸ bo_prepare.find) (lv.K ▸ bo_prepare.fn) (no_attr (by decide +kernel)) ?_
  repeat walk_at "st"
  cases hr : st.ready with
  | some r0 =>
    refine ⟨Kp.inK (lv.K ▸ keep_prepare), W_call (prepare_late lv.toLw lv.CycleError (d := d) (hAf.le (by walk_at "le")) S (by rw [hr]; rfl) (fun e t T σ1 X1 hx1 => ?_))⟩
    exact wg_leave hA hk hL hx1 fun σ2 T2 X2 hx2 => late (by rw [hr]; rfl) _ _ _ _ (X1.trans X2) ⟨_, _, _, _, _, (S.ext X1 (by decide) (by decide)).ext X2 (by decide) (by decide)⟩ hx2
  | none =>
    refine ⟨Kp.inK (lv.K ▸ keep_prepare), W_call (prepare_spec lv.toLw lv.CycleError (d := d) (hAf.le (by walk_at "le")) S hr sane.su (Nat.lt_of_le_of_lt sane.fit.keys (by decide)) (fun k => Nat.le_trans (sane.fit.su k) (by decide)) (fun σ1 b hr1 X1 S1 => ?_) (fun r e t args T σ1 b hr1 X1 S1 hx1 => ?_))⟩
    · obtain ⟨sane2, nx⟩ := go hr hr1
      dsimp only
      repeat walk_at "st"
      refine wg_cons (wg_While fun p => ?_)
      exact so_top lv hE hk hL hA ⟨_, _, _, _, _, S1⟩ sane2 rfl (hW p) (nx _ X1 ⟨_, _, _, _, _, S1⟩)
    · dsimp only
      exact wg_leave hA hk hL hx1 fun σ2 T2 X2 hx2 => ring hr r hr1 _ _ _ _ _ (X1.trans (X2.mono (by decide))) ⟨_, _, _, _, _, S1.ext X2 (by decide) (by decide)⟩ hx2
end
end Mine.Internal
namespace Mine.Internal
open PySem PySem.W PyProof.Rows PySem.Calls
structure AddOk (n : Nat) (l : List Nat) : Prop where
  lt : ∀ v ∈ l, v < n
  len : 1 ≤ l.length ∧ l.length ≤ 4
structure RowsAt (σ : Addr → Option (Nat × Cell)) (D : Addr) (k kr : Nat) (as : List Addr) (al : List (List Nat)) : Prop where
  d : σ D = some (k, .list (as.map AV.ref))
  len : as.length = al.length
  row : ∀ (j : Nat) (p : Addr) (l : List Nat), as[j]? = some p → al[j]? = some l → σ p = some (kr, .list (IV l))
theorem RowsAt.ext {C : List Nat} {σ σ' : Addr → Option (Nat × Cell)} {D : Addr} {k kr : Nat} {as : List Addr} {al : List (List Nat)} (h : RowsAt σ D k kr as al) (e : Ext C σ σ') (h1 : k ∉ C) (h2 : kr ∉ C) : RowsAt σ' D k kr as al :=
  ⟨e _ _ _ h.d h1, h.len, fun j p l a b => e _ _ _ (h.row j p l a b) h2⟩
theorem RowsAt.push {σ σ' : Addr → Option (Nat × Cell)} {D r : Addr} {k kr : Nat} {as : List Addr} {al : List (List Nat)} {l : List Nat} (h : RowsAt σ D k kr as al) (hr : σ r = some (kr, .list (IV l))) (hkr : kr ≠ k)
    (e : σ' = upd σ D (some (k, .list (as.map AV.ref ++ [.ref r])))) : RowsAt σ' D k kr (as ++ [r]) (al ++ [l]) := by
  have ne : ∀ {y : Addr} {cl : Cell}, σ y = some (kr, cl) → y ≠ D := fun {y cl} q z => by rw [z, h.d] at q; cases q; exact hkr rfl
  refine ⟨by rw [at_upd e, List.map_append]; rfl, by rw [List.length_append, List.length_append, h.len]; rfl, fun j p l' a b => ?_⟩
  rcases Nat.lt_or_ge j as.length with hj | hj
  · rw [List.getElem?_append_left hj] at a
    rw [List.getElem?_append_left (h.len ▸ hj)] at b
    have := h.row j p l' a b
    rw [put_ne e (ne this)]; exact this
  · rw [List.getElem?_append_right hj] at a
    rw [List.getElem?_append_right (h.len ▸ hj)] at b
    have h0 : j - as.length = 0 := by
      have := (List.getElem?_eq_some_iff.mp a).1
      exact Nat.lt_one_iff.mp this
    rw [h0] at a; rw [← h.len, h0] at b
    cases a; cases b
    rw [put_ne e (ne hr)]; exact hr
noncomputable abbrev nsA : List Str := ["numbers", "total", "n", "adds", "k", "rest", "picks", "count", "turn", "p"]
theorem fn_adds {w : World} : FnOk (KK w) 151 ["numbers", "total", "n"] ["adds", "k", "rest", "picks", "count", "turn", "p"] ["range", "len"] := ⟨rfl, rfl, rfl, rfl, rfl, rfl, rfl, rfl, rfl, by decide +kernel⟩
inductive AdJ (nl : Addr) (total : Int) (n : Nat) (D : Addr) (i : Nat) (vv : List (Option AV)) (σ : Addr → Option (Nat × Cell)) : Prop
  | mk (as : List Addr) (al : List (List Nat)) (b1 b2 b3 b4 b5 b6 : Option AV) : vv = [some (.ref nl), some (.int total), some (iv n), some (.ref D), b1, b2, b3, b4, b5, b6] → RowsAt σ D 6 5 as al → al.length = i → (∀ l ∈ al, AddOk n l) → AdJ nl total n D i vv σ
inductive PkJ (nl : Addr) (total : Int) (n : Nat) (D pk : Addr) (i q v0 : Nat) (j : Nat) (vv : List (Option AV)) (σ : Addr → Option (Nat × Cell)) : Prop
  | mk (r : Int) (ps : List Nat) (b5 b6 : Option AV) : vv = [some (.ref nl), some (.int total), some (iv n), some (.ref D), some (iv i), some (.int r), some (.ref pk), some (iv q), b5, b6] → σ pk = some (7, .list (IV (v0 :: ps))) → ps.length ≤ j → (∀ p ∈ ps, p < n) → PkJ nl total n D pk i q v0 j vv σ
section
variable {c : Cx} {A : Around} {E : Value → AS → Prop} {fs : List Frm} {σ : Addr → Option (Nat × Cell)} {g : Array GenState} {d : Nat}
theorem W_recol1 {α : Type} {t : Sem α} {Q : α → AS → Prop} {x : Addr} {k : Nat} {cl : Cell} (k' : Nat) (hx : σ x = some (k, cl)) (h : ∀ σ', σ' = upd σ x (some (k', cl)) → W c A t Q E ⟨fs, σ', g⟩) : W c A t Q E ⟨fs, σ, g⟩ := fun s hs => h _ rfl s (hs.recolour hx)
set_option maxHeartbeats 3000000 in
theorem adds_spec {nl : Addr} {ns : List Int} {total : Int} {t0 t1 : Tok} {n : Nat} {Q : Value → AS → Prop} (l : Lv c) (hA : AOk A fs (d + 1)) (hnl : σ nl = some (0, .list (I2 ns))) (hl : ns.length ≤ 63) (hn0 : 0 < n) (hn : n ≤ 60)
    (h : ∀ r σ' as al, Ext [6, 7] σ σ' → RowsAt σ' r 6 5 as al → al.length = ns.length → (∀ l ∈ al, AddOk n l) → Q (.ref r) ⟨fs, σ', g⟩) : W c A (call (.ref 151) [.ref nl, .int total t0, .int n t1]) Q E ⟨fs, σ, g⟩ := by
  refine W_call_G l.K (ps := ["numbers", "total", "n"]) (rs := ["adds", "k", "rest", "picks", "count", "turn", "p"]) (ns := nsA) (us := [.ref nl, .int total, iv n]) (gs := [("range", .type "range"), ("len", .builtin "len")])
    fn_adds rfl (by kernel_rfl) rfl (.cons (.cons (.cons (.rest (.rest (.rest (.rest (.rest (.rest (.rest .nil)))))))))) (by simp [l.range, l.len]) hA (fun L env B P X hfr hh hL hA' hout hE hFx hUx => ?_)
  have hlk : (I2 ns).length = ns.length := List.length_map ..
  have big : ∀ {a b : Nat}, a ≤ b → b ≤ 300 → a ≤ 1000000 := fun h1 h2 => Nat.le_trans h1 (Nat.le_trans h2 (Nat.le_of_ble_eq_true rfl))
  have hlz : (I2 ns).length ≤ 1000000 := big (hlk ▸ hl) (Nat.le_of_ble_eq_true rfl)
  have hn1 : (n : Int) ≠ 0 := by lia
  have hnl2 : (n : Nat).log2 < 9000 := Nat.lt_of_le_of_lt (Nat.log2_le_self n) (Nat.lt_of_le_of_lt hn (by decide))
  refine W_consG (fun _ _ => ?_)
  repeat walk_at "st"
  refine W_newList 6 (Nat.zero_le _) (fun D h1 σ1 e1 => ?_)
  have X1 : Ext [] σ σ1 := Ext.new_eq e1 h1
  have hnl1 := X1 _ _ _ hnl List.not_mem_nil
  have R1 : RowsAt σ1 D 6 5 [] [] := ⟨at_upd e1, rfl, fun j p l a => nomatch a⟩
  repeat walk_at "st"
  refine W_For ?_
  repeat walk_at "st"
  refine ⟨Kp.builtin, W_len_list hnl1 hlz (fun t7 => ?_)⟩
  rw [hlk]
  repeat walk_at "st"
  refine ⟨Kp.type, W_range1 (fun rg h2 σ2 e2 => ?_)⟩
  have X2 : Ext [] σ1 σ2 := Ext.new_eq e2 h2
  repeat walk_at "st"
  refine W_iter_range0 (at_upd e2) (big hl (Nat.le_of_ble_eq_true rfl)) (fun it h3 σ3 e3 => ?_)
  refine Wk_loopG (IterOf.range0 (k := 0) hh) [6, 7] (by decide) (by decide) (fun i vv σ => AdJ nl total n D i vv σ) (fun i vv σ σ' q e => by obtain ⟨as, al, b1, b2, b3, b4, b5, b6, q1, q2, q3, q4⟩ := q; exact ⟨as, al, b1, b2, b3, b4, b5, b6, q1, q2.ext e (by decide) (by decide), q3, q4⟩) h3 e3 trivial
    ⟨[], [], _, _, _, _, _, _, rfl, R1.ext X2 (by decide) (by decide), rfl, fun l hl => nomatch hl⟩ ?_ ?_
  · rintro i v vv σ4 u4 P4 E4 hP4 hE4 ⟨as, al, b1, b2, b3, b4, b5, b6, rfl, R4, hal, hok⟩ hv eu _ Y4
    obtain ⟨rfl, hi⟩ := rng_at hv
    obtain ⟨tu, rfl⟩ := er_int eu
    have hnl4 := Y4 _ _ _ (X2 _ _ _ hnl1 List.not_mem_nil) (by decide)
    obtain ⟨z, hz⟩ : ∃ z, ns[i]? = some z := ⟨_, List.getElem?_eq_getElem hi⟩
    repeat walk_at "st"
    refine ⟨noGet_list hnl4, W_item_list hnl4 (Int.natCast_nonneg _) (v := .int z) (by rw [Int.toNat_natCast, List.getElem?_map, hz]; rfl) hlz ?_⟩
    repeat walk_at "st"
    refine W_mul (.of_left (by decide)) (fun t8 => ?_)
    repeat walk_at "st"
    generalize z + 60803 * ((i : Int) + 1) = x
    refine W_mod hn1 (fun t9 => ?_)
    obtain ⟨v0, hv0, hv0n⟩ := fmod_nat (r := x) (m := n) hn0
    rw [hv0]
    repeat walk_at "st"
    refine W_newList 7 (Nat.le_of_ble_eq_true rfl) (fun pk h5 σ5 e5 => ?_)
    have X5 : Ext [] σ4 σ5 := Ext.new_eq e5 h5
    repeat walk_at "st"
    refine W_floordiv hn1 hnl2 (fun ta => ?_)
    repeat walk_at "st"
    refine W_mod (by decide) (fun tc => ?_)
    obtain ⟨q, hq, hq4⟩ := fmod_nat (r := x.fdiv n) (m := 4) (by decide)
    rw [show ((4 : Nat) : Int) = 4 from rfl] at hq
    rw [hq]
    repeat walk_at "st"
    refine W_mul (.of_left (by decide)) (fun t8 => ?_)
    repeat walk_at "st"
    rw [show (4 : Int) * (n : Int) = ((4 * n : Nat) : Int) from (Int.natCast_mul 4 n).symm]
    refine W_floordiv (by walk_at "le") (Nat.lt_of_le_of_lt (Nat.log2_le_self _) (Nat.lt_of_le_of_lt (Nat.mul_le_mul_left 4 hn) (by decide))) (fun td => ?_)
    repeat walk_at "st"
    refine W_For ?_
    repeat walk_at "st"
    refine ⟨Kp.type, W_range1 (fun rg2 h6 σ6 e6 => ?_)⟩
    have X6 : Ext [] σ5 σ6 := Ext.new_eq e6 h6
    repeat walk_at "st"
    refine W_iter_range0 (n := q) (at_upd e6) (big (Nat.le_of_lt hq4) (Nat.le_of_ble_eq_true rfl)) (fun it2 h7 σ7 e7 => ?_)
    refine Wk_loopG (IterOf.range0 (k := 0) hh) [7] (by decide) (by decide) (fun j vv σ => PkJ nl total n D pk i q v0 j vv σ) (fun i vv σ σ' q e => by obtain ⟨r, ps, b5, b6, q1, q2, q3, q4⟩ := q; exact ⟨r, ps, b5, b6, q1, e _ _ _ q2 (by decide), q3, q4⟩) h7 e7 trivial
      ⟨_, [], _, _, rfl, X6 _ _ _ (at_upd e5) List.not_mem_nil, Nat.le_refl 0, fun p hp => nomatch hp⟩ ?_ ?_
    · rintro j v vv σ8 u8 P8 E8 hP8 hE8 ⟨r, ps, b5, b6, rfl, hpk, hpl, hps⟩ hv8 eu8 _ Y8
      obtain ⟨rfl, hj⟩ := rng_at hv8
      obtain ⟨tu8, rfl⟩ := er_int eu8
      repeat walk_at "st"
      refine W_mod hn1 (fun te => ?_)
      obtain ⟨w, hw, hwn⟩ := fmod_nat (r := r) (m := n) hn0
      rw [hw]
      repeat walk_at "st"
      refine W_floordiv hn1 hnl2 (fun tf => ?_)
      iterate 2 walk_at "st"
      refine W_consG fun _ _ => ?_
      have hz8 : (IV (v0 :: ps)).length ≤ 1000000 := by rw [List.length_map]; exact Nat.le_trans (Nat.succ_le_succ hpl) (big (Nat.le_of_lt (Nat.lt_of_le_of_lt (Nat.succ_le_of_lt hj) hq4)) (Nat.le_of_ble_eq_true rfl))
      refine W_IfAny ?_ ?_ ?_
      · repeat' first | rfl | walk_at "st" | refine ite_any ?_ ?_
        all_goals first
          | exact ⟨noGet_list hpk, W_item_list hpk (by decide) (v := iv v0) rfl hz8 (fun t => by repeat' first | rfl | walk_at "st" | refine ite_any ?_ ?_ | exact W_floordiv (by decide) (by decide) (fun t => by repeat' first | rfl | walk_at "st" | refine ite_any ?_ ?_ | exact W_mod (by decide) (fun t => by repeat' first | rfl | walk_at "st" | refine ite_any ?_ ?_)))⟩
      · repeat walk_at "st"
        intro pl'
        refine W_meth_list F.slot_list_append F.type_list_append hpk ?_
        repeat walk_at "st"
        refine ⟨Kp.builtin, W_append hpk hz8 (fun σ9 e9 => ?_)⟩
        repeat walk_at "st"
        refine hP8.nx _ σ9 (Ext.own_eq e9 hpk (by decide)) ⟨_, ps ++ [w], _, _, rfl, by rw [at_upd e9]; exact congrArg (fun z => some (7, Cell.list z)) (by simp [IV, iv]), by rw [List.length_append]; exact Nat.succ_le_succ hpl, fun p hp => ?_⟩
        rcases List.mem_append.mp hp with hp | hp
        · exact hps p hp
        · rw [List.mem_singleton.mp hp]; exact hwn
      · repeat walk_at "st"
        exact hP8.nx _ σ8 Ext.refl ⟨_, ps, _, _, rfl, hpk, Nat.le_succ_of_le hpl, hps⟩
    rintro vv σ8 ⟨r, ps, b5, b6, rfl, hpk, hpl, hps⟩ Y8
    have hlr : (IV (List.range q)).length = q := by rw [List.length_map, List.length_range]
    rw [hlr] at hpl
    repeat walk_at "st"
    intro pl'
    have X8 : Ext [7] σ4 σ8 := X5.nil.trans (X6.nil.trans Y8)
    have R8 := R4.ext X8 (by decide) (by decide)
    have has : as.length ≤ 63 := by rw [R4.len, hal]; exact Nat.le_trans (Nat.le_of_lt hi) hl
    refine W_recol1 5 hpk (fun σ9 e9 => ?_)
    have X9 : Ext [7] σ8 σ9 := Ext.own_eq e9 hpk List.mem_cons_self
    have R9 := R8.ext X9 (by decide) (by decide)
    refine W_meth_list F.slot_list_append F.type_list_append R9.d ?_
    repeat walk_at "st"
    refine ⟨Kp.builtin, W_append R9.d (by rw [List.length_map]; exact big has (Nat.le_of_ble_eq_true rfl)) (fun σ10 e10 => ?_)⟩
    repeat walk_at "st"
    have R10 := R9.push (at_upd e9) (by decide) e10
    refine hP4.nx _ σ10 ((X8.mono (by decide)).trans ((X9.mono (by decide)).trans (Ext.own_eq e10 R9.d (by decide)))) ⟨_, _, _, _, _, _, _, _, rfl, R10, by rw [List.length_append, hal]; rfl, fun l hl => ?_⟩
    rcases List.mem_append.mp hl with hl | hl
    · exact hok l hl
    · rw [List.mem_singleton.mp hl]
      refine ⟨fun v hv => ?_, Nat.succ_le_succ (Nat.zero_le _), Nat.succ_le_succ (Nat.le_trans hpl (Nat.le_of_lt_succ hq4))⟩
      rcases List.mem_cons.mp hv with rfl | hv
      · exact hv0n
      · exact hps v hv
  · rintro vv σ4 ⟨as, al, b1, b2, b3, b4, b5, b6, rfl, R4, hal, hok⟩ Y4
    repeat walk_at "st"
    rw [List.length_map, List.length_range] at hal
    exact h _ _ as al (X1.nil.trans (X2.nil.trans Y4)) R4 hal hok
end
end Mine.Internal
namespace Mine.Internal
open PySem PySem.W PyProof.Rows PySem.Calls
theorem fn_added {w : World} : FnOk (KK w) 158 ["sorter", "given"] ["wrong"] ["ValueError", "str"] := ⟨rfl, rfl, rfl, rfl, rfl, rfl, rfl, rfl, rfl, by decide +kernel⟩
theorem fn_first {w : World} : FnOk (KK w) 165 ["sorter"] ["name", "wrong"] ["ValueError", "str"] := ⟨rfl, rfl, rfl, rfl, rfl, rfl, rfl, rfl, rfl, by decide +kernel⟩
theorem push_set {α : Type} {g : Array α} {a b : α} : (g.push a).setIfInBounds g.size b = g.push b := by
  apply Array.ext_getElem?
  intro i
  rw [Array.getElem?_setIfInBounds, Array.getElem?_push, Array.getElem?_push, Array.size_push]
  by_cases h : g.size = i
  · subst h; simp
  · rw [if_neg h, if_neg (Ne.symm h)]; rw [if_neg (Ne.symm h)]
theorem push_at {α : Type} {g : Array α} {a : α} : (g.push a)[g.size]? = some a := Array.getElem?_push_size
structure Tg (c : Cx) (A : Around) (env : Env) (hs : List ExceptHandler) (L : Addr) (cl : List (Str × Addr)) (ns : List Str) (fs : List Frm) (Q : Flow → AS → Prop) (E : Value → AS → Prop) (X : Value → AS → Prop) : Prop where
  ex : ∀ e t cls args T vs σ g, Exc σ e t cls args (some T) → (∀ σ' T, Ext [8] σ σ' → Exc σ' e t cls args (some T) → W c A (handleBy (.ref e) env hs) Q E ⟨⟨L, cl, ns, vs⟩ :: fs, σ', g⟩) → X (.ref e) ⟨⟨L, cl, ns, vs⟩ :: fs, σ, g⟩
theorem W_TryGg {c : Cx} {A : Around} {E : Value → AS → Prop} {fs : List Frm} {σ : Addr → Option (Nat × Cell)} {g : Array GenState} {d : Nat} {env : Env} {outer : List Env} {L : Addr} {cl : List (Str × Addr)} {ns : List Str} {vs : List (Option AV)} {body : List Stmt} {h₀ : ExceptHandler} {hs : List ExceptHandler} {pos : Pos} {Q : Flow → AS → Prop} (hl : AOk A (⟨L, cl, ns, vs⟩ :: fs) d) (hF : A.frames = some (env :: outer)) (hf : env.frame = some L)
    (h : ∀ X, Tg c A env (h₀ :: hs) L cl ns fs Q E X → W c A (execs body env) Q X ⟨⟨L, cl, ns, vs⟩ :: fs, σ, g⟩) (hn : ∀ a, Q .next a → W c A (execs [] env) Q E a) : W c A (exec (.Try body (h₀ :: hs) [] [] pos) env) Q E ⟨⟨L, cl, ns, vs⟩ :: fs, σ, g⟩ :=
  W_Try (W_mono (h _ ⟨fun e t cls args T vs σ g hx q => W_noteFrame hl.vs.link hF hf hx fun σ2 T2 X2 hx2 => W_setFlight hx2 (q σ2 T2 X2 hx2)⟩) (fun f a q => by cases f <;> first | exact hn _ q | exact q) fun _ _ x => x)
section
variable {c : Cx} {A : Around} {E : Value → AS → Prop} {fs : List Frm} {σ : Addr → Option (Nat × Cell)} {g : Array GenState} {d : Nat} {x : Addr} {st : SS}
set_option maxHeartbeats 3000000 in
theorem added_spec {gl : Addr} {gk : Nat} {k : AV} {ps : List AV} {Q : Value → AS → Prop} (lv : Lv c) (hA : AOk A fs (d + 7)) (S : SO σ x st) (sane : Sane st) (hr : st.ready = none) (hg : σ gl = some (gk, .list (k :: ps))) (hl : ∀ v ∈ k :: ps, KO v ∧ RpOk v) (hlz : (k :: ps).length ≤ 200)
    (h : ∀ σ', Ext [1, 2] σ σ' → SO σ' x (st.add k ps) → Q .none ⟨fs, σ', g⟩) : W c A (call (.ref 158) [.ref x, .ref gl]) Q E ⟨fs, σ, g⟩ := by
  obtain ⟨dx, nd, rv, as, ep, S⟩ := S
  refine W_call_G lv.K (ns := ["sorter", "given", "wrong"]) (us := [.ref x, .ref gl]) (gs := [("ValueError", .type "ValueError"), ("str", .type "str")]) fn_added rfl (by kernel_rfl) rfl (.cons (.cons (.rest .nil))) (by simp [lv.ValueError, lv.str]) hA (fun L env B P X hfr hh hL hA' hout hE hFx hUx => ?_)
  obtain ⟨outer, ho⟩ := hout
  refine W_consG (fun P1 hP1 => ?_)
  refine W_TryG hA' ho hfr (fun X1 hX1 => ?_) ?_
  · repeat walk_at "st"
    refine W_Call_methodS ?_
    repeat walk_at "st"
    refine W_getBound S.x S.dx (lv.K ▸ bo_add) (no_attr (by decide +kernel)) (fun m5 h5 σ5 e5 => ?_)
    have X5 : Ext [] σ σ5 := Ext.new_eq e5 h5
    obtain ⟨od, ho1, ho2⟩ := fdOf_ex (K := KK c.w) fn_add.fn
    refine W_callWith (W_args_star ?_)
    repeat walk_at "st"
    refine ⟨gl, _, rfl, ⟨gk, .inl (X5 _ _ _ hg List.not_mem_nil)⟩, Nat.le_trans hlz (by decide), fun us hus => ⟨Kp.bound (at_upd e5) (lv.K ▸ ho1) ho2, W_call (Wk_bound (at_upd e5) ?_)⟩⟩
    obtain ⟨u1, us1, rfl, q1, q2⟩ := List.map_eq_cons_iff.mp hus
    have k0 := (hl _ List.mem_cons_self).1.key
    refine add_spec lv.toLw (d := d) (hA'.vs.le (by walk_at "le")) (S.ext X5 (by decide) (by decide)) hr sane.fit (by simp only [List.length_cons] at hlz; walk_at "le") q1 k0 q2 (fun p hp => (hl p (.tail _ hp)).1.key) (fun σ6 as' ep' X6 S6 => ?_)
    dsimp only
    repeat walk_at "st"
    exact h _ (X5.nil.trans X6) ⟨_, _, _, _, _, S6⟩
  · intro a q; exact W_nil q
set_option maxHeartbeats 3000000 in
theorem first_spec {Q : Value → AS → Prop} (lv : Lv c) (hA : AOk A fs (d + 14)) (S : SO σ x st) (sane : Sane st) (hr : st.ready.isSome = true)
    (h : ∀ r σ', Ext [8] σ σ' → SO σ' x st → σ' r = some (0, .list [.str "refused", .str PRL]) → Q (.ref r) ⟨fs, σ', g.push .finished⟩) : W c A (call (.ref 165) [.ref x]) Q E ⟨fs, σ, g⟩ := by
  obtain ⟨dx, nd, rv, as, ep, S⟩ := S
  refine W_call_G (d := d + 13) lv.K (ns := ["sorter", "name", "wrong"]) (us := [.ref x]) (gs := [("ValueError", .type "ValueError"), ("str", .type "str")]) fn_first rfl (by kernel_rfl) rfl (.cons (.rest (.rest .nil))) (by simp [lv.ValueError, lv.str]) hA (fun L env B P X hfr hh hL hA' hout hE hFx hUx => ?_)
  obtain ⟨outer, ho⟩ := hout
  refine W_consG (fun P1 hP1 => ?_)
  refine W_TryGg hA' ho hfr (fun X1 hX1 => ?_) ?_
  · refine W_consG (fun P2 hP2 => ?_)
    refine W_For ?_
    repeat walk_at "st"
    intro pl
    refine W_getMethod S.x S.dx (lv.K ▸ bo_so.get) (lv.K ▸ bo_so.find) (lv.K ▸ bo_so.fn) (no_attr (by decide +kernel)) ?_
    repeat walk_at "st"
    refine ⟨Kp.inK (lv.K ▸ keep_so), W_call (Wk_call_gen lv.K gn_so (by kernel_rfl) (us := [.ref x]) rfl (.cons (.rest .nil)) (d := d) (hA'.vs.le (by walk_at "le")) (fun L2 G σ2 hne h1 h2 e2 hE2 => ?_))⟩
    dsimp only
    have hG : σ2 G = some (17, genC g.size) := at_upd e2
    have hL2 : σ2 L2 = some (16, frC nsS [some (.ref x), none]) := (put_ne e2 hne).trans upd_self
    have X2 : Ext [] σ σ2 := fun y k cl q _ => by rw [put_ne e2 (ne_new q h2), upd_ne (ne_new q h1)]; exact q
    refine W_iter_gen hG ?_
    refine Wk_for (fun n a => a = ⟨⟨L, [], ["sorter", "name", "wrong"], [some (.ref x), none, none]⟩ :: fs, σ2, g.push (.fresh (.func (soB c.w) (callEnv (fdOf (KK c.w) 127) L2 127)))⟩) (fun n a hI => ?_) 0 rfl
    subst hI
    refine W_so_fresh (L := L2) (x := x) (env := callEnv (fdOf (KK c.w) 127) L2 127) (d := d + 12) (hA'.le (by walk_at "le")) hG hL2 push_at ?_
    have S2 : SO (upd σ2 L2 none) x st := ⟨_, _, _, _, _, (S.ext X2 (by decide) (by decide)).ext (C := [16]) (Ext.upd_own hL2 List.mem_cons_self) (by decide) (by decide)⟩
    have hG2 : upd σ2 L2 none G = some (17, genC g.size) := (upd_ne (Ne.symm hne)).trans hG
    refine so_start (W := fun _ _ => True) (d := d) lv hE2 (by rfl) (by rfl) (hA'.le (d' := d + 10) (by walk_at "le")).in1 S2 sane (fun _ _ _ _ _ _ _ _ _ => trivial) (fun _ e t T σ3 X3 S3 hx3 => ?_) (fun q => by rw [q] at hr; cases hr) (fun q => by rw [q] at hr; cases hr)
    refine ⟨none, σ3, rfl, fun _ hN => ⟨⟨t, _, _, _, 17, hx3.ext (C := []) (Ext.upd_new hN) (by decide) (by decide), by rw [lv.K]; rfl, ?_⟩, ?_⟩⟩
    · exact (Ext.upd_new hN : Ext [] _ _) _ _ _ (X3 _ _ _ hG2 (by decide)) List.not_mem_nil
    have hx4 := hx3.ext (C := []) (σ' := upd σ3 L2 (some (16, frC nsS [some (.ref x), none]))) (Ext.upd_new hN) (by decide) (by decide)
    have S4 : SO (upd σ3 L2 (some (16, frC nsS [some (.ref x), none]))) x st := S3.ext (C := []) (Ext.upd_new hN) (by decide) (by decide)
    have X4 : Ext [8] σ (upd σ3 L2 (some (16, frC nsS [some (.ref x), none]))) := fun y k cl q hk => by
      have q2 := X2 _ _ _ q List.not_mem_nil
      have ny : y ≠ L2 := ne_new q h1
      rw [upd_ne ny]
      exact X3 _ _ _ ((upd_ne ny).trans q2) hk
    generalize upd σ3 L2 (some (16, frC nsS [some (.ref x), none])) = σ4 at *
    refine noted_exc hA'.link ho hfr hx4 fun σ5 T5 X5 hx5 => ?_
    dsimp only
    refine came_exc hx5 ?_
    refine hX1.ex _ _ _ _ _ _ _ _ hx5 fun σ6 T6 X6 hx6 => ?_
    have gf : ((g.push (GenState.fresh (Code.func (soB c.w) (callEnv (fdOf (KK c.w) 127) L2 127)))).setIfInBounds g.size .running).setIfInBounds g.size .finished = g.push .finished := by rw [push_set, push_set]
    rw [gf]
    refine W_handle_as ?_
    refine W_Glob hE (by walk_at "mem") ⟨hx6.m (by rw [lv.K]; rfl), W_setFlight hx6 ?_⟩
    repeat walk_at "st"
    refine ⟨Kp.type, W_str_exc (by have := hA'.u65; exact Nat.lt_of_le_of_lt (Nat.add_le_add_left (by decide) _) this) hx6 (fun u => ?_)⟩
    repeat walk_at "st"
    refine W_newList 0 (Nat.le_of_ble_eq_true rfl) (fun r h7 σ7 e7 => ?_)
    have X7 : Ext [] σ6 σ7 := Ext.new_eq e7 h7
    repeat walk_at "st"
    refine W_nameGoes (vsf := fun v => [some (.ref x), none, v]) hE (fun v => by walk_at "set") (fun v => ?_)
    exact hP1.re _ _ (hFx.re _ _ _ _ (h _ _ (X4.trans (X5.trans (X6.trans X7.nil))) (((S4.ext X5 (by decide) (by decide)).ext X6 (by decide) (by decide)).ext X7 (by decide) (by decide)) (at_upd e7)))
  · intro a q; exact W_nil q
end
end Mine.Internal
namespace Mine.Internal
open PySem PySem.W PyProof.Rows PySem.Calls
noncomputable def PS.adv (P : PS) (l : List Nat) : PS := { P with given := P.given ++ l, finished := P.finished ++ l }
noncomputable def PS.giv (P : PS) (l : List Nat) : PS := { P with given := P.given ++ l }
noncomputable def rnd (nm : Nat → AV) (fr : List Nat) (st : SS) : SS := (st.getReady (fr.map nm)).done (fr.map nm)
section
variable {n T : Nat} {nm : Nat → AV} {P : PS} {Es : List Ed} {fr : List Nat} {st : SS}
theorem fin_all (N : NmOk n nm) (G : G0 n nm P Es T st) (R : Post n nm P Es fr st) {ps : List Nat} (hnd : ps.Nodup) (hg : ∀ v ∈ ps, v ∈ P.given) (hf : ∀ v ∈ ps, v ∉ P.finished) : ∀ j, j ≤ ps.length → DoneJ n nm P Es T st ps j
  | 0, _ => .zero G R
  | j + 1, hj => by
    have hv := List.getElem?_eq_getElem (l := ps) (Nat.lt_of_succ_le hj)
    have hm := List.getElem_mem (Nat.lt_of_succ_le hj)
    refine (fin_all N G R hnd hg hf j (Nat.le_of_succ_le hj)).step N G hv (hg _ hm) fun q => ?_
    rcases List.mem_append.mp q with q | q
    · exact hf _ hm q
    · have e1 : ps = ps.take j ++ ps[j] :: ps.drop (j + 1) := by
        rw [List.getElem_cons_drop, List.take_append_drop]
      rw [e1] at hnd
      exact (List.nodup_append.mp hnd).2.2 _ q _ List.mem_cons_self rfl
theorem frd (G : G0 n nm P Es T st) (R : Post n nm P Es fr st) : (∀ v ∈ fr, v ∈ P.known ∧ v ∉ P.given) ∧ (∀ v ∈ fr, v < n) :=
  ⟨fun v hv => ⟨((R.free v).mp hv).1, ((R.free v).mp hv).2.1⟩, fun v hv => G.lt v ((R.free v).mp hv).1⟩
theorem round (N : NmOk n nm) (G : G0 n nm P Es T st) (R : Post n nm P Es fr st) : G0 n nm (P.giv fr) Es T (st.getReady (fr.map nm)) ∧ Post n nm (P.giv fr) Es [] (st.getReady (fr.map nm)) ∧ ∀ j, j ≤ fr.length → DoneJ n nm (P.giv fr) Es T (st.getReady (fr.map nm)) fr j := by
  have G2 := G.get (fr := fr) (fr.map nm)
  have R2 := R.get N G
  exact ⟨G2, R2, fin_all N G2 R2 R.frn (fun v hv => List.mem_append_right _ hv) fun v hv q => ((frd G R).1 v hv).2 (R.fsub v q)⟩
theorem round_all (N : NmOk n nm) (G : G0 n nm P Es T st) (R : Post n nm P Es fr st) : ∃ fr', G0 n nm (P.adv fr) Es T (rnd nm fr st) ∧ Post n nm (P.adv fr) Es fr' (rnd nm fr st) := by
  obtain ⟨fr', G3, R3, _⟩ := (round N G R).2.2 fr.length (Nat.le_refl _)
  rw [List.take_length] at G3 R3
  exact ⟨fr', G3, R3⟩
end
inductive Rds (n : Nat) (nm : Nat → AV) (Es : List Ed) (T : Nat) : PS → List Nat → SS → List (List Nat) → Prop
  | stop {P st} : G0 n nm P Es T st → Post n nm P Es [] st → P.given = P.finished → Rds n nm Es T P [] st []
  | step {P fr fr' st gs} : G0 n nm P Es T st → Post n nm P Es fr st → P.given = P.finished → fr ≠ [] → Rds n nm Es T (P.adv fr) fr' (rnd nm fr st) gs → Rds n nm Es T P fr st (fr :: gs)
section
variable {n T : Nat} {nm : Nat → AV} {P : PS} {Es : List Ed} {fr : List Nat} {st : SS}
theorem Rds.ex (N : NmOk n nm) : ∀ (m : Nat) {P : PS} {fr : List Nat} {st : SS}, G0 n nm P Es T st → Post n nm P Es fr st → P.given = P.finished → P.known.length - P.given.length ≤ m → ∃ gs, Rds n nm Es T P fr st gs := by
  intro m
  induction m with
  | zero =>
    intro P fr st G R e hm
    cases fr with
    | nil => exact ⟨[], .stop G R e⟩
    | cons v fr =>
      obtain ⟨fr', G3, R3⟩ := round_all N G R
      have := nodup_le R3.gnd R3.gsub
      rw [show (P.adv (v :: fr)).given = P.given ++ v :: fr from rfl, List.length_append, List.length_cons, show (P.adv (v :: fr)).known = P.known from rfl] at this
      lia
  | succ m ih =>
    intro P fr st G R e hm
    cases fr with
    | nil => exact ⟨[], .stop G R e⟩
    | cons v fr =>
      obtain ⟨fr', G3, R3⟩ := round_all N G R
      obtain ⟨gs, h⟩ := ih G3 R3 (by show P.given ++ _ = P.finished ++ _; rw [e]) (by
        rw [show (P.adv (v :: fr)).given = P.given ++ v :: fr from rfl, List.length_append, List.length_cons, show (P.adv (v :: fr)).known = P.known from rfl]; lia)
      exact ⟨_, .step G R e (List.cons_ne_nil _ _) h⟩
theorem Rds.g0 {gs : List (List Nat)} (h : Rds n nm Es T P fr st gs) : G0 n nm P Es T st ∧ Post n nm P Es fr st ∧ P.given = P.finished := by
  cases h with
  | stop G R e => exact ⟨G, R, e⟩
  | step G R e _ _ => exact ⟨G, R, e⟩
theorem Rds.len {gs : List (List Nat)} (h : Rds n nm Es T P fr st gs) : P.given.length + gs.flatten.length ≤ n ∧ P.given.length + gs.length ≤ n ∧ (∀ l ∈ gs, l ≠ []) ∧ ∀ v ∈ gs.flatten, v < n := by
  induction h with
  | stop G R e => exact ⟨Nat.le_trans (nodup_le R.gnd R.gsub) (Ph.known G), Nat.le_trans (nodup_le R.gnd R.gsub) (Ph.known G), fun l hl => (nomatch hl), fun v hv => (nomatch hv)⟩
  | @step P fr fr' st gs G R e ne _ ih =>
    obtain ⟨h1, h2, h3, h4⟩ := ih
    rw [show (P.adv fr).given = P.given ++ fr from rfl, List.length_append] at h1 h2
    have : 0 < fr.length := List.length_pos_iff.mpr ne
    refine ⟨by rw [List.flatten_cons, List.length_append]; lia, by rw [List.length_cons]; lia, fun l hl => ?_, fun v hv => ?_⟩
    · rcases List.mem_cons.mp hl with rfl | hl
      · exact ne
      · exact h3 l hl
    · rw [List.flatten_cons] at hv
      rcases List.mem_append.mp hv with hv | hv
      · exact (frd G R).2 v hv
      · exact h4 v hv
theorem Post.sane (G : G0 n nm P Es T st) (R : Post n nm P Es fr st) (hn : n ≤ 60) (hT : T ≤ 400) : Sane st := by
  refine ⟨G.fit.mono (by lia), G.closed, fun l hl => ?_⟩
  rw [R.rd] at hl; cases hl
  have hk : ∀ v ∈ fr, v ∈ P.known := fun v hv => ((R.free v).mp hv).1
  refine ⟨fun k hk' => ?_, ?_⟩
  · obtain ⟨v, hv, rfl⟩ := List.mem_map.mp hk'
    rw [G.keys]; exact List.mem_map_of_mem (hk v hv)
  · rw [List.length_map]
    have h1 := nodup_le R.frn hk
    have h2 := G.fit.keys
    rw [G.keys, List.length_map] at h2
    lia
end
end Mine.Internal
namespace Mine.Internal
open PySem PySem.W PyProof.Rows PySem.Calls
theorem fn_walk {w : World} : FnOk (KK w) 172 ["walk", "sorter", "stop", "meddle"] ["told", "asked", "name", "wrong"] ["len", "CycleError", "ValueError", "str"] := ⟨rfl, rfl, rfl, rfl, rfl, rfl, rfl, rfl, rfl, by decide +kernel⟩
noncomputable abbrev nsW : List Str := ["walk", "sorter", "stop", "meddle", "told", "asked", "name", "wrong"]
noncomputable abbrev gsW : List (Str × Value) := [("len", .builtin "len"), ("CycleError", .ref 48), ("ValueError", .type "ValueError"), ("str", .type "str")]
noncomputable def PS.at (P : PS) (gi fi : List Nat) : PS := { P with given := gi, finished := fi }
theorem PS.at_nil {P : PS} (h1 : P.given = []) (h2 : P.finished = []) : P.at [] [] = P := by
  cases P; dsimp only at h1 h2; rw [h1, h2]; rfl
noncomputable def Bare (g : Array GenState) : Prop := ∀ y ∈ g, y.bare = true
theorem Bare.set {g : Array GenState} {k : Nat} {y : GenState} (h : Bare g) (hy : y.bare = true) : Bare (g.setIfInBounds k y) := fun z hz => by
  rcases Array.mem_or_eq_of_mem_setIfInBounds hz with hz | rfl
  · exact h z hz
  · exact hy
noncomputable abbrev MRK : Str := " was already marked done"
noncomputable def WRing (tl : List Nat) (ed ad : List PyData) (gi fi : List Nat) : Prop := tl = [] ∧ ed = [.str "CycleError"] ∧ ad = [] ∧ gi = [] ∧ fi = []
noncomputable def WOver (l : List Nat) (tl : List Nat) (ed ad : List PyData) (gi fi : List Nat) : Prop := tl = l ∧ ed = [.str "over"] ∧ ad = [] ∧ gi = l ∧ fi = l
noncomputable def WOff (l a : List Nat) (stop : Nat) (tl : List Nat) (ed ad : List PyData) (gi fi : List Nat) : Prop := tl = l.take (stop + 1) ∧ ed = [.str "broken off"] ∧ ad = [] ∧ gi = l ∧ fi = a
noncomputable def WRef (nm : Nat → AV) (l a f : List Nat) (stop v : Nat) (tl : List Nat) (ed ad : List PyData) (gi fi : List Nat) : Prop :=
  f[stop - a.length]? = some v ∧ tl = l ∧ ed = [.str "refused", .str (msgOf (nm v) MRK)] ∧ ad = [.tuple [], .bool true, .none] ∧ gi = l ∧ fi = a ++ [v] ++ f.take (stop - a.length)
noncomputable def WCut (nm : Nat → AV) (gs : List (List Nat)) (stop : Nat) (meddle : Bool) (tl : List Nat) (ed ad : List PyData) (gi fi : List Nat) (a b : List (List Nat)) (f : List Nat) : Prop :=
  gs = a ++ f :: b ∧ a.flatten.length ≤ stop ∧ stop < a.flatten.length + f.length ∧ ((meddle = false ∧ WOff (a.flatten ++ f) a.flatten stop tl ed ad gi fi) ∨ (meddle = true ∧ ∃ v, WRef nm (a.flatten ++ f) a.flatten f stop v tl ed ad gi fi))
noncomputable def WOut (nm : Nat → AV) (gs : List (List Nat)) (ring : Bool) (stop : Nat) (meddle : Bool) (tl : List Nat) (ed ad : List PyData) (gi fi : List Nat) : Prop :=
  (ring = true ∧ WRing tl ed ad gi fi) ∨ (ring = false ∧ ((gs.flatten.length ≤ stop ∧ WOver gs.flatten tl ed ad gi fi) ∨ ∃ a b f, WCut nm gs stop meddle tl ed ad gi fi a b f))
section
variable {n T : Nat} {nm : Nat → AV} {P : PS} {Es : List Ed} {fr : List Nat} {st : SS} {gs : List (List Nat)} {W : Addr → End → Prop} {L x : Addr} {fs : List Frm} {g : Array GenState} {σ : Addr → Option (Nat × Cell)} {Φ : End → AS → Prop}
theorem Rds.inv (h : Rds n nm Es T P fr st gs) : (gs = [] ∧ fr = []) ∨ ∃ f0 r b, gs = (f0 :: r) :: b ∧ fr = f0 :: r := by
  cases h with
  | stop _ _ _ => exact .inl ⟨rfl, rfl⟩
  | @step P fr fr' st gs _ _ _ ne _ =>
    cases fr with
    | nil => exact absurd rfl ne
    | cons f0 r => exact .inr ⟨f0, r, gs, rfl, rfl⟩
theorem soNext_of (h : Rds n nm Es T P fr st gs) (over : gs = [] → ∀ v σ', Ext [1, 18] σ σ' → SO σ' x st → Φ (.ret (.ok (.ret .none))) ⟨soF L x v fs, σ', g⟩)
    (some : ∀ f0 r' b, gs = (f0 :: r') :: b → fr = f0 :: r' → ∀ e u g' l kk c' pp fs' tu it σ', e = .susp u g' l kk c' pp fs' → er u = nm f0 → Ext [1, 18] σ σ' → SO σ' x (st.getReady (fr.map nm)) → σ' tu = .some (0, .tuple (fr.map nm)) → σ' it = .some (18, iterCell "tuple_iterator" tu 1) → W it e →
      Φ e ⟨soF L x (.some (.ref tu)) fs, σ', g⟩) : SoNext W L x fs g σ st Φ := by
  obtain ⟨G, R, e⟩ := h.g0
  refine ⟨fun h1 _ v σ' X S => over (h.inv.elim And.left fun z => ?_) v σ' X S, fun r hr => ⟨fun _ => by rw [R.fin, R.pass, e], fun v r' e1 e2 u g' l kk c' pp fs' tu it σ' q1 q2 => ?_⟩⟩
  · obtain ⟨f0, r, b, _, ef⟩ := z
    rw [R.rd, ef] at h1
    exact absurd (Option.some.inj h1) (List.cons_ne_nil _ _)
  · rw [R.rd] at hr
    have e3 := Option.some.inj hr
    rw [← e3]
    refine h.inv.elim (fun z => absurd (e1.symm.trans (e3.symm.trans (by rw [z.2]; rfl : fr.map nm = []))) (List.cons_ne_nil _ _)) fun z => ?_
    obtain ⟨f0, f', b, eg, ef⟩ := z
    exact some f0 f' b eg ef e2 u g' l kk c' pp fs' tu it σ' q1 (by rw [q2]; exact (List.cons.inj (e1.symm.trans (e3.symm.trans (by rw [ef]; rfl : fr.map nm = nm f0 :: f'.map nm)))).1)
end
structure Hand (c : Cx) (d : Nat) (env : Env) (L x G : Addr) (k : Nat) (n : Nat) (nm : Nat → AV) (Es : List Ed) (T : Nat) (P0 : PS) (gs : List (List Nat)) (a : List (List Nat)) (f : List Nat) (b : List (List Nat)) (st : SS) (i : Nat) (A0 : Addr) (σ : Addr → Option (Nat × Cell)) (gg : Array GenState) : Prop where
  rds : Rds n nm Es T (P0.at a.flatten a.flatten) f st (f :: b)
  eq : gs = a ++ f :: b
  i1 : 1 ≤ i
  i2 : i ≤ f.length
  G : σ G = some (17, genC k)
  wt : ∃ e tu it, gg[k]? = some e.genState ∧ SoW c d env L x (b.length + 1) it e ∧ σ L = some (16, frC nsS [some (.ref x), some (.ref tu)]) ∧ σ tu = some (0, .tuple (f.map nm)) ∧ σ it = some (18, iterCell "tuple_iterator" tu i)
  A0 : σ A0 = some (0, .list [])
  bare : Bare gg
theorem Hand.ext {c : Cx} {d : Nat} {env : Env} {L x G : Addr} {k n : Nat} {nm : Nat → AV} {Es : List Ed} {T : Nat} {P0 : PS} {gs a : List (List Nat)} {f : List Nat} {b : List (List Nat)} {st : SS} {i : Nat} {A0 : Addr} {σ σ' : Addr → Option (Nat × Cell)} {gg : Array GenState} {C : List Nat}
    (h : Hand c d env L x G k n nm Es T P0 gs a f b st i A0 σ gg) (e : Ext C σ σ') (hC : ∀ k ∈ [0, 16, 17, 18], k ∉ C) : Hand c d env L x G k n nm Es T P0 gs a f b st i A0 σ' gg :=
  ⟨h.rds, h.eq, h.i1, h.i2, e _ _ _ h.G (hC 17 (by decide)), by
    obtain ⟨e1, tu, it, q1, q2, q3, q4, q5⟩ := h.wt
    exact ⟨e1, tu, it, q1, q2, e _ _ _ q3 (hC 16 (by decide)), e _ _ _ q4 (hC 0 (by decide)), e _ _ _ q5 (hC 18 (by decide))⟩, e _ _ _ h.A0 (hC 0 (by decide)), h.bare⟩
end Mine.Internal
namespace Mine.Internal
open PySem PySem.W PyProof.Rows PySem.Calls
theorem set_set {α : Type} {g : Array α} {k : Nat} {a b : α} : (g.setIfInBounds k a).setIfInBounds k b = g.setIfInBounds k b := by
  apply Array.ext_getElem?
  intro i
  rw [Array.getElem?_setIfInBounds, Array.getElem?_setIfInBounds, Array.size_setIfInBounds, Array.getElem?_setIfInBounds]
  by_cases h : k = i
  · subst h; rw [if_pos rfl, if_pos rfl]
  · rw [if_neg h, if_neg h, if_neg h]
theorem set_at {α : Type} {g : Array α} {k : Nat} {a b : α} (h : g[k]? = some b) : (g.setIfInBounds k a)[k]? = some a := by
  rw [Array.getElem?_setIfInBounds, if_pos rfl, if_pos (Array.getElem?_eq_some_iff.mp h).1]
section
variable {c : Cx} {A : Around} {E : Value → AS → Prop} {fs : List Frm} {σ : Addr → Option (Nat × Cell)} {gg : Array GenState} {d : Nat} {env : Env} {L x G : Addr} {k n : Nat} {nm : Nat → AV} {Es : List Ed} {T : Nat} {P0 : PS} {gs a b : List (List Nat)} {f : List Nat} {st S' : SS} {i : Nat} {A0 : Addr}
theorem pull_item {Q : Option Value → AS → Prop} {v : Nat} (hA : AOk A fs (d + 1)) (H : Hand c d env L x G k n nm Es T P0 gs a f b st i A0 σ gg) (hv : f[i]? = some v)
    (h : ∀ u σ' gg', er u = nm v → Ext [16, 18] σ σ' → Hand c d env L x G k n nm Es T P0 gs a f b st (i + 1) A0 σ' gg' → Q (some u) ⟨fs, σ', gg'⟩) : W c A (pyNext (.ref G)) Q E ⟨fs, σ, gg⟩ := by
  obtain ⟨e, tu, it, hg, ⟨cds, frs, hov, hgo, hend⟩, hL, htu, hit⟩ := H.wt
  have n1 : it ≠ L := fun z => by rw [z, hL] at hit; cases hit
  have n2 : tu ≠ L := fun z => by rw [z, hL] at htu; cases htu
  have n3 : tu ≠ it := fun z => by rw [z, hit] at htu; cases htu
  have hit2 : upd σ L none it = some (18, iterCell "tuple_iterator" tu i) := (upd_ne n1).trans hit
  refine W_so_wait hA H.G hL hg hgo hit2 ?_
  refine wg_yf_item (vs := f.map nm) hit2 ((upd_ne n2).trans htu) (by rw [List.getElem?_map, hv]; rfl) hov fun e' u g' l kk c' p fs' σ' e1 eu e2 hgo' => ?_
  refine ⟨_, σ', rfl, fun hq hN => ?_⟩
  subst e1
  show Q (some u) ⟨fs, _, _⟩
  have X : Ext [16, 18] σ (upd σ' L (some (16, frC nsS [some (.ref x), some (.ref tu)]))) := fun y k' cl q hk => by
    have y1 : y ≠ L := fun z => by rw [z, hL] at q; cases q; exact hk (by decide)
    have y2 : y ≠ it := fun z => by rw [z, hit] at q; cases q; exact hk (by decide)
    rw [upd_ne y1, put_ne e2 y2, upd_ne y1]; exact q
  refine h u _ _ eu X ⟨H.rds, H.eq, Nat.succ_le_succ (Nat.zero_le _), (List.getElem?_eq_some_iff.mp hv).1, X _ _ _ H.G (by decide), ⟨_, tu, it, ?_, ⟨cds, frs, hov, hgo', hend⟩, upd_self, X _ _ _ htu (by decide), ?_⟩, X _ _ _ H.A0 (by decide), ?_⟩
  · show ((gg.setIfInBounds k _).setIfInBounds k _)[k]? = _
    rw [set_set]; exact set_at hg
  · change upd σ' L _ it = _
    rw [upd_ne n1, at_upd e2]
  · show Bare ((gg.setIfInBounds k _).setIfInBounds k _)
    rw [set_set]; exact H.bare.set (End.bare_of_quiet hq)
theorem pull_end {Q : Option Value → AS → Prop} {m : Nat} (hA : AOk A fs (d + 10)) (H : Hand c d env L x G k n nm Es T P0 gs a f b st f.length A0 σ gg) (S : SO σ x S') (sane : Sane S') (hr : S'.ready.isSome = true) (N : NmOk n nm) (hn : n ≤ 60)
    (hD : ∀ tu, σ L = some (16, frC nsS [some (.ref x), some (.ref tu)]) → SoDone (SoW c d env L x b.length) L x tu (f.map nm) fs (gg.setIfInBounds k .running) (upd σ L none) S' (SoT c G k L x fs (gg.setIfInBounds k .running) Q E) m) :
    W c A (pyNext (.ref G)) Q E ⟨fs, σ, gg⟩ := by
  obtain ⟨e, tu, it, hg, ⟨cds, frs, hov, hgo, hend⟩, hL, htu, hit⟩ := H.wt
  have n1 : it ≠ L := fun z => by rw [z, hL] at hit; cases hit
  have n2 : tu ≠ L := fun z => by rw [z, hL] at htu; cases htu
  have hit2 : upd σ L none it = some (18, iterCell "tuple_iterator" tu f.length) := (upd_ne n1).trans hit
  refine W_so_wait (hA.le (d' := d + 1) (by lia)) H.G hL hg hgo hit2 ?_
  have X : Ext [16] σ (upd σ L none) := Ext.upd_own hL List.mem_cons_self
  have hf : ∀ v ∈ f, v < n := fun v hv => H.rds.len.2.2.2 v (by rw [List.flatten_cons]; exact List.mem_append_left _ hv)
  have hfl : f.length ≤ 60 := by
    have := H.rds.len.1
    rw [List.flatten_cons, List.length_append] at this; lia
  refine hend _ _ fs _ _ tu (f.map nm) S' m (hA.in1) (by rw [List.length_map]; exact hit2) ((upd_ne n2).trans htu) (S.ext X (by decide) (by decide)) sane hr (fun v hv => ?_) (by rw [List.length_map]; lia) (hD tu hL)
  obtain ⟨w, hw, rfl⟩ := List.mem_map.mp hv
  exact N.ko w (Nat.le_of_lt (hf w hw))
end
end Mine.Internal
namespace Mine.Internal
open PySem PySem.W PyProof.Rows PySem.Calls
noncomputable abbrev waC : List Nat := [1, 3, 4, 5, 8, 16, 18]
noncomputable abbrev wF (L G x : Addr) (stop : Nat) (meddle : Bool) (D A : Addr) (nv wv : Option AV) (fs : List Frm) : List Frm := ⟨L, [], nsW, [some (.ref G), some (.ref x), some (.int stop), some (.bool meddle), some (.ref D), some (.ref A), nv, wv]⟩ :: fs
structure WkP where
  c : Cx
  d : Nat
  env : Env
  L2 : Addr
  x : Addr
  G : Addr
  k : Nat
  n : Nat
  nm : Nat → AV
  Es : List Ed
  T : Nat
  P0 : PS
  gs : List (List Nat)
  stop : Nat
  meddle : Bool
  fs : List Frm
  g₀ : Array GenState
  st0 : SS
  ring : Bool
noncomputable abbrev WkP.fr (p : WkP) (L D A : Addr) (nv : Option AV) : List Frm := wF L p.G p.x p.stop p.meddle D A nv none p.fs
noncomputable abbrev WkP.hand (p : WkP) (A0 : Addr) (a1 : List (List Nat)) (f : List Nat) (b : List (List Nat)) (st : SS) (i : Nat) (σ : Addr → Option (Nat × Cell)) (gg : Array GenState) : Prop := Hand p.c p.d p.env p.L2 p.x p.G p.k p.n p.nm p.Es p.T p.P0 p.gs a1 f b st i A0 σ gg
structure WkP.stir (p : WkP) (a1 : List (List Nat)) (f : List Nat) (v : Nat) (A1 t1 : Addr) (σ : Addr → Option (Nat × Cell)) : Prop where
  le : a1.flatten.length ≤ p.stop
  at_ : f[p.stop - a1.flatten.length]? = some v
  md : p.meddle = true
  A1 : σ A1 = some (0, .list [.ref t1, .bool true, .none])
  t1 : σ t1 = some (0, .tuple [])
theorem WkP.stir.ext {p : WkP} {a1 : List (List Nat)} {f : List Nat} {v : Nat} {A1 t1 : Addr} {σ σ' : Addr → Option (Nat × Cell)} {C : List Nat} (h : p.stir a1 f v A1 t1 σ) (e : Ext C σ σ') (h0 : 0 ∉ C) : p.stir a1 f v A1 t1 σ' := ⟨h.le, h.at_, h.md, e _ _ _ h.A1 h0, e _ _ _ h.t1 h0⟩
noncomputable abbrev WkP.mode (p : WkP) (A0 : Addr) (a1 : List (List Nat)) (f : List Nat) (st : SS) (i : Nat) (A : Addr) (ss : SS) (σ : Addr → Option (Nat × Cell)) : Prop :=
  (A = A0 ∧ ss = st.getReady (f.map p.nm) ∧ a1.flatten.length + i ≤ p.stop) ∨ ∃ v t1, ss = (st.getReady (f.map p.nm)).done1 (p.nm v) ∧ p.stir a1 f v A t1 σ ∧ p.stop < a1.flatten.length + i
theorem WkP.mode_ext {p : WkP} {A0 : Addr} {a1 : List (List Nat)} {f : List Nat} {st : SS} {i : Nat} {A : Addr} {ss : SS} {σ σ' : Addr → Option (Nat × Cell)} {C : List Nat} (e : Ext C σ σ') (h0 : 0 ∉ C) : p.mode A0 a1 f st i A ss σ → p.mode A0 a1 f st i A ss σ' :=
  Or.imp_right fun z => z.elim fun v z => z.elim fun t1 z => ⟨v, t1, z.1, z.2.1.ext e h0, z.2.2⟩
theorem WkP.mode_next {p : WkP} {A0 : Addr} {a1 : List (List Nat)} {f : List Nat} {st : SS} {i : Nat} {A : Addr} {ss : SS} {σ σ' : Addr → Option (Nat × Cell)} {C : List Nat} (e : Ext C σ σ') (h0 : 0 ∉ C) (h : p.mode A0 a1 f st i A ss σ) :
    (a1.flatten.length + i ≠ p.stop ∧ p.mode A0 a1 f st (i + 1) A ss σ') ∨ (a1.flatten.length + i = p.stop ∧ A = A0 ∧ ss = st.getReady (f.map p.nm)) :=
  h.elim (fun z => (Nat.lt_or_eq_of_le z.2.2).imp (fun q => ⟨Nat.ne_of_lt q, .inl ⟨z.1, z.2.1, q⟩⟩) (fun q => ⟨q, z.1, z.2.1⟩))
    (fun z => z.elim fun v z => z.elim fun t1 z => .inl ⟨Nat.ne_of_gt z.2.2, .inr ⟨v, t1, z.1, z.2.1.ext e h0, Nat.lt_succ_of_lt z.2.2⟩⟩)
inductive WkI (p : WkP) (L D A0 : Addr) (σ₀ : Addr → Option (Nat × Cell)) (m : Nat) (a : AS) : Prop
  | fresh : a = ⟨p.fr L D A0 none, σ₀, p.g₀⟩ → m = p.n + 2 → WkI p L D A0 σ₀ m a
  | going (a1 b : List (List Nat)) (f : List Nat) (st : SS) (i : Nat) (nv : Option AV) (A : Addr) (ss : SS) (σ : Addr → Option (Nat × Cell)) (gg : Array GenState) : p.ring = false → a = ⟨p.fr L D A nv, σ, gg⟩ → p.hand A0 a1 f b st i σ gg → SO σ p.x ss →
      σ D = some (5, .list ((a1.flatten ++ f.take i).map p.nm)) → p.mode A0 a1 f st i A ss σ → Ext waC σ₀ σ → m = p.n + 1 - (a1.flatten.length + i) → WkI p L D A0 σ₀ m a
inductive PullOut (p : WkP) (L D A0 : Addr) (σ₀ : Addr → Option (Nat × Cell)) (m : Nat) : Option Value → AS → Prop
  | over (nv : Option AV) (A : Addr) (σ : Addr → Option (Nat × Cell)) (gg : Array GenState) (st : SS) (fr : List Nat) : p.ring = false → p.gs.flatten.length ≤ p.stop → G0 p.n p.nm (p.P0.at p.gs.flatten p.gs.flatten) p.Es p.T st → Post p.n p.nm (p.P0.at p.gs.flatten p.gs.flatten) p.Es fr st → SO σ p.x st →
      σ D = some (5, .list (p.gs.flatten.map p.nm)) → σ A = some (0, .list []) → Ext waC σ₀ σ → Bare gg → PullOut p L D A0 σ₀ m none ⟨p.fr L D A nv, σ, gg⟩
  | going (a1 b : List (List Nat)) (f : List Nat) (st : SS) (i v : Nat) (u : Value) (nv : Option AV) (A : Addr) (ss : SS) (σ : Addr → Option (Nat × Cell)) (gg : Array GenState) : p.ring = false → p.hand A0 a1 f b st (i + 1) σ gg → SO σ p.x ss → f[i]? = some v → er u = p.nm v →
      σ D = some (5, .list ((a1.flatten ++ f.take i).map p.nm)) → p.mode A0 a1 f st i A ss σ → Ext waC σ₀ σ → p.n - (a1.flatten.length + i) < m → PullOut p L D A0 σ₀ m (some u) ⟨p.fr L D A nv, σ, gg⟩
inductive ErrOut (p : WkP) (L D A0 : Addr) (σ₀ : Addr → Option (Nat × Cell)) : Value → AS → Prop
  | ring (e t T : Addr) (args : List AV) (σ : Addr → Option (Nat × Cell)) (gg : Array GenState) : p.ring = true → Exc σ e t (.ref 48) args (some T) → SO σ p.x p.st0.prep → σ D = some (5, .list []) → σ A0 = some (0, .list []) → Ext waC σ₀ σ → Bare gg → ErrOut p L D A0 σ₀ (.ref e) ⟨p.fr L D A0 none, σ, gg⟩
  | refused (a1 b : List (List Nat)) (f : List Nat) (v : Nat) (e t T : Addr) (nv : Option AV) (A1 t1 : Addr) (st : SS) (fr : List Nat) (σ : Addr → Option (Nat × Cell)) (gg : Array GenState) : p.ring = false → p.gs = a1 ++ f :: b → Exc σ e t (.type "ValueError") [.str (msgOf (p.nm v) MRK)] (some T) → p.stir a1 f v A1 t1 σ →
      G0 p.n p.nm (p.P0.at (a1.flatten ++ f) (a1.flatten ++ [v] ++ f.take (p.stop - a1.flatten.length))) p.Es p.T st → Post p.n p.nm (p.P0.at (a1.flatten ++ f) (a1.flatten ++ [v] ++ f.take (p.stop - a1.flatten.length))) p.Es fr st → SO σ p.x st → σ D = some (5, .list ((a1.flatten ++ f).map p.nm)) →
      Ext waC σ₀ σ → Bare gg → ErrOut p L D A0 σ₀ (.ref e) ⟨p.fr L D A1 nv, σ, gg⟩
theorem ext_back {C : List Nat} {σ σ' : Addr → Option (Nat × Cell)} {L : Addr} {cl : Cell} {z : Option (Nat × Cell)} (hL : σ L = some (16, cl)) (X : Ext C (upd σ L none) σ') : Ext (16 :: C) σ (upd σ' L z) := fun y k cl q hk => by
  have y1 : y ≠ L := fun e => by rw [e, hL] at q; cases q; exact hk List.mem_cons_self
  rw [upd_ne y1]
  exact X y k cl ((upd_ne y1).trans q) fun h => hk (List.mem_cons_of_mem _ h)
section
variable {p : WkP} {L D A0 : Addr} {σ₀ : Addr → Option (Nat × Cell)} {A : Around} {m : Nat}
theorem fin_pre {n T : Nat} {nm : Nat → AV} {P : PS} {Es : List Ed} {fr : List Nat} {st : SS} (N : NmOk n nm) (G : G0 n nm P Es T st) (R : Post n nm P Es fr st) {ps : List Nat} {q v : Nat} (hnd : ps.Nodup) (hq : ps[q]? = some v) (hg : ∀ w ∈ ps, w ∈ P.given) (hf : ∀ w ∈ ps, w ≠ v → w ∉ P.finished) :
    ∀ j, j ≤ q → DoneJ n nm P Es T st ps j
  | 0, _ => .zero G R
  | j + 1, hj => by
    have hql := (List.getElem?_eq_some_iff.mp hq).1
    have hjl : j < ps.length := Nat.lt_of_succ_lt (Nat.lt_of_le_of_lt hj hql)
    have hv := List.getElem?_eq_getElem (l := ps) hjl
    have hm := List.getElem_mem hjl
    have ne : ps[j] ≠ v := fun e => by
      have h1 : ps[j]? = some v := by rw [hv, e]
      exact absurd (nodup_idx' hnd h1 hq) (Nat.ne_of_lt (Nat.lt_of_succ_le hj))
    refine (fin_pre N G R hnd hq hg hf j (Nat.le_of_succ_le hj)).step N G hv (hg _ hm) fun z => ?_
    rcases List.mem_append.mp z with z | z
    · exact hf _ hm ne z
    · have e1 : ps = ps.take j ++ ps[j] :: ps.drop (j + 1) := by
        rw [List.getElem_cons_drop, List.take_append_drop]
      rw [e1] at hnd
      exact (List.nodup_append.mp hnd).2.2 _ z _ List.mem_cons_self rfl
theorem so_out {a1 b : List (List Nat)} {fr : List Nat} {st : SS} {σ σ' : Addr → Option (Nat × Cell)} {gg : Array GenState} {nv : Option AV} {A1 : Addr} {e0 : GenState} {cl : Cell} (hb : Rds p.n p.nm p.Es p.T (p.P0.at a1.flatten a1.flatten) fr st b) (hgs : p.gs = a1 ++ b) (hr : p.ring = false) (hs : a1.flatten.length ≤ p.stop) (eA : A1 = A0) (hG : σ p.G = some (17, genC p.k)) (hL : σ p.L2 = some (16, cl))
    (hA0 : σ A0 = some (0, .list [])) (hD : σ D = some (5, .list (a1.flatten.map p.nm))) (hg0 : gg[p.k]? = some e0) (hbb : Bare gg) (X : Ext waC σ₀ σ) (hm : p.n - a1.flatten.length < m) (X' : Ext [1, 3, 4, 8, 18] (upd σ p.L2 none) σ') :
    SoNext (SoW p.c p.d p.env p.L2 p.x b.length) p.L2 p.x (p.fr L D A1 nv) (gg.setIfInBounds p.k .running) σ' st (SoT p.c p.G p.k p.L2 p.x (p.fr L D A1 nv) (gg.setIfInBounds p.k .running) (PullOut p L D A0 σ₀ m) (ErrOut p L D A0 σ₀)) := by
  refine soNext_of hb (fun eb v σ'' X'' S'' => ⟨v, σ'', rfl, fun hq hN => ?_⟩) (fun f0 r' b' eb ef e u g' l kk c' pp fs' tu2 it2 σ'' e1 eu X'' S'' htu2 hit2 hw => ⟨some (.ref tu2), σ'', rfl, fun hq hN => ?_⟩)
  · have X3 := ext_back (z := some (16, frC nsS [some (.ref p.x), v])) hL (X'.trans (X''.mono (by decide)))
    have ef : p.gs.flatten = a1.flatten := by rw [hgs, eb, List.append_nil]
    show PullOut p L D A0 σ₀ m none ⟨_, _, _⟩
    refine .over nv A1 _ _ _ _ hr (by rw [ef]; exact hs) (by rw [ef]; exact hb.g0.1) (by rw [ef]; exact hb.g0.2.1) (S''.ext (C := []) (Ext.upd_new hN) (by decide) (by decide)) (by rw [ef]; exact X3 _ _ _ hD (by decide)) (by rw [eA]; exact X3 _ _ _ hA0 (by decide)) (X.trans (X3.mono (by decide))) ?_
    show Bare ((gg.setIfInBounds p.k _).setIfInBounds p.k _)
    rw [set_set]; exact hbb.set rfl
  · subst e1 eb ef
    have X3 := ext_back (z := some (16, frC nsS [some (.ref p.x), some (.ref tu2)])) hL (X'.trans (X''.mono (by decide)))
    have XN : Ext [] σ'' (upd σ'' p.L2 (some (16, frC nsS [some (.ref p.x), some (.ref tu2)]))) := Ext.upd_new hN
    show PullOut p L D A0 σ₀ m (some u) ⟨_, _, _⟩
    refine .going a1 b' (f0 :: r') st 0 f0 u nv A1 _ _ _ hr ⟨hb, hgs, Nat.le_refl 1, Nat.succ_le_succ (Nat.zero_le _), X3 _ _ _ hG (by decide), ⟨_, tu2, it2, ?_, hw, upd_self, XN _ _ _ htu2 List.not_mem_nil, XN _ _ _ hit2 List.not_mem_nil⟩, X3 _ _ _ hA0 (by decide), ?_⟩
      (S''.ext XN (by decide) (by decide)) rfl eu (by rw [List.take_zero, List.append_nil]; exact X3 _ _ _ hD (by decide)) (.inl ⟨eA, rfl, hs⟩) (X.trans (X3.mono (by decide))) hm
    · show ((gg.setIfInBounds p.k _).setIfInBounds p.k _)[p.k]? = _
      rw [set_set]; exact set_at hg0
    · show Bare ((gg.setIfInBounds p.k _).setIfInBounds p.k _)
      rw [set_set]; exact hbb.set (End.bare_of_quiet hq)
theorem pull_going {nv : Option AV} {A1 : Addr} {ss : SS} (hA : AOk A (p.fr L D A1 nv) (p.d + 10)) (N : NmOk p.n p.nm) (hn : p.n ≤ 60) (hT : p.T ≤ 400) (hr : p.ring = false) {a1 b : List (List Nat)} {f : List Nat} {st : SS} {i : Nat} {σ : Addr → Option (Nat × Cell)} {gg : Array GenState} (lv : Lv p.c)
    (H : p.hand A0 a1 f b st i σ gg) (S : SO σ p.x ss) (hD : σ D = some (5, .list ((a1.flatten ++ f.take i).map p.nm))) (M : p.mode A0 a1 f st i A1 ss σ) (X : Ext waC σ₀ σ) (hm : p.n + 1 - (a1.flatten.length + i) ≤ m) :
    W p.c A (pyNext (.ref p.G)) (PullOut p L D A0 σ₀ m) (ErrOut p L D A0 σ₀) ⟨p.fr L D A1 nv, σ, gg⟩ := by
  have hl := H.rds.len
  rw [show (p.P0.at a1.flatten a1.flatten).given = a1.flatten from rfl, List.flatten_cons, List.length_append] at hl
  rcases Nat.lt_or_ge i f.length with hi | hi
  · have hv := List.getElem?_eq_getElem hi
    refine pull_item (hA.le (d' := p.d + 1) (by lia)) H hv fun u σ' gg' eu X' H' => ?_
    exact .going a1 b f st i _ u nv A1 ss σ' gg' hr H' (S.ext X' (by decide) (by decide)) hv eu (X' _ _ _ hD (by decide)) (WkP.mode_ext X' (by decide) M) (X.trans (X'.mono (by decide))) (by lia)
  · have hi2 : i = f.length := Nat.le_antisymm H.i2 hi
    subst hi2
    rw [List.take_length] at hD
    obtain ⟨Gh, R, eg⟩ := H.rds.g0
    obtain ⟨G2, R2, dj⟩ := round N Gh R
    obtain ⟨e0, tu0, it0, hg0, _, hL, _, _⟩ := H.wt
    rcases M with ⟨eA, es, hs⟩ | ⟨v, t1, es, Z, hs⟩
    · rw [es] at S
      obtain ⟨fr', G3, R3, good⟩ := dj f.length (Nat.le_refl _)
      rw [List.take_length] at G3 R3
      refine pull_end (m := f.length) hA H S (R2.sane G2 hn hT) (by rw [R2.rd]; rfl) N hn fun tu htu => ⟨by rw [List.length_map]; exact Nat.le_refl _, good, fun k hk => ?_, fun _ => ⟨R3.sane G3 hn hT, fun σ' X' => ?_⟩⟩
      · rw [List.getElem?_eq_none (by rw [List.length_map]; exact Nat.le_refl _)] at hk; cases hk
      · have hb : ∃ fr', Rds p.n p.nm p.Es p.T ((p.P0.at a1.flatten a1.flatten).adv f) fr' (rnd p.nm f st) b := by
          have := H.rds
          cases this with
          | step _ _ _ _ q => exact ⟨_, q⟩
        obtain ⟨fr2, hb⟩ := hb
        have ef : (a1 ++ [f]).flatten = a1.flatten ++ f := by rw [List.flatten_append, List.flatten_cons, List.flatten_nil, List.append_nil]
        exact so_out (a1 := a1 ++ [f]) (by rw [ef]; exact hb) (by rw [H.eq, List.append_assoc]; rfl) hr (by rw [ef, List.length_append]; exact hs) eA H.G hL H.A0 (by rw [ef]; exact hD) hg0 H.bare X (by rw [ef, List.length_append]; lia) (X'.mono (by decide))
    · rw [es] at S
      have hvf : v ∈ f := List.mem_of_getElem? Z.at_
      have hvn : v < p.n := (frd Gh R).2 v hvf
      have nf : ∀ w ∈ f, w ∉ a1.flatten := fun w hw z => ((frd Gh R).1 w hw).2 (by exact z)
      obtain ⟨fr4, R4⟩ := R2.fin1 N G2 (v := v) (List.mem_append_right _ hvf) (nf v hvf)
      have G4 := G2.fin1 N [v]
      have dj := fin_pre N G4 R4 R.frn Z.at_ (fun w hw => List.mem_append_right _ hw) (fun w hw ne z => by
        rcases List.mem_append.mp z with z | z
        · exact nf w hw z
        · exact ne (List.mem_singleton.mp z)) _ (Nat.le_refl _)
      obtain ⟨fr5, G5, R5, good⟩ := dj
      have hql := (List.getElem?_eq_some_iff.mp Z.at_).1
      refine pull_end (m := p.stop - a1.flatten.length) hA H S (R4.sane G4 hn hT) (by rw [R4.rd]; rfl) N hn fun tu htu => ⟨by rw [List.length_map]; exact Nat.le_of_lt hql, good, fun k hk => ?_, fun em => by rw [List.length_map] at em; lia⟩
      rw [List.getElem?_map, Z.at_] at hk
      obtain rfl := Option.some.inj hk
      have hm3 : v ∈ (((p.P0.at a1.flatten a1.flatten).giv f |>.fin [v]).fin (f.take (p.stop - a1.flatten.length))).finished := List.mem_append_left _ (List.mem_append_right _ List.mem_cons_self)
      have hsaid : saidOf (((p.P0.at a1.flatten a1.flatten).giv f |>.fin [v]).fin (f.take (p.stop - a1.flatten.length))) v = MRK := by
        unfold saidOf
        rw [if_neg (fun z => z (R5.gsub v (R5.fsub v hm3))), if_neg (fun z => z (R5.fsub v hm3)), if_pos hm3]
      have hbad := R5.bad N G5 (Nat.le_of_lt hvn) (fun z => z.2 hm3)
      rw [hsaid] at hbad
      have et : ((st.getReady (f.map p.nm)).done1 (p.nm v)).done ((f.map p.nm).take (p.stop - a1.flatten.length)) = ((st.getReady (f.map p.nm)).done ([v].map p.nm)).done ((f.take (p.stop - a1.flatten.length)).map p.nm) := by rw [List.map_take]; rfl
      rw [et]
      refine ⟨MRK, hbad, fun e t Tb σ' X' S'' hx => ⟨_, σ', rfl, fun hq hN => ?_⟩⟩
      have X3 := ext_back (z := some (16, frC nsS [some (.ref p.x), some (.ref tu)])) hL X'
      have XN : Ext [] σ' (upd σ' p.L2 (some (16, frC nsS [some (.ref p.x), some (.ref tu)]))) := Ext.upd_new hN
      refine ⟨⟨t, _, _, _, 17, hx.ext XN (by decide) (by decide), by rw [lv.K]; rfl, X3 _ _ _ H.G (by decide)⟩, ?_⟩
      refine .refused a1 b f v e t Tb nv A1 t1 _ fr5 _ _ hr H.eq (hx.ext XN (by decide) (by decide)) (Z.ext X3 (by decide)) G5 R5 (S''.ext XN (by decide) (by decide)) (X3 _ _ _ hD (by decide)) (X.trans (X3.mono (by decide))) ?_
      show Bare ((gg.setIfInBounds p.k _).setIfInBounds p.k _)
      rw [set_set]; exact H.bare.set rfl
theorem pull_fresh (hA : AOk A (p.fr L D A0 none) (p.d + 10)) (N : NmOk p.n p.nm) (hn : p.n ≤ 60) (hT : p.T ≤ 400) (lv : Lv p.c) (hE2 : EnvOk p.c p.env p.L2 [] nsS []) (hk2 : p.env.scope.kind = .function) (hf2 : p.env.frame = some p.L2)
    (Gh : G0 p.n p.nm p.P0 p.Es p.T p.st0) (Pr : Pre p.n p.nm p.P0 p.Es p.st0) {fr0 : List Nat} (R0 : Rds p.n p.nm p.Es p.T p.P0 fr0 p.st0.prep p.gs) (hring : ∀ r', RingRes p.st0.keys p.st0.su r' → r'.isSome = p.ring)
    (S : SO σ₀ p.x p.st0) (hG : σ₀ p.G = some (17, genC p.k)) (hL : σ₀ p.L2 = some (16, frC nsS [some (.ref p.x), none])) (hgk : p.g₀[p.k]? = some (.fresh (.func (soB p.c.w) p.env))) (hb : Bare p.g₀) (hD : σ₀ D = some (5, .list [])) (hA0 : σ₀ A0 = some (0, .list [])) (hm : p.n + 2 ≤ m) :
    W p.c A (pyNext (.ref p.G)) (PullOut p L D A0 σ₀ m) (ErrOut p L D A0 σ₀) ⟨p.fr L D A0 none, σ₀, p.g₀⟩ := by
  have hP0 : p.P0.at [] [] = p.P0 := PS.at_nil Pr.gv Pr.fi
  refine W_so_fresh (hA.le (d' := p.d + 9) (by lia)) hG hL hgk ?_
  have X0 : Ext [16] σ₀ (upd σ₀ p.L2 none) := Ext.upd_own hL List.mem_cons_self
  refine so_start (W := SoW p.c p.d p.env p.L2 p.x p.gs.length) (d := p.d) lv hE2 hk2 hf2 (hA.in1) (S.ext X0 (by decide) (by decide)) ⟨Gh.fit.mono (by lia), Gh.closed, fun l hl => by rw [Pr.rd] at hl; cases hl⟩ (fun q it e kk l pp kp h1 h2 => so_wait lv hE2 hk2 hf2 _ it e kk l pp kp h1 h2)
    (fun q => by rw [Pr.rd] at q; cases q) (fun _ r hrr e t Tb args σ' X' S'' hx => ?_) (fun _ hrr => ⟨R0.g0.2.1.sane R0.g0.1 hn hT, fun σ' X' S'' => ?_⟩)
  · have hr := hring _ hrr
    refine ⟨none, σ', rfl, fun hq hN => ?_⟩
    have X3 := ext_back (z := some (16, frC nsS [some (.ref p.x), none])) hL X'
    have XN : Ext [] σ' (upd σ' p.L2 (some (16, frC nsS [some (.ref p.x), none]))) := Ext.upd_new hN
    refine ⟨⟨t, _, _, _, 17, hx.ext XN (by decide) (by decide), by rw [lv.K]; rfl, X3 _ _ _ hG (by decide)⟩, ?_⟩
    refine .ring e t Tb args _ _ hr.symm (hx.ext XN (by decide) (by decide)) (S''.ext XN (by decide) (by decide)) (X3 _ _ _ hD (by decide)) (X3 _ _ _ hA0 (by decide)) (X3.mono (by decide)) ?_
    show Bare ((p.g₀.setIfInBounds p.k _).setIfInBounds p.k _)
    rw [set_set]; exact hb.set rfl
  · have hr : p.ring = false := (hring _ hrr).symm
    exact so_out (a1 := []) (b := p.gs) (by rw [List.flatten_nil, hP0]; exact R0) rfl hr (Nat.zero_le _) rfl hG hL hA0 hD hgk hb Ext.refl (by rw [List.flatten_nil, List.length_nil]; lia) (X'.mono (by decide))
end
end Mine.Internal
namespace Mine.Internal
open PySem PySem.W PyProof.Rows PySem.Calls
theorem keep_done {w : World} : keepIn (KK w) (.ref 113) = true := by rfl
theorem getReady_nil {st : SS} {l : List AV} : (st.getReady l).getReady [] = st.getReady l := by
  show ({ (st.getReady l) with np := _, ready := _, npass := (st.getReady l).npass + ((0 : Nat) : Int) } : SS) = _
  rw [Int.natCast_zero, Int.add_zero]; rfl
section
variable {c : Cx} {A : Around} {E : Value → AS → Prop} {fs : List Frm} {σ : Addr → Option (Nat × Cell)} {g : Array GenState} {d : Nat} {env : Env}
theorem W_letName {a : AS} {x : Str} {p : Pos} {it u : Value} {Q : Unit → AS → Prop} (q : Q () a) : W c A (letOwnedTupleGo (.Name x p) it u) Q E a := fun s hs => wpAny_pure ⟨_, hs, q⟩
theorem W_bodyP {ss : List Stmt} {a : AS} {Qb : Flow → AS → Prop} {I : AS → Prop} {Rt : Value → AS → Prop} (hq1 : ∀ a, I a → Qb .next a) (hq2 : ∀ v a, Rt v a → Qb (.ret v) a) (h : ∀ PB, (∀ a, I a → PB .next a) → (∀ v a, Rt v a → PB (.ret v) a) → W c A (execs ss env) PB E a) : W c A (execs ss env) Qb E a := h Qb hq1 hq2
set_option maxHeartbeats 3000000 in
theorem walk_in {p : WkP} {fr0 : List Nat} {t0 : Tok} {Q : Value → AS → Prop} (lv : Lv p.c) (hA : AOk A p.fs (p.d + 16)) (N : NmOk p.n p.nm) (hn : p.n ≤ 60) (hT : p.T ≤ 400)
    (S : SO σ p.x p.st0) (Gh : G0 p.n p.nm p.P0 p.Es p.T p.st0) (Pr : Pre p.n p.nm p.P0 p.Es p.st0) (hG : σ p.G = some (17, genC p.k)) (hL2 : σ p.L2 = some (16, frC nsS [some (.ref p.x), none])) (hE2 : EnvOk p.c p.env p.L2 [] nsS []) (hk2 : p.env.scope.kind = .function) (hf2 : p.env.frame = some p.L2)
    (hgk : p.g₀[p.k]? = some (.fresh (.func (soB p.c.w) p.env))) (hb : Bare p.g₀) (hring : ∀ r', RingRes p.st0.keys p.st0.su r' → r'.isSome = p.ring) (R0 : Rds p.n p.nm p.Es p.T p.P0 fr0 p.st0.prep p.gs) (hstop : p.stop ≤ 100)
    (h : ∀ r D e1 A1 tl ed ad gi fi σ' g' st' fr', WOut p.nm p.gs p.ring p.stop p.meddle tl ed ad gi fi → G0 p.n p.nm (p.P0.at gi fi) p.Es p.T st' → Post p.n p.nm (p.P0.at gi fi) p.Es fr' st' → SO σ' p.x st' → Bare g' → Ext waC σ σ' → σ' r = some (0, .tuple [.ref D, .ref e1, .ref A1]) → σ' D = some (5, .list (tl.map p.nm)) → Dz σ' (.ref e1) (.list ed) → Dz σ' (.ref A1) (.list ad) →
      Q (.ref r) ⟨p.fs, σ', g'⟩) : W p.c A (call (.ref 172) [.ref p.G, .ref p.x, .int p.stop t0, .bool p.meddle]) Q E ⟨p.fs, σ, p.g₀⟩ := by
  have hlen := R0.len
  have gv0 : p.P0.given = [] := Pr.gv
  rw [gv0, List.length_nil, Nat.zero_add] at hlen
  refine W_call_G (d := p.d + 15) lv.K (ns := nsW) (us := [.ref p.G, .ref p.x, .int p.stop, .bool p.meddle]) (gs := gsW) fn_walk rfl (by kernel_rfl) rfl (.cons (.cons (.cons (.cons (.rest (.rest (.rest (.rest .nil)))))))) (by simp [lv.ValueError, lv.str, lv.len, lv.CycleError]) hA (fun L env B P X hfr hh hL hA' hout hE hFx hUx => ?_)
  obtain ⟨outer, ho⟩ := hout
  refine W_consG (fun _ _ => ?_)
  repeat walk_at "st"
  refine W_newList 5 (Nat.zero_le _) (fun D h1 σ1 e1 => ?_)
  have X1 : Ext [] σ σ1 := Ext.new_eq e1 h1
  repeat walk_at "st"
  refine W_newList 0 (Nat.zero_le _) (fun A0 h2 σ2 e2 => ?_)
  have X2 : Ext [] σ1 σ2 := Ext.new_eq e2 h2
  have X12 : Ext [] σ σ2 := X1.trans X2
  have hD2 : σ2 D = some (5, .list []) := X2 _ _ _ (at_upd e1) List.not_mem_nil
  have hA2 : σ2 A0 = some (0, .list []) := at_upd e2
  iterate 2 walk_at "st"
  refine W_consG (fun P1 hP1 => ?_)
  -- what returns
  have ret : ∀ {vv : List (Option AV)} {r D' e' A1 : Addr} {tl : List Nat} {ed ad : List PyData} {gi fi : List Nat} {σ' : Addr → Option (Nat × Cell)} {g' : Array GenState} {st' : SS} {fr' : List Nat}, WOut p.nm p.gs p.ring p.stop p.meddle tl ed ad gi fi → G0 p.n p.nm (p.P0.at gi fi) p.Es p.T st' → Post p.n p.nm (p.P0.at gi fi) p.Es fr' st' → SO σ' p.x st' → Bare g' → Ext waC σ2 σ' →
      σ' r = some (0, .tuple [.ref D', .ref e', .ref A1]) → σ' D' = some (5, .list (tl.map p.nm)) → Dz σ' (.ref e') (.list ed) → Dz σ' (.ref A1) (.list ad) → P1 (.ret (.ref r)) ⟨⟨L, [], nsW, vv⟩ :: p.fs, σ', g'⟩ :=
    fun w G' R' S' B' X' q1 q2 q3 q4 => hP1.re _ _ (hFx.re _ _ _ _ (h _ _ _ _ _ _ _ _ _ _ _ _ _ w G' R' S' B' (X12.nil.trans X') q1 q2 q3 q4))
  refine W_TryGg hA'.vs ho hfr (fun X1 hX1 => ?_) (fun a q => W_nil q)
  refine W_consG (fun P2 hP2 => ?_)
  refine W_For ?_
  repeat walk_at "st"
  have hG2 := X12 _ _ _ hG List.not_mem_nil
  have hL22 := X12 _ _ _ hL2 List.not_mem_nil
  refine W_iter_gen hG2 ?_
  have S2 := S.ext X12 (by decide) (by decide)
  have hAf : ∀ {A1 : Addr} {nv : Option AV}, AOk B (p.fr L D A1 nv) (p.d + 15) := hA'.vs
  have h0 : WkI p L D A0 σ2 (p.n + 2) ⟨p.fr L D A0 none, σ2, p.g₀⟩ := .fresh rfl rfl
  refine Wk_for (WkI p L D A0 σ2) (fun m a hI => ?_) (p.n + 2) h0
  refine W_mono (Q := PullOut p L D A0 σ2 m) (E := ErrOut p L D A0 σ2) ?_ (fun r a1 hO => ?_) (fun e a1 hO => ?_)
  · cases hI with
    | fresh ea em =>
      subst ea
      exact pull_fresh (hAf.le (d' := p.d + 10) (by walk_at "le")) N hn hT lv hE2 hk2 hf2 Gh Pr R0 hring S2 hG2 hL22 hgk hb hD2 hA2 (by subst em; exact Nat.le_refl _)
    | going a1 b f st1 i nv A1 ss σ3 gg hrg ea H S3 hD3 M X3 em =>
      rw [ea]
      exact pull_going (hAf.le (d' := p.d + 10) (by walk_at "le")) N hn hT hrg lv H S3 hD3 M X3 (Nat.le_of_eq em.symm)
  · cases hO with
    | over nv A3 σ3 gg st3 fr3 hrg hle G3 R3 S3 hD3 hA3 X3 B3 =>
      refine W_nil (hP2.nx _ (W_nil (hP1.nx _ ?_)))
      repeat walk_at "st"
      refine W_newList 0 (Nat.le_of_ble_eq_true rfl) (fun r4 h4 σ4 e4 => ?_)
      have X4 : Ext [] σ3 σ4 := Ext.new_eq e4 h4
      repeat walk_at "st"
      refine W_newTuple 0 (Nat.le_of_ble_eq_true rfl) (fun r5 h5 σ5 e5 => ?_)
      have X5 : Ext [] σ4 σ5 := Ext.new_eq e5 h5
      have X35 := X4.trans X5
      repeat walk_at "st"
      exact h _ _ _ _ _ _ _ _ _ _ _ _ _ (.inr ⟨hrg, .inl ⟨hle, rfl, rfl, rfl, rfl, rfl⟩⟩) G3 R3 (S3.ext X35 (by decide) (by decide)) B3 (X12.nil.trans (X3.trans X35.nil)) (at_upd e5) (X35 _ _ _ hD3 List.not_mem_nil) (Dz.list (X5 _ _ _ (at_upd e4) List.not_mem_nil) (DzL.cons (RdV.str : Dz _ _ _) DzL.nil)) (Dz.list (X35 _ _ _ hA3 List.not_mem_nil) DzL.nil)
    | going a2 b f st3 i v u nv A3 ss σ3 gg hrg H S3 hv eu hD3 M X3 hlt =>
      have hl := H.rds.len
      rw [show (p.P0.at a2.flatten a2.flatten).given = a2.flatten from rfl, List.flatten_cons, List.length_append] at hl
      have hlz : (a2.flatten ++ f.take i).length = a2.flatten.length + i := by rw [List.length_append, List.length_take, Nat.min_eq_left (Nat.le_of_lt (List.getElem?_eq_some_iff.mp hv).1)]
      have etk : (a2.flatten ++ f.take (i + 1)).map p.nm = (a2.flatten ++ f.take i).map p.nm ++ [p.nm v] := by rw [take_snoc hv, ← List.append_assoc, List.map_append]; rfl
      have hi2 := H.i2
      have hvn : v ≤ p.n := Nat.le_of_lt (H.rds.len.2.2.2 v (by rw [List.flatten_cons]; exact List.mem_append_left _ (List.mem_of_getElem? hv)))
      refine W_letName (W_assign_Name (W_storeName hE (by walk_at "set") ?_))
      refine W_bodyP (I := fun a => ∃ m', m' < m ∧ WkI _ _ _ _ _ m' a) (Rt := fun v a => P1 (.ret v) a) (fun _ h => h) (fun v a q => hP2.re v a q) (fun PB hnx hre => ?_)
      refine W_consG fun P3 hP3 => ?_
      repeat walk_at "st"
      intro pl
      refine W_meth_list F.slot_list_append F.type_list_append hD3 ?_
      repeat walk_at "st"
      refine All.key (by rw [eu]; exact (N.ko v hvn).1.key) (fun u2 eu2 => ?_)
      repeat walk_at "st"
      refine ⟨Kp.builtin, W_append hD3 (by rw [List.length_map, hlz]; walk_at "le") (fun σ4 e4 => ?_)⟩
      have X4 : Ext [5] σ3 σ4 := Ext.own_eq e4 hD3 List.mem_cons_self
      have hD4 : σ4 D = some (5, .list ((a2.flatten ++ f.take (i + 1)).map p.nm)) := by rw [at_upd e4, etk, eu2, eu]
      have hl4 : ((a2.flatten ++ f.take (i + 1)).map p.nm).length = a2.flatten.length + (i + 1) := by rw [etk, List.length_append, List.length_map, hlz]; rfl
      have hz4 : ((a2.flatten ++ f.take (i + 1)).map p.nm).length ≤ 1000000 := by rw [hl4]; lia
      repeat walk_at "st"
      refine ⟨Kp.builtin, W_len_list hD4 hz4 (fun t4 => ?_)⟩
      rw [hl4]
      repeat walk_at "st"
      have S4 := S3.ext X4 (by decide) (by decide)
      have H4 := H.ext X4 (by decide)
      have X04 : Ext waC σ2 σ4 := X3.trans (X4.mono (by decide))
      rcases WkP.mode_next X4 (by decide) M with ⟨hlt2, M⟩ | ⟨hst, eA, es⟩
      · have hc : (((a2.flatten.length + (i + 1) : Nat) : Int) == (p.stop : Int) + 1) = false := beq_eq_false_iff_ne.mpr (by walk_at "le")
        rw [hc]
        repeat walk_at "st"
        refine ⟨Kp.builtin, W_len_list hD4 hz4 (fun t4 => ?_)⟩
        rw [hl4]
        repeat walk_at "st"
        rw [hc]
        repeat walk_at "st"
        exact hnx _ ⟨_, by lia, .going a2 b f st3 (i + 1) _ A3 ss σ4 gg hrg rfl H4 S4 hD4 M X04 rfl⟩
      · rw [es] at S4
        have hc : (((a2.flatten.length + (i + 1) : Nat) : Int) == (p.stop : Int) + 1) = true := beq_iff_eq.mpr (by walk_at "le")
        obtain ⟨G2, R2, _⟩ := round N H.rds.g0.1 H.rds.g0.2.1
        rw [hc]
        cases hmd : p.meddle with
        | false =>
          repeat walk_at "st"
          refine W_newList 0 (Nat.le_of_ble_eq_true rfl) (fun r4 h5 σ5 e5 => ?_)
          have X5 : Ext [] σ4 σ5 := Ext.new_eq e5 h5
          repeat walk_at "st"
          refine W_newTuple 0 (Nat.le_of_ble_eq_true rfl) (fun r5 h6 σ6 e6 => ?_)
          have X6 : Ext [] σ5 σ6 := Ext.new_eq e6 h6
          have X46 := X5.trans X6
          repeat walk_at "st"
          have etl : (a2.flatten ++ f).take (p.stop + 1) = a2.flatten ++ f.take (i + 1) := by
            rw [← hst, List.take_append, List.take_of_length_le (by walk_at "le"), Nat.add_assoc, Nat.add_sub_cancel_left]
          exact hre _ _ (ret (.inr ⟨hrg, .inr ⟨a2, b, f, H.eq, by lia, by have := H.i2; lia, .inl ⟨hmd, rfl, rfl, rfl, rfl, rfl⟩⟩⟩) G2 R2 (S4.ext X46 (by decide) (by decide)) H.bare (X04.trans X46.nil) (at_upd e6) (by rw [etl]; exact X46 _ _ _ hD4 List.not_mem_nil) (Dz.list (X6 _ _ _ (at_upd e5) List.not_mem_nil) (DzL.cons (RdV.str : Dz _ _ _) DzL.nil)) (Dz.list (by rw [eA]; exact X46 _ _ _ H4.A0 List.not_mem_nil) DzL.nil))
        | true =>
          repeat walk_at "st"
          refine ⟨Kp.builtin, W_len_list hD4 hz4 (fun t4 => ?_)⟩
          rw [hl4]
          repeat walk_at "st"
          rw [hc]
          repeat walk_at "st"
          intro pl2
          obtain ⟨dx, nd, rv, as, ep, S5⟩ := S4
          refine W_getMethod S5.x S5.dx (lv.K ▸ bo_ready.get) (lv.K ▸ bo_ready.find) (lv.K ▸ bo_ready.fn) (no_attr (by decide +kernel)) ?_
          repeat walk_at "st"
          refine ⟨Kp.inK (lv.K ▸ keep_ready), get_ready_spec lv.toLw (d := p.d) (hA'.vs.le (by walk_at "le")) S5 R2.rd (fun _ hk => nomatch hk) (Nat.zero_le _) (fun t1 σ5 h5 X5 ht5 S6 => ?_)⟩
          rw [List.map_nil, getReady_nil] at S6
          repeat walk_at "st"
          intro pl3
          refine W_getMethod S6.x S6.dx (lv.K ▸ bo_active.get) (lv.K ▸ bo_active.find) (lv.K ▸ bo_active.fn) (no_attr (by decide +kernel)) ?_
          repeat walk_at "st"
          refine ⟨Kp.inK (lv.K ▸ keep_active), is_active_spec lv.toLw (d := p.d) (hA'.vs.le (by walk_at "le")) S6 R2.rd (Nat.zero_le _) ?_⟩
          have hact : (decide ((st3.getReady (f.map p.nm)).nfin < (st3.getReady (f.map p.nm)).npass) || !(([] : List Nat).map p.nm).isEmpty) = true := by
            rw [R2.pass, R2.fin]
            have : 0 < f.length := Nat.lt_of_lt_of_le (Nat.succ_pos i) H.i2
            rw [decide_eq_true (by show ((a2.flatten.length : Nat) : Int) < (((a2.flatten ++ f).length : Nat) : Int); rw [List.length_append]; walk_at "le")]; rfl
          rw [hact]
          repeat walk_at "st"
          intro pl4
          refine W_getMethod S6.x S6.dx (lv.K ▸ bo_done.get) (lv.K ▸ bo_done.find) (lv.K ▸ bo_done.fn) (no_attr (by decide +kernel)) ?_
          repeat walk_at "st"
          refine All.key (by rw [eu]; exact (N.ko v hvn).1.key) (fun u3 eu3 => ?_)
          repeat walk_at "st"
          have hvf : v ∈ f := List.mem_of_getElem? hv
          have nf : v ∉ a2.flatten := fun z => ((frd H.rds.g0.1 H.rds.g0.2.1).1 v hvf).2 z
          have sane := R2.sane G2 hn hT
          refine ⟨Kp.inK (lv.K ▸ keep_done), W_call (done_spec (us := [u3]) (l := [p.nm v]) lv.toLw (d := p.d) (N := 2000) (m := 1) (hA'.vs.le (by walk_at "le")) S6 (by rw [R2.rd]; rfl) sane.fit.su ?_ (Nat.le_of_ble_eq_true rfl) (by rw [List.map_cons, eu3, eu]; rfl) (fun _ hk => ?_) sane.su (Nat.le_refl 1) (fun j _ hj hk => ?_) (fun _ hk => nomatch hk) (fun σ7 em X7 S7 => ?_))⟩
          · unfold SS.rl
            rw [R2.rd]
            show 0 + 2000 * (0 + 1 + 1) ≤ 1000000
            decide
          · rw [List.mem_singleton.mp hk]; exact ⟨(N.ko v hvn).1.key, (N.ko v hvn).2⟩
          · obtain rfl := Nat.lt_one_iff.mp hj
            obtain rfl := Option.some.inj hk
            refine ⟨?_, R2.npg v (List.mem_append_right _ hvf) nf⟩
            rw [G2.keys]; exact List.mem_map_of_mem (R2.gsub v (List.mem_append_right _ hvf))
          dsimp only
          repeat walk_at "st"
          refine W_newList 0 (Nat.le_of_ble_eq_true rfl) (fun A1 h8 σ8 e8 => ?_)
          have X8 : Ext [] σ7 σ8 := Ext.new_eq e8 h8
          repeat walk_at "st"
          have X48 : Ext [1] σ4 σ8 := X5.trans (X7.trans X8.nil)
          have ha : f[p.stop - a2.flatten.length]? = some v := by rw [← hst, Nat.add_sub_cancel_left]; exact hv
          exact hnx _ ⟨_, by lia, .going a2 b f st3 (i + 1) _ A1 _ σ8 gg hrg (by show _ = AS.mk (wF L p.G p.x p.stop p.meddle D A1 _ none p.fs) _ _; rw [hmd]) (H4.ext X48 (by decide)) ⟨_, _, _, _, _, S7.ext X8 (by decide) (by decide)⟩ (X48 _ _ _ hD4 (by decide)) (.inr ⟨v, t1, rfl, ⟨by show a2.flatten.length ≤ p.stop; lia, ha, hmd, at_upd e8, X8 _ _ _ (X7 _ _ _ ht5 (by decide)) List.not_mem_nil⟩, by show p.stop < _; lia⟩) (X04.trans (X48.mono (by decide))) rfl⟩
  · have hP0 : p.P0.at [] [] = p.P0 := PS.at_nil Pr.gv Pr.fi
    cases hO with
    | ring e t Tb args σ3 gg hrg hx S3 hD3 hA3 X3 B3 =>
      refine noted_exc hA'.vs.link ho hfr hx fun σ5 T5 X5 hx5 => ?_
      refine came_exc hx5 ?_
      refine hX1.ex _ _ _ _ _ _ _ _ hx5 fun σ6 T6 X6 hx6 => W_handle_hit ?_
      refine W_Glob hE (by walk_at "mem") ⟨hx6.m (by rw [lv.K]; rfl), W_setFlight hx6 ?_⟩
      repeat walk_at "st"
      refine W_newList 0 (Nat.le_of_ble_eq_true rfl) (fun r7 h7 σ7 e7 => ?_)
      have X7 : Ext [] σ6 σ7 := Ext.new_eq e7 h7
      repeat walk_at "st"
      refine W_newTuple 0 (Nat.le_of_ble_eq_true rfl) (fun r8 h8 σ8 e8 => ?_)
      have X8 : Ext [] σ7 σ8 := Ext.new_eq e8 h8
      have X38 : Ext [8] σ3 σ8 := X5.trans (X6.trans (X7.nil.trans X8.nil))
      repeat walk_at "st"
      exact h _ _ _ _ _ _ _ _ _ _ _ _ _ (.inl ⟨hrg, rfl, rfl, rfl, rfl, rfl⟩) (by rw [hP0]; exact R0.g0.1) (by rw [hP0]; exact R0.g0.2.1) (S3.ext X38 (by decide) (by decide)) B3 (X12.nil.trans (X3.trans (X38.mono (by decide)))) (at_upd e8) (X38 _ _ _ hD3 (by decide)) (Dz.list (X8 _ _ _ (at_upd e7) List.not_mem_nil) (DzL.cons (RdV.str : Dz _ _ _) DzL.nil)) (Dz.list (X38 _ _ _ hA3 (by decide)) DzL.nil)
    | refused a2 b f v e t Tb nv A1 t1 st3 fr3 σ3 gg hrg egs hx Z G3 R3 S3 hD3 X3 B3 =>
      have Z1 := Z.A1; have Z2 := Z.t1; have Zl := Z.le; have Za := Z.at_; have Zm := Z.md
      refine noted_exc hA'.vs.link ho hfr hx fun σ5 T5 X5 hx5 => ?_
      refine came_exc hx5 ?_
      refine hX1.ex _ _ _ _ _ _ _ _ hx5 fun σ6 T6 X6 hx6 => W_handle_miss ?_
      refine W_Glob hE (by walk_at "mem") ⟨hx6.m (by rw [lv.K]; rfl), W_handle_as ?_⟩
      refine W_Glob hE (by walk_at "mem") ⟨hx6.m (by rw [lv.K]; rfl), W_setFlight hx6 ?_⟩
      repeat walk_at "st"
      refine ⟨Kp.type, W_str_exc (by have := hA'.u65; exact Nat.lt_of_le_of_lt (Nat.add_le_add_left (by decide) _) this) hx6 (fun u => ?_)⟩
      repeat walk_at "st"
      refine W_newList 0 (Nat.le_of_ble_eq_true rfl) (fun r7 h7 σ7 e7 => ?_)
      have X7 : Ext [] σ6 σ7 := Ext.new_eq e7 h7
      repeat walk_at "st"
      refine W_newTuple 0 (Nat.le_of_ble_eq_true rfl) (fun r8 h8 σ8 e8 => ?_)
      have X8 : Ext [] σ7 σ8 := Ext.new_eq e8 h8
      have X38 : Ext [8] σ3 σ8 := X5.trans (X6.trans (X7.nil.trans X8.nil))
      repeat walk_at "st"
      refine W_nameGoes (vsf := fun v => [some (.ref p.G), some (.ref p.x), some (.int p.stop), some (.bool p.meddle), some (.ref D), some (.ref A1), nv, v]) hE (fun v => by walk_at "set") (fun v => ?_)
      exact ret (.inr ⟨hrg, .inr ⟨a2, b, f, egs, Zl, (Nat.sub_lt_iff_lt_add' Zl).mp (List.getElem?_eq_some_iff.mp Za).1, .inr ⟨Zm, _, Za, rfl, rfl, rfl, rfl, rfl⟩⟩⟩) G3 R3 (S3.ext X38 (by decide) (by decide)) B3 (X3.trans (X38.mono (by decide))) (at_upd e8) (X38 _ _ _ hD3 (by decide)) (Dz.list (X8 _ _ _ (at_upd e7) List.not_mem_nil) (DzL.cons (RdV.str : Dz _ _ _) (DzL.cons (RdV.str : Dz _ _ _) DzL.nil)))
        (Dz.list (X38 _ _ _ Z1 (by decide)) (DzL.cons (Dz.tuple (X38 _ _ _ Z2 (by decide)) DzL.nil) (DzL.cons (RdV.bool : Dz _ _ _) (DzL.cons (RdV.none : Dz _ _ _) DzL.nil))))
theorem walk_spec {env2 : Env} {L2 x G : Addr} {k n T stop : Nat} {nm : Nat → AV} {Es : List Ed} {P0 : PS} {fr0 : List Nat} {st : SS} {ring meddle : Bool} {gs : List (List Nat)} {t0 : Tok} {Q : Value → AS → Prop} (lv : Lv c) (hA : AOk A fs (d + 16)) (N : NmOk n nm) (hn : n ≤ 60) (hT : T ≤ 400)
    (S : SO σ x st) (Gh : G0 n nm P0 Es T st) (Pr : Pre n nm P0 Es st) (hG : σ G = some (17, genC k)) (hL2 : σ L2 = some (16, frC nsS [some (.ref x), none])) (hE2 : EnvOk c env2 L2 [] nsS []) (hk2 : env2.scope.kind = .function) (hf2 : env2.frame = some L2)
    (hgk : g[k]? = some (.fresh (.func (soB c.w) env2))) (hb : Bare g) (hring : ∀ r', RingRes st.keys st.su r' → r'.isSome = ring) (R0 : Rds n nm Es T P0 fr0 st.prep gs) (hstop : stop ≤ 100)
    (h : ∀ r D e1 A1 tl ed ad gi fi σ' g' st' fr', WOut nm gs ring stop meddle tl ed ad gi fi → G0 n nm (P0.at gi fi) Es T st' → Post n nm (P0.at gi fi) Es fr' st' → SO σ' x st' → Bare g' → Ext waC σ σ' → σ' r = some (0, .tuple [.ref D, .ref e1, .ref A1]) → σ' D = some (5, .list (tl.map nm)) → Dz σ' (.ref e1) (.list ed) → Dz σ' (.ref A1) (.list ad) →
      Q (.ref r) ⟨fs, σ', g'⟩) : W c A (call (.ref 172) [.ref G, .ref x, .int stop t0, .bool meddle]) Q E ⟨fs, σ, g⟩ :=
  walk_in (p := ⟨c, d, env2, L2, x, G, k, n, nm, Es, T, P0, gs, stop, meddle, fs, g, st, ring⟩) lv hA N hn hT S Gh Pr hG hL2 hE2 hk2 hf2 hgk hb hring R0 hstop h
end
end Mine.Internal
namespace Mine.Internal
open PySem PySem.W PyProof.Rows PySem.Calls
structure Lg (L : Addr) (cl : List (Str × Addr)) (ns : List Str) (fs : List Frm) (C : List Nat) (σ : Addr → Option (Nat × Cell)) (J : List (Option AV) → (Addr → Option (Nat × Cell)) → Array GenState → Prop) (R : Result → AS → Prop) (P : Flow → AS → Prop) : Prop where
  nx : ∀ vv σ' g', Ext C σ σ' → J vv σ' g' → P .next ⟨⟨L, cl, ns, vv⟩ :: fs, σ', g'⟩
  re : ∀ v a, R (.ok (.ret v)) a → P (.ret v) a
section
variable {c : Cx} {A : Around} {E : Value → AS → Prop} {fs : List Frm} {σ : Addr → Option (Nat × Cell)} {g : Array GenState} {d k : Nat} {env : Env}
theorem Wk_loopg {L : Addr} {cl : List (Str × Addr)} {ns : List Str} {x : Str} {px : Pos} {it : Addr} {body : List Stmt} {vs : List AV} {src : (Addr → Option (Nat × Cell)) → Prop} {cell : Nat → Cell} {vv₀ : List (Option AV)} {σ₀ σ₁ : Addr → Option (Nat × Cell)} {R : Result → AS → Prop}
    (IO : IterOf c A vs k src cell) (C : List Nat) (h9 : 9 ∉ C) (hk : k ∉ C) (J : Nat → List (Option AV) → (Addr → Option (Nat × Cell)) → Array GenState → Prop)
    (stab : ∀ i vv σ σ' g, J i vv σ g → Ext [9] σ σ' → J i vv σ' g) (hit : σ₀ it = none) (e₁ : σ₁ = upd σ₀ it (some (9, cell 0))) (hsrc : src σ₁) (hJ : J 0 vv₀ σ₀ g)
    (turn : ∀ i v vv σ g u P X, Lg L cl ns fs C σ (J (i + 1)) R P → (∀ e a', Noted c A env (fun e a' => R (.error e) a') e a' → X e a') → J i vv σ g → vs[i]? = some v → er u = v → src σ → Ext C σ₀ σ →
      W c A (assign (.Name x px) env u) (fun _ a₂ => W c A (execs body env) P X a₂) X ⟨⟨L, cl, ns, vv⟩ :: fs, σ, g⟩)
    (fin : ∀ vv σ g, J vs.length vv σ g → Ext C σ₀ σ → R (.ok .next) ⟨⟨L, cl, ns, vv⟩ :: fs, σ, g⟩) :
    Wk c A (.forLoop (.Name x px) (.ref it) body [] env) R ⟨⟨L, cl, ns, vv₀⟩ :: fs, σ₁, g⟩ := by
  refine Wk_for (I := fun n a => ∃ i vv σ g, a = ⟨⟨L, cl, ns, vv⟩ :: fs, σ, g⟩ ∧ n + i = vs.length ∧ σ it = some (9, cell i) ∧ src σ ∧ J i vv σ g ∧ Ext C σ₀ σ) (fun n a hI => ?_) vs.length
    ⟨0, vv₀, σ₁, g, rfl, rfl, at_upd e₁, hsrc, stab _ _ _ _ _ hJ (Ext.new_eq e₁ hit), Ext.new_eq e₁ hit⟩
  obtain ⟨i, vv, σ, g, rfl, hn, hc, hs, hj, hx⟩ := hI
  have off : ∀ x, Ext C σ₀ (upd σ it x) := fun x y k' cl' q1 q2 => (upd_ne (ne_new q1 hit)).trans (hx y k' cl' q1 q2)
  have off9 : ∀ x, Ext [9] σ (upd σ it x) := fun x => Ext.upd_own hc List.mem_cons_self
  cases n with
  | zero =>
    refine IO.fin hc hs (by lia) (fun σ' e' => ?_)
    subst e'
    refine W_nil ?_
    have : i = vs.length := by lia
    subst this
    exact fin vv _ _ (stab _ _ _ _ _ hj (off9 _)) (off _)
  | succ n =>
    have hi : i < vs.length := by lia
    refine IO.item hc hs (v := vs[i]) (List.getElem?_eq_getElem hi) (fun σ' u e' eu => ?_)
    subst e'
    refine W_letName ?_
    have go : ∀ vv' σ' g', Ext C (upd σ it (some (9, cell (i + 1)))) σ' → J (i + 1) vv' σ' g' → ∃ m, m < n + 1 ∧ ∃ i vv σ g, (⟨⟨L, cl, ns, vv'⟩ :: fs, σ', g'⟩ : AS) = ⟨⟨L, cl, ns, vv⟩ :: fs, σ, g⟩ ∧ m + i = vs.length ∧ σ it = some (9, cell i) ∧ src σ ∧ J i vv σ g ∧ Ext C σ₀ σ := fun vv' σ' g' q1 q2 =>
      ⟨n, Nat.lt_succ_self n, i + 1, vv', σ', g', rfl, (Nat.succ_add_eq_add_succ n i).symm.trans hn, q1 it 9 _ upd_self h9, IO.ext hk q1 (IO.keep hs hc), q2, (off _).trans q1⟩
    exact turn i vs[i] vv _ g u _ _ ⟨go, fun v a q => q⟩ (fun _ _ h => h) (stab _ _ _ _ _ hj (off9 _)) (List.getElem?_eq_getElem hi) eu (IO.keep hs hc) (off _)
end
end Mine.Internal
namespace Mine.Internal
open PySem PySem.W PyProof.Rows PySem.Calls
noncomputable abbrev nsT : List Str := ["sorter", "adds", "names", "n", "walk", "known", "need", "after", "p", "last", "turn", "picks"]
noncomputable abbrev gsT : List (Str × Value) := [("range", .type "range"), ("len", .builtin "len"), ("_law_added", .ref 158)]
theorem fn_tell {w : World} : FnOkC (KK w) 177 [("sorter", false), ("adds", false), ("names", true), ("n", true), ("walk", false), ("known", false), ("need", false), ("after", false), ("p", false), ("last", false), ("turn", false), ("picks", false)] ["range", "len", "_law_added"] := ⟨rfl, rfl, rfl, rfl, rfl, rfl, rfl, rfl, rfl, rfl, by decide +kernel⟩
theorem keep_added {w : World} : keepIn (KK w) (.ref 158) = true := by rfl
@[reducible] noncomputable def tV (x ad nA : Addr) (n : Nat) (wk kv nv av lv : Addr) (tn pk p : Option AV) : List (Option AV) := [some (.ref x), some (.ref ad), some (.ref nA), some (iv n), some (.ref wk), some (.ref kv), some (.ref nv), some (.ref av), p, some (.ref lv), tn, pk]
structure Genned (c : Cx) (x G : Addr) (L2 : Addr) (env2 : Env) (k : Nat) (σ : Addr → Option (Nat × Cell)) : Prop where
  G : σ G = some (17, genC k)
  L : σ L2 = some (16, frC nsS [some (.ref x), none])
  E : EnvOk c env2 L2 [] nsS []
  kd : env2.scope.kind = .function
  fr : env2.frame = some L2
theorem Genned.ext {c : Cx} {x G L2 : Addr} {env2 : Env} {k : Nat} {σ σ' : Addr → Option (Nat × Cell)} {C : List Nat} (h : Genned c x G L2 env2 k σ) (e : Ext C σ σ') (h1 : 16 ∉ C) (h2 : 17 ∉ C) : Genned c x G L2 env2 k σ' := ⟨e _ _ _ h.G h2, e _ _ _ h.L h1, h.E, h.kd, h.fr⟩
inductive WkAt (c : Cx) (x : Addr) (g₀ : Array GenState) (tot i : Nat) (wk : Addr) (σ : Addr → Option (Nat × Cell)) (g : Array GenState) : Prop
  | no : i ≤ tot / 2 → g = g₀ → WkAt c x g₀ tot i wk σ g
  | yes (L2 : Addr) (env2 : Env) : tot / 2 < i → Genned c x wk L2 env2 g₀.size σ → g = g₀.push (.fresh (.func (soB c.w) env2)) → WkAt c x g₀ tot i wk σ g
theorem WkAt.ext {c : Cx} {x wk : Addr} {g₀ g : Array GenState} {tot i : Nat} {σ σ' : Addr → Option (Nat × Cell)} {C : List Nat} (h : WkAt c x g₀ tot i wk σ g) (e : Ext C σ σ') (h1 : 16 ∉ C) (h2 : 17 ∉ C) : WkAt c x g₀ tot i wk σ' g := by
  cases h with
  | no a b => exact .no a b
  | yes L2 env2 a b q => exact .yes L2 env2 a (b.ext e h1 h2) q
inductive TlJ (c : Cx) (x ad nA : Addr) (n : Nat) (nm : Nat → AV) (kv nv av lv : Addr) (as ls : List Addr) (g₀ : Array GenState) (tot i : Nat) (vv : List (Option AV)) (σ : Addr → Option (Nat × Cell)) (g : Array GenState) : Prop
  | mk (wk : Addr) (tn pk p : Option AV) (P : PS) (Es : List Ed) (st : SS) : vv = tV x ad nA n wk kv nv av lv tn pk p → WkAt c x g₀ tot i wk σ g → G0 n nm P Es i st → Pre n nm P Es st → SO σ x st → σ kv = some (6, .list (IV P.known)) → LkAt σ nv av lv as ls n P → TlJ c x ad nA n nm kv nv av lv as ls g₀ tot i vv σ g
section
variable {c : Cx} {A B : Around} {E X : Value → AS → Prop} {fs : List Frm} {σ : Addr → Option (Nat × Cell)} {g : Array GenState} {d : Nat} {env : Env} {L : Addr} {cl : List (Str × Addr)}
noncomputable def tlS (i : Nat) : Stmt := match topS 13 with
  | .FunctionDef _ _ b _ _ _ _ _ _ _ => b.getD i stN
  | _ => stN
noncomputable def tlB : List Stmt := match tlS 5 with
  | .For _ _ b _ _ => b
  | _ => []
set_option maxHeartbeats 2000000 in
theorem tell_book {x ad nA wk kv nv av lv pi : Addr} {as ls : List Addr} {n v T : Nat} {l : List Nat} {P : PS} {p0 : Option AV} {Q : Flow → AS → Prop} (hA : AOk B (⟨L, cl, nsT, tV x ad nA n wk kv nv av lv (some (iv T)) (some (.ref pi)) p0⟩ :: fs) d) (hh : B.handled = none)
    (hE : EnvOk c env L cl nsT gsT) (hn : n ≤ 60) (hT : T ≤ 400) (hv : v < n) (hl : ∀ p ∈ l, p < n) (hz : l.length ≤ 3) (hkl : P.known.length ≤ n) (hal : ∀ p, p ≤ n → (P.after p).length ≤ 5 * T)
    (hk : σ kv = some (6, .list (IV P.known))) (K : LkAt σ nv av lv as ls n P) (asn : as.Nodup) (lsn : ls.Nodup) (hpi : σ pi = some (0, .list (IV (v :: l))))
    (hP : ∀ p1 σ', Ext [6, 11, 13, 15] σ σ' → σ' kv = some (6, .list (IV (P.add T v l).known)) → LkAt σ' nv av lv as ls n (P.add T v l) → Q .next ⟨⟨L, cl, nsT, tV x ad nA n wk kv nv av lv (some (iv T)) (some (.ref pi)) p1⟩ :: fs, σ', g⟩) :
    W c B (execs (tlB.drop 3) env) Q X ⟨⟨L, cl, nsT, tV x ad nA n wk kv nv av lv (some (iv T)) (some (.ref pi)) p0⟩ :: fs, σ, g⟩ := by
  have hnd := hE.nd
  have hps : (IV (v :: l)).length = l.length + 1 := by rw [List.length_map]; rfl
  refine W_consG (fun PA hPA => ?_)
  refine W_For ?_
  repeat walk_at "st"
  refine W_iter_list hpi (fun it h1 σ1 e1 => ?_)
  refine Wk_loopG (IterOf.list (k := 0) hh) [6] (by decide) (by decide) (fun i vv σ => ∃ bp, vv = tV x ad nA n wk kv nv av lv (some (iv T)) (some (.ref pi)) bp ∧ σ kv = some (6, .list (IV (uqN P.known ((v :: l).take i)))))
    (fun i vv σ σ' pz16 e => pz16.elim fun bp pz17 => pz17.elim fun q1 q2 => ⟨bp, q1, e _ _ _ q2 (by decide)⟩) h1 e1 ((put_ne e1 (ne_new hpi h1)).trans hpi) ⟨_, rfl, hk⟩ ?_ ?_
  · rintro i w vv σ2 u2 P2 E2 hP2 hE2 ⟨bp', rfl, hk2⟩ hw eu _ Y2
    obtain ⟨p, rfl, hp⟩ := IV_at hw
    obtain ⟨tu2, rfl⟩ := er_int eu
    have hkz : (IV (uqN P.known ((v :: l).take i))).length ≤ 1000000 := by
      have h1 := uqN_len (S := P.known) (l := (v :: l).take i)
      have h2 := List.length_take_le' i (v :: l)
      rw [List.length_map]
      rw [List.length_cons] at h2; lia
    repeat walk_at "st"
    refine W_notin_list hk2 (by rfl) IV_key ?_
    by_cases hm : p ∈ uqN P.known ((v :: l).take i)
    · rw [decide_eq_true (iv_mem.mpr hm)]
      repeat walk_at "st"
      exact hP2.nx _ σ2 Ext.refl ⟨_, rfl, by rw [take_snoc hp, uqN_snoc, if_pos hm]; exact hk2⟩
    · rw [decide_eq_false (fun q => hm (iv_mem.mp q))]
      repeat walk_at "st"
      intro pl
      refine W_meth_list F.slot_list_append F.type_list_append hk2 ?_
      repeat walk_at "st"
      refine ⟨Kp.builtin, W_append hk2 hkz (fun σ3 e3 => ?_)⟩
      repeat walk_at "st"
      exact hP2.nx _ σ3 (Ext.own_eq e3 hk2 (by decide)) ⟨_, rfl, by rw [take_snoc hp, uqN_snoc, if_neg hm, e3, upd_self, IV_app]; rfl⟩
  rintro vv σ2 ⟨bp', rfl, hk2⟩ Y2
  rw [hps, show (v :: l).take (l.length + 1) = v :: l from List.take_length (l := v :: l)] at hk2
  have hpi2 := Y2 _ _ _ hpi (by decide)
  dsimp only
  refine hPA.nx _ ?_
  refine W_consG (fun PC hPC => ?_)
  refine W_For ?_
  repeat walk_at "st"
  refine SlAt.lo (slOwn hpi2) (by rw [hps]; lia) (by decide) (by rw [hps]; exact Nat.le_add_left 1 _) fun D h3 σ3 e3 => ?_
  dsimp only at h3 e3 ⊢
  have X3 : Ext [] σ2 σ3 := Ext.new_eq e3 h3
  have hD : σ3 D = some (0, .list (IV l)) := at_upd e3
  refine W_iter_list hD (fun it2 h4 σ4 e4 => ?_)
  have X13 : Ext [6] σ σ3 := Y2.trans X3.nil
  have hpi3 := X3 _ _ _ hpi2 List.not_mem_nil
  refine Wk_loopG (IterOf.list (k := 0) hh) [11, 13, 15] (by decide) (by decide) (fun i vv σ => ∃ bp, vv = tV x ad nA n wk kv nv av lv (some (iv T)) (some (.ref pi)) bp ∧ LkAt σ nv av lv as ls n ((l.take i).foldl (fun P p => P.link v T p) (P.name (v :: l))))
    (fun i vv σ σ' pz18 e => pz18.elim fun bp pz19 => pz19.elim fun q1 q2 => ⟨bp, q1, q2.ext e (by decide)⟩) h4 e4 ((put_ne e4 (ne_new hD h4)).trans hD) ⟨_, rfl, X13 _ _ _ K.nv (by decide), K.av.ext X13 (by decide) (by decide), K.lv.ext X13 (by decide) (by decide)⟩ ?_ ?_
  · rintro i w vv σ5 u5 P5 E5 hP5 hE5 ⟨bp5, rfl, K5⟩ hw eu _ Y5
    obtain ⟨p, rfl, hp⟩ := IV_at hw
    obtain ⟨tu5, rfl⟩ := er_int eu
    have hpn := hl p (List.mem_of_getElem? hp)
    have eP : (l.take (i + 1)).foldl (fun P p => P.link v T p) (P.name (v :: l)) = ((l.take i).foldl (fun P p => P.link v T p) (P.name (v :: l))).link v T p := by rw [take_snoc hp, List.foldl_append]; rfl
    have haz : (((l.take i).foldl (fun P p => P.link v T p) (P.name (v :: l))).after p).length ≤ 3000 := by
      have h1 := link_len (v := v) (t := T) (q := p) (l := l.take i) (P := P.name (v :: l))
      have h2 := List.length_take_le' i l
      have h3 : ((P.name (v :: l)).after p).length ≤ 5 * T := hal p (Nat.le_of_lt hpn)
      lia
    have fin : ∀ {bp : Option AV} {σ' : Addr → Option (Nat × Cell)}, Ext [11, 13, 15] σ5 σ' → LkAt σ' nv av lv as ls n (((l.take i).foldl (fun P p => P.link v T p) (P.name (v :: l))).link v T p) → P5 .next ⟨⟨L, cl, nsT, tV x ad nA n wk kv nv av lv (some (iv T)) (some (.ref pi)) bp⟩ :: fs, σ', g⟩ := fun X K => hP5.nx _ _ X ⟨_, rfl, by rw [eP]; exact K⟩
    generalize (l.take i).foldl (fun P p => P.link v T p) (P.name (v :: l)) = P' at *
    clear eP hP5
    have hpi5 := Y5 _ _ _ hpi3 (by decide)
    have hp0 : (IV (v :: l))[(0 : Int).toNat]? = some (iv v) := rfl
    repeat walk_at "st"
    refine ⟨noGet_list hpi5, W_item_list hpi5 (by decide) hp0 (by walk_at "le") ?_⟩
    repeat walk_at "st"
    refine (W_itemT K5.nv hv (by walk_at "le") ?_)
    repeat walk_at "st"
    refine W_pow2 (by walk_at "le") (fun t6 => ?_)
    refine W_bor (fun t7 => ?_)
    repeat walk_at "st"
    refine ⟨noGet_list hpi5, W_item_list hpi5 (by decide) hp0 (by walk_at "le") ?_⟩
    repeat walk_at "st"
    refine W_setItem_list K5.nv (Int.natCast_nonneg _) (by rw [Int.toNat_natCast, tab_len]; exact hv) (by rw [tab_len]; walk_at "le") (fun σ6 e6 => ?_)
    rw [Int.toNat_natCast, tab_set hv] at e6
    have X6 : Ext [11] σ5 σ6 := Ext.own_eq e6 K5.nv (by decide)
    have nv6 : σ6 nv = some (11, .list (tab n fun w => iv ((P'.link v T p).need w))) := by
      rw [e6, upd_self]
      refine congrArg (fun z => some (11, Cell.list z)) (tab_congr fun w _ => ?_)
      show fsN _ v _ w = iv (fsN P'.need v (P'.need v ||| 2 ^ p) w)
      unfold fsN
      split <;> rfl
    have lv6 := K5.lv.ext X6 (by decide) (by decide)
    have av6 := K5.av.ext X6 (by decide) (by decide)
    have hpi6 := X6 _ _ _ hpi5 (by decide)
    obtain ⟨lp, q1, q2, q3⟩ := lv6.at_ hpn
    repeat walk_at "st"
    refine ⟨noGet_list lv6.d, W_item_list lv6.d (Int.natCast_nonneg _) (by rw [Int.toNat_natCast]; exact q1) (by rw [List.length_map, lv6.len]; walk_at "le") ?_⟩
    repeat walk_at "st"
    refine ⟨noGet_list hpi6, W_item_list hpi6 (by decide) hp0 (by walk_at "le") ?_⟩
    repeat walk_at "st"
    refine W_setItem_list q3 (Int.natCast_nonneg _) (by rw [Int.toNat_natCast, tab_len]; exact hv) (by rw [tab_len]; walk_at "le") (fun σ7 e7 => ?_)
    rw [Int.toNat_natCast, tab_set hv] at e7
    have X7 : Ext [15] σ6 σ7 := Ext.own_eq e7 q3 (by decide)
    have lv7 : LT σ7 lv 14 15 ls n fun q => tab n fun w => iv ((P'.link v T p).last q w) := (lv6.set lsn (by decide) q2 e7).congr fun q _ => by
      show fsN _ p _ q = tab n fun w => iv (fsN P'.last p (fsN (P'.last p) v T) q w)
      unfold fsN
      by_cases e : q = p
      · rw [if_pos e, if_pos e]
        exact tab_congr fun w _ => by split <;> rfl
      · rw [if_neg e, if_neg e]
    have av7 := av6.ext X7 (by decide) (by decide)
    have hpi7 := X7 _ _ _ hpi6 (by decide)
    have nv7 := X7 _ _ _ nv6 (by decide)
    obtain ⟨ap, r1, r2, r3⟩ := av7.at_ hpn
    repeat walk_at "st"
    refine ⟨noGet_list hpi7, W_item_list hpi7 (by decide) hp0 (by walk_at "le") ?_⟩
    repeat walk_at "st"
    refine ⟨noGet_list av7.d, W_item_list av7.d (Int.natCast_nonneg _) (by rw [Int.toNat_natCast]; exact r1) (by rw [List.length_map, av7.len]; walk_at "le") ?_⟩
    repeat walk_at "st"
    refine W_notin_list r3 (by rfl) IV_key ?_
    have XX : Ext [11, 13, 15] σ5 σ7 := (X6.mono (by decide)).trans (X7.mono (by decide))
    by_cases hm : v ∈ P'.after p
    · rw [decide_eq_true (iv_mem.mpr hm)]
      repeat walk_at "st"
      exact fin XX ⟨nv7, by rw [link_in hm]; exact av7, lv7⟩
    · rw [decide_eq_false (fun q => hm (iv_mem.mp q))]
      repeat walk_at "st"
      refine ⟨noGet_list av7.d, W_item_list av7.d (Int.natCast_nonneg _) (by rw [Int.toNat_natCast]; exact r1) (by rw [List.length_map, av7.len]; walk_at "le") ?_⟩
      repeat walk_at "st"
      intro pl
      refine W_meth_list F.slot_list_append F.type_list_append r3 ?_
      repeat walk_at "st"
      refine ⟨noGet_list hpi7, W_item_list hpi7 (by decide) hp0 (by walk_at "le") ?_⟩
      repeat walk_at "st"
      refine ⟨Kp.builtin, W_append r3 (by rw [List.length_map]; walk_at "le") (fun σ8 e8 => ?_)⟩
      have X8 : Ext [13] σ7 σ8 := Ext.own_eq e8 r3 (by decide)
      repeat walk_at "st"
      refine fin (XX.trans (X8.mono (by decide))) ⟨X8 _ _ _ nv7 (by decide), (av7.set asn (by decide) r2 e8).congr fun q _ => ?_, lv7.ext X8 (by decide) (by decide)⟩
      rw [link_out hm]
      unfold fsN
      by_cases e : q = p
      · rw [if_pos e, if_pos e, IV_app]; rfl
      · rw [if_neg e, if_neg e]
  · rintro vv σ5 ⟨bp5, rfl, K5⟩ Y5
    rw [show (IV l).length = l.length from List.length_map .., List.take_length] at K5
    change LkAt σ5 nv av lv as ls n (P.add T v l) at K5
    obtain ⟨a1, a2, a3⟩ := link_known (v := v) (t := T) (l := l) (P := P.name (v :: l))
    have ak : (P.add T v l).known = uqN P.known (v :: l) := a1
    have X15 : Ext [6, 11, 13, 15] σ σ5 := (X13.mono (by decide)).trans (Y5.mono (by decide))
    have hk5 : σ5 kv = some (6, .list (IV (P.add T v l).known)) := by rw [ak]; exact Y5 _ _ _ (X3 _ _ _ hk2 List.not_mem_nil) (by decide)
    exact hPC.nx _ (W_nil (hP _ _ X15 hk5 K5))
end
end Mine.Internal
namespace Mine.Internal
open PySem PySem.W PyProof.Rows PySem.Calls
inductive MidJ (c : Cx) (x ad nA : Addr) (n : Nat) (kv nv av lv : Addr) (g₀ : Array GenState) (tot i : Nat) (p : Option AV) (pi : Addr) (L : Addr) (cl : List (Str × Addr)) (fs : List Frm) (σ : Addr → Option (Nat × Cell)) (a : AS) : Prop
  | mk (wk : Addr) (σ' : Addr → Option (Nat × Cell)) (g : Array GenState) : a = ⟨⟨L, cl, nsT, tV x ad nA n wk kv nv av lv (some (iv i)) (some (.ref pi)) p⟩ :: fs, σ', g⟩ → Ext [] σ σ' → WkAt c x g₀ tot (i + 1) wk σ' g → MidJ c x ad nA n kv nv av lv g₀ tot i p pi L cl fs σ a
section
variable {c : Cx} {A B : Around} {E X : Value → AS → Prop} {fs : List Frm} {σ : Addr → Option (Nat × Cell)} {g : Array GenState} {d : Nat} {env : Env} {L : Addr} {cl : List (Str × Addr)}
set_option maxHeartbeats 3000000 in
theorem tell_spec {x ad nA : Addr} {aas : List Addr} {al : List (List Nat)} {n m : Nat} {nm : Nat → AV} {t0 : Tok} {Q : Value → AS → Prop} (l : Lv c) (hA : AOk A fs (d + 14)) (N : NmOk n nm) (hnm : n = m + 1) (hn : n ≤ 60) (S : SO σ x ⟨[], fun _ => 0, fun _ => [], none, 0, 0⟩)
    (hR : RowsAt σ ad 0 0 aas al) (hal : ∀ l ∈ al, AddOk n l) (hlen : al.length ≤ 63) (hpos : 1 ≤ al.length) (hnA : σ nA = some (0, .list (tab n nm)))
    (h : ∀ r G kv nv av lv as ls P Es st L2 env2 σ', σ' r = some (0, .tuple [.ref G, .ref kv, .ref nv, .ref av, .ref lv]) → G0 n nm P Es al.length st → Pre n nm P Es st → SO σ' x st → σ' kv = some (6, .list (IV P.known)) → LkAt σ' nv av lv as ls n P → Genned c x G L2 env2 g.size σ' → Ext [1, 2, 6, 11, 13, 15] σ σ' →
      Q (.ref r) ⟨fs, σ', g.push (.fresh (.func (soB c.w) env2))⟩) : W c A (call (.ref 177) [.ref x, .ref ad, .ref nA, .int n t0]) Q E ⟨fs, σ, g⟩ := by
  refine W_call_GC (d := d + 13) l.K (ps := ["sorter", "adds", "names", "n"]) (rs := ["walk", "known", "need", "after", "p", "last", "turn", "picks"]) (ns := nsT) (us := [.ref x, .ref ad, .ref nA, iv n]) (gs := gsT)
    fn_tell rfl rfl (by kernel_rfl) rfl (.cons (.cons (.cons (.cons (.rest (.rest (.rest (.rest (.rest (.rest (.rest (.rest .nil)))))))))))) (by simp [l.range, l.len, l.added]) hA (fun L cl env B P X hgl hbl hfr hh hL hA' hout hE hC hFx hUx => ?_)
  have hnd := hE.nd
  refine W_consG (fun _ _ => ?_)
  repeat walk_at "st"
  refine W_newList 0 (Nat.zero_le _) (fun w0 h1 σ1 e1 => ?_)
  have X1 : Ext [] σ σ1 := Ext.new_eq e1 h1
  repeat walk_at "st"
  refine W_newList 6 (Nat.zero_le _) (fun kv h2 σ7 e2 => ?_)
  have X2 : Ext [] σ1 σ7 := Ext.new_eq e2 h2
  have X27 : Ext [] σ σ7 := X1.trans X2
  have kv7 : σ7 kv = some (6, .list []) := at_upd e2
  iterate 2 walk_at "st"
  refine W_consG (fun P7 hP7 => ?_)
  -- need
  refine W_AssignComp (x := "v") (gls := []) (caps := []) (vs' := fun D => [some (.ref x), some (.ref ad), some (.ref nA), some (iv n), some (.ref w0), some (.ref kv), some (.ref D), none, none, none, none, none])
    (P := fun D σ' => Ext [] σ7 σ' ∧ σ' D = some (11, .list (tab n fun _ => iv 0))) ⟨rfl, rfl, by decide +kernel⟩ (hC.mono (by first | exact fun _ h => h | decide | simp)) hE (fun D => by walk_at "set") (fun use Q' hQ' => ?_) (fun nv σ8 pz26 => pz26.elim fun X8 hnv => ?_)
  · repeat walk_at "st"
    refine ⟨Kp.type, W_range1 (fun rg2 he σ8 ee => ?_)⟩
    have X8 : Ext [] σ7 σ8 := Ext.new_eq ee he
    repeat walk_at "st"
    refine W_iter_range0 (at_upd ee) (by walk_at "le") (fun it3 hf σ9 ef => ?_)
    refine CompK_out (k := 0) (gs := []) (gls := []) (caps := []) ⟨rfl, rfl, by decide +kernel⟩ (hC.mono (by first | exact fun _ h => h | decide | simp)) rfl (by first | decide | simp) hgl hbl (IterOf.range0 hh) IterSelf.range (by decide) 11 (fun j => tab j fun _ => iv 0) (fun _ => True) (fun _ _ _ _ => trivial) hf ef trivial rfl trivial
      (fun j hj => by rw [tab_len]; rw [List.length_map, List.length_range] at hj; walk_at "le") ?_ ?_
    · rintro C cenv j v2 σa hCE hCC hg2 hb2 _ hv2 Ya
      refine W_tests_nil ?_
      repeat walk_at "st"
      exact ⟨σa, rfl, Ext.refl, tab_succ⟩
    · intro D C vx σa _ Ya _ hD
      rw [List.length_map, List.length_range] at hD
      exact hQ' D C vx σa ⟨X8.trans Ya, hD⟩
  have X28 := X27.trans X8
  refine hP7.nx _ (W_consG fun P8 hP8 => ?_)
  -- after
  refine W_AssignComp (x := "v") (gls := []) (caps := []) (vs' := fun D => [some (.ref x), some (.ref ad), some (.ref nA), some (iv n), some (.ref w0), some (.ref kv), some (.ref nv), some (.ref D), none, none, none, none])
    (P := fun D σ' => Ext [] σ8 σ' ∧ ∃ as, LT σ' D 12 13 as n (fun _ => []) ∧ as.Nodup) ⟨rfl, rfl, by decide +kernel⟩ (hC.mono (by first | exact fun _ h => h | decide | simp)) hE (fun D => by walk_at "set") (fun use Q' hQ' => ?_) (fun av σ9 pz27 => pz27.elim fun X9 pz28 => pz28.elim fun as pz29 => pz29.elim fun hav has => ?_)
  · repeat walk_at "st"
    refine ⟨Kp.type, W_range1 (fun rg2 he σ9 ee => ?_)⟩
    have X9 : Ext [] σ8 σ9 := Ext.new_eq ee he
    repeat walk_at "st"
    refine W_iter_range0 (at_upd ee) (by walk_at "le") (fun it3 hf σa ef => ?_)
    refine CompK_loop (k := 0) (gs := []) (gls := []) (caps := []) ⟨rfl, rfl, by decide +kernel⟩ (hC.mono (by first | exact fun _ h => h | decide | simp)) rfl (by first | decide | simp) hgl hbl (IterOf.range0 hh) IterSelf.range [] (by first | decide | simp) (by first | decide | simp) (by decide) 12 (fun j ys σ => RwsJ 13 [] j ys σ ∧ j ≤ n) (fun i ys σ σ' q e => ⟨q.1.ext e (by decide), q.2⟩) hf ef trivial ⟨.zero, Nat.zero_le _⟩
      (fun j ys σ q => by obtain ⟨⟨as, h1, h2, _, _⟩, q2⟩ := q; rw [h1, List.length_map, h2]; walk_at "le") ?_ ?_
    · rintro C cenv j v2 σb ys hCE hCC hg2 hb2 ⟨q1, q2⟩ hv2 _ Yb
      obtain ⟨rfl, hj⟩ := rng_at hv2
      refine W_tests_nil ?_
      repeat walk_at "st"
      refine W_newList 13 (Nat.zero_le _) (fun l1 h1 σc ec => ?_)
      have Xc : Ext [] σb σc := Ext.new_eq ec h1
      exact ⟨σc, rfl, Xc, q1.push h1 Xc (at_upd ec), hj⟩
    · rintro D C vx ys σb ⟨q1, q2⟩ Yb hD0 hD
      have hlr : (IV (List.range n)).length = n := by rw [List.length_map, List.length_range]
      obtain ⟨as, h1, h2⟩ := q1.lt hlr hD
      exact hQ' D C vx σb ⟨X9.trans Yb, as, h1, h2⟩
  have X29 := X28.trans X9
  refine hP8.nx _ (W_consG fun P9 hP9 => ?_)
  -- last
  refine W_AssignComp (x := "p") (gls := ["range"]) (caps := ["n"]) (vs' := fun D => [some (.ref x), some (.ref ad), some (.ref nA), some (iv n), some (.ref w0), some (.ref kv), some (.ref nv), some (.ref av), none, some (.ref D), none, none])
    (P := fun D σ' => Ext [] σ9 σ' ∧ ∃ ls, LT σ' D 14 15 ls n (fun _ => tab n fun _ => iv 0) ∧ ls.Nodup) ⟨rfl, rfl, by decide +kernel⟩ (hC.mono (by first | exact fun _ h => h | decide | simp)) hE (fun D => by walk_at "set") (fun use Q' hQ' => ?_) (fun lv σ10 pz30 => pz30.elim fun X10 pz31 => pz31.elim fun ls pz32 => pz32.elim fun hlv hls => ?_)
  · repeat walk_at "st"
    refine ⟨Kp.type, W_range1 (fun rg2 he σ10 ee => ?_)⟩
    have X10 : Ext [] σ9 σ10 := Ext.new_eq ee he
    repeat walk_at "st"
    refine W_iter_range0 (at_upd ee) (by walk_at "le") (fun it3 hf σa ef => ?_)
    refine CompK_loop (k := 0) (gs := [("range", .type "range")]) (gls := ["range"]) (caps := ["n"]) ⟨rfl, rfl, by decide +kernel⟩ (hC.mono (by first | exact fun _ h => h | decide | simp)) rfl (by simp [l.range]) hgl hbl (IterOf.range0 hh) IterSelf.range [] (by first | decide | simp) (by first | decide | simp) (by decide) 14 (fun j ys σ => RwsJ 15 (tab n fun _ => iv 0) j ys σ ∧ j ≤ n) (fun i ys σ σ' q e => ⟨q.1.ext e (by decide), q.2⟩) hf ef trivial ⟨.zero, Nat.zero_le _⟩
      (fun j ys σ q => by obtain ⟨⟨as, h1, h2, _, _⟩, q2⟩ := q; rw [h1, List.length_map, h2]; walk_at "le") ?_ ?_
    · rintro C cenv j v2 σb ys hCE hCC hg2 hb2 ⟨q1, q2⟩ hv2 _ Yb
      obtain ⟨rfl, hj⟩ := rng_at hv2
      refine W_tests_nil ?_
      refine W_ListComp (x := "v") (gls := []) (caps := []) ⟨rfl, rfl, by decide +kernel⟩ (hCC.mono (by first | exact fun _ h => h | decide | simp)) ?_
      repeat walk_at "st"
      refine ⟨Kp.type, W_range1 (fun rg3 hg σc ec => ?_)⟩
      have Xc : Ext [] σb σc := Ext.new_eq ec hg
      repeat walk_at "st"
      refine W_iter_range0 (at_upd ec) (by walk_at "le") (fun it4 hi σd ed => ?_)
      refine CompK_out (k := 0) (gs := []) (gls := []) (caps := []) ⟨rfl, rfl, by decide +kernel⟩ (hCC.mono (by first | exact fun _ h => h | decide | simp)) rfl (by first | decide | simp) hg2 hb2 (IterOf.range0 hh) IterSelf.range (by decide) 15 (fun j => tab j fun _ => iv 0) (fun _ => True) (fun _ _ _ _ => trivial) hi ed trivial rfl trivial
        (fun j hj => by rw [tab_len]; rw [List.length_map, List.length_range] at hj; walk_at "le") ?_ ?_
      · rintro C2 cenv2 j2 v3 σe hCE2 hCC2 hg3 hb3 _ hv3 Ye
        refine W_tests_nil ?_
        repeat walk_at "st"
        exact ⟨σe, rfl, Ext.refl, tab_succ⟩
      · intro D C2 vx σe _ Ye hD0 hD
        rw [List.length_map, List.length_range] at hD
        refine UseK.no ?_
        have Xe : Ext [] σb σe := Xc.trans Ye
        refine ⟨σe, rfl, Xe, q1.push ?_ Xe hD, hj⟩
        cases q : σb D with
        | none => rfl
        | some z => obtain ⟨kz, cz⟩ := z; have := Xc _ _ _ q List.not_mem_nil; rw [hD0] at this; cases this
    · rintro D C vx ys σb ⟨q1, q2⟩ Yb hD0 hD
      have hlr : (IV (List.range n)).length = n := by rw [List.length_map, List.length_range]
      obtain ⟨as, h1, h2⟩ := q1.lt hlr hD
      exact hQ' D C vx σb ⟨X10.trans Yb, as, h1, h2⟩
  have X210 := X29.trans X10
  refine hP9.nx _ ?_
  refine W_consG (fun PF hPF => ?_)
  refine W_For ?_
  repeat walk_at "st"
  have hR10 := hR.ext X210 (by decide) (by decide)
  have hla : (aas.map AV.ref).length = al.length := by rw [List.length_map, hR.len]
  refine ⟨Kp.builtin, W_len_list hR10.d (by rw [hla]; walk_at "le") (fun t12 => ?_)⟩
  rw [hla]
  repeat walk_at "st"
  refine ⟨Kp.type, W_range1 (fun rg2 h12 σ12 e12 => ?_)⟩
  have X12 : Ext [] σ10 σ12 := Ext.new_eq e12 h12
  have X02 := X210.trans X12
  repeat walk_at "st"
  refine W_iter_range0 (at_upd e12) (by walk_at "le") (fun it h13 σ13 e13 => ?_)
  refine Wk_loopg (IterOf.range0 (k := 0) hh) [1, 2, 6, 11, 13, 15] (by decide) (by decide) (fun i vv σ g' => TlJ c x ad nA n nm kv nv av lv as ls g al.length i vv σ g')
    (fun i vv σ σ' g' q e => by obtain ⟨wk, tn, pk, p, P, Es, st, q1, q2, q3, q4, q5, q6, q7⟩ := q; exact ⟨wk, tn, pk, p, P, Es, st, q1, q2.ext e (by decide) (by decide), q3, q4, q5.ext e (by decide) (by decide), e _ _ _ q6 (by decide), q7.ext e (by decide)⟩) h13 e13 trivial
    ⟨w0, none, none, none, PS.nil, [], _, rfl, .no (Nat.zero_le _) rfl, G0.nil, Pre.nil, S.ext X02 (by decide) (by decide), X12 _ _ _ (X10 _ _ _ (X9 _ _ _ (X8 _ _ _ kv7 List.not_mem_nil) List.not_mem_nil) List.not_mem_nil) List.not_mem_nil, (X9.trans (X10.trans X12)) _ _ _ hnv List.not_mem_nil, hav.ext (X10.trans X12) (by decide) (by decide), hlv.ext X12 (by decide) (by decide)⟩ ?_ ?_
  · rintro i v vv σ14 g14 u14 P14 E14 hP14 hE14 ⟨wk, tn, pk, p, P, Es, st, rfl, hwk, Gh, Pr, S14, hk14, K14⟩ hv eu _ Y14
    obtain ⟨rfl, hi⟩ := rng_at hv
    obtain ⟨tu, rfl⟩ := er_int eu
    have X014 : Ext [1, 2, 6, 11, 13, 15] σ σ14 := X02.nil.trans Y14
    have hR14 := hR.ext X014 (by decide) (by decide)
    have hnA14 := X014 _ _ _ hnA (by decide)
    obtain ⟨a0, ha0⟩ : ∃ a0, aas[i]? = some a0 := ⟨_, List.getElem?_eq_getElem (by rw [hR.len]; exact hi)⟩
    obtain ⟨l0, hl0⟩ : ∃ l0, al[i]? = some l0 := ⟨_, List.getElem?_eq_getElem hi⟩
    have hrow := hR14.row i a0 l0 ha0 hl0
    have hok := hal l0 (List.mem_of_getElem? hl0)
    obtain ⟨v0, l1, rfl⟩ : ∃ v0 l1, l0 = v0 :: l1 := by
      cases l0 with
      | nil => exact absurd hok.len.1 (by decide)
      | cons v0 l1 => exact ⟨v0, l1, rfl⟩
    refine W_assign_Name (W_storeName hE (by walk_at "set") ?_)
    refine W_consG fun P15 hP15 => ?_
    repeat walk_at "st"
    refine (W_itemM hR14.d ha0 (by rw [hR.len]; walk_at "le") ?_)
    iterate 2 walk_at "st"
    refine W_consG fun P16 hP16 => ?_
    refine W_cutN (MidJ c x ad nA n kv nv av lv g al.length i p a0 L cl fs σ14) (fun P' hP' => ?_) ?_
    · refine W_If ?_
      repeat walk_at "st"
      refine ⟨Kp.builtin, W_len_list hR14.d (by rw [hla]; walk_at "le") (fun t12 => ?_)⟩
      rw [hla]
      repeat walk_at "st"
      refine W_divN (j := 2) (by decide) (by decide) (fun t13 => ?_)
      repeat walk_at "st"
      rw [nat_beq]
      cases hmid : (i == al.length / 2) with
      | true =>
        have hie : i = al.length / 2 := beq_iff_eq.mp hmid
        have hg : g14 = g := by
          cases hwk with
          | no _ e => exact e
          | yes _ _ q _ _ => exact absurd q (by rw [hie]; exact Nat.lt_irrefl _)
        subst hg
        obtain ⟨dx, nd, rv, as', ep, S15⟩ := S14
        repeat walk_at "st"
        intro pl
        refine W_getMethod S15.x S15.dx (l.K ▸ bo_so.get) (l.K ▸ bo_so.find) (l.K ▸ bo_so.fn) (no_attr (by decide +kernel)) ?_
        repeat walk_at "st"
        refine ⟨Kp.inK (l.K ▸ keep_so), W_call (Wk_call_gen l.K gn_so (by kernel_rfl) (us := [.ref x]) rfl (.cons (.rest .nil)) (d := d) (hA'.vs.le (by walk_at "le")) (fun L2 G σ15 hne hn1 hn2 e15 hE2 => ?_))⟩
        dsimp only
        have hG : σ15 G = some (17, genC g14.size) := at_upd e15
        have hL2 : σ15 L2 = some (16, frC nsS [some (.ref x), none]) := (put_ne e15 hne).trans upd_self
        have X15 : Ext [] σ14 σ15 := fun y k cl q _ => by rw [put_ne e15 (ne_new q hn2), upd_ne (ne_new q hn1)]; exact q
        repeat walk_at "st"
        exact hP' _ ⟨G, σ15, _, rfl, X15, .yes L2 _ (by rw [hie]; exact Nat.lt_succ_self _) ⟨hG, hL2, hE2, by rfl, by rfl⟩ rfl⟩
      | false =>
        have hie : i ≠ al.length / 2 := beq_eq_false_iff_ne.mp hmid
        repeat walk_at "st"
        refine hP' _ ⟨wk, σ14, g14, rfl, Ext.refl, ?_⟩
        cases hwk with
        | no q e => exact .no (by walk_at "le") e
        | yes L2 env2 q q2 q3 => exact .yes L2 env2 (by walk_at "le") q2 q3
    · rintro a' ⟨wk2, σ16, g16, rfl, X16, hwk16⟩
      refine hP16.nx _ ?_
      have S16 := S14.ext X16 (by decide) (by decide)
      have hrow16 := X16 _ _ _ hrow List.not_mem_nil
      have hnA16 := X16 _ _ _ hnA14 List.not_mem_nil
      refine W_consG fun P17 hP17 => ?_
      obtain ⟨Es', G', R'⟩ := Gh.add N Pr (v := v0) (l := l1) (hok.lt v0 List.mem_cons_self) (fun w hw => hok.lt w (List.mem_cons_of_mem _ hw)) (by have := hok.len.2; rw [List.length_cons] at this; walk_at "le")
      refine W_cutN (fun a => ∃ σ19, a = ⟨⟨L, cl, nsT, tV x ad nA n wk2 kv nv av lv (some (iv i)) (some (.ref a0)) p⟩ :: fs, σ19, g16⟩ ∧ Ext [1, 2] σ16 σ19 ∧ SO σ19 x (st.add (nm v0) (l1.map nm))) (fun P' hP' => ?_) (fun a' pq => ?_)
      rotate_left
      · obtain ⟨σ19, rfl, X619, S19⟩ := pq
        have X419 : Ext [1, 2] σ14 σ19 := X16.nil.trans X619
        refine hP17.nx _ ?_
        refine tell_book (d := d) (hA'.vs.le (by walk_at "le")) hh hE hn (by walk_at "le") (hok.lt v0 List.mem_cons_self) (fun w hw => hok.lt w (List.mem_cons_of_mem _ hw)) (by have := hok.len.2; rw [List.length_cons] at this; walk_at "le") (Ph.known Gh) (fun q hq => Gh.after_len hq) (X419 _ _ _ hk14 (by decide)) (K14.ext X419 (by decide)) has hls (X619 _ _ _ hrow16 (by decide)) (fun p1 σ20 X20 hk20 K20 => ?_)
        have X1420 : Ext [1, 2, 6, 11, 13, 15] σ14 σ20 := (X419.mono (by decide)).trans (X20.mono (by decide))
        exact hP14.nx _ _ _ X1420 ⟨wk2, _, _, _, _, Es', _, rfl, hwk16.ext ((X619.mono (D := [1, 2, 6, 11, 13, 15]) (by decide)).trans (X20.mono (by decide))) (by decide) (by decide), G', R', S19.ext X20 (by decide) (by decide), hk20, K20⟩
      repeat walk_at "st"
      have hlt : ∀ v ∈ v0 :: l1, v ≤ m := fun v hv => by have := hok.lt v hv; lia
      refine W_ListComp (x := "v") (gls := []) (caps := ["names"]) ⟨rfl, rfl, by decide +kernel⟩ (hC.mono (by first | exact fun _ h => h | decide | simp)) ?_
      repeat walk_at "st"
      refine W_iter_list hrow16 (fun it2 h17 σ17 e17 => ?_)
      refine CompK_nm (n := m) ⟨rfl, rfl, by decide +kernel⟩ (hC.mono (by first | exact fun _ h => h | decide | simp)) hgl hbl hh (List.mem_cons_self ..) (by walk_at "var") hnd (by rw [← hnm]; exact hnA16) hrow16 (by decide) (Nat.le_trans hok.len.2 (by decide)) (by walk_at "le") hlt (fun i hi => (N.ko i (by walk_at "le")).1) h17 e17 (fun D C vx σ18 X18 _ hD => ?_)
      refine UseK.no ?_
      repeat walk_at "st"
      have S18 := S16.ext X18 (by decide) (by decide)
      have sane : Sane st := ⟨Gh.fit.mono (by walk_at "le"), Gh.closed, fun l hl => by rw [Pr.rd] at hl; cases hl⟩
      rw [List.map_cons] at hD
      refine ⟨Kp.inK (l.K ▸ keep_added), added_spec l (d := d) (hA'.vs.le (by walk_at "le")) S18 sane Pr.rd hD (fun w hw => ?_) (by rw [← List.map_cons, List.length_map]; exact Nat.le_trans hok.len.2 (by decide)) (fun σ19 X19 S19 => ?_)⟩
      · obtain ⟨i', hi', rfl⟩ := List.mem_map.mp (show w ∈ (v0 :: l1).map nm from hw)
        exact N.ko i' (Nat.le_of_lt (hok.lt i' hi'))
      repeat walk_at "st"
      exact hP' _ ⟨σ19, rfl, X18.nil.trans X19, S19⟩
  · rintro vv σ14 g14 ⟨wk, tn, pk, p, P, Es, st, rfl, hwk, Gh, Pr, S14, hk14, K14⟩ Y14
    rw [List.length_map, List.length_range] at hwk Gh
    cases hwk with
    | no q _ => exact absurd q (by walk_at "le")
    | yes L2 env2 _ Gd eg =>
      subst eg
      refine hPF.nx _ ?_
      repeat walk_at "st"
      refine W_newTuple 0 (Nat.le_of_ble_eq_true rfl) (fun r h15 σ15 e15 => ?_)
      have X15 : Ext [] σ14 σ15 := Ext.new_eq e15 h15
      repeat walk_at "st"
      exact h _ wk kv nv av lv as ls P Es st L2 env2 σ15 (at_upd e15) Gh Pr (S14.ext X15 (by decide) (by decide)) (X15 _ _ _ hk14 List.not_mem_nil) (K14.ext X15 (by decide)) (Gd.ext X15 (by decide) (by decide)) ((X02.nil.trans Y14).trans X15.nil)
end
end Mine.Internal
namespace Mine.Internal
open PySem PySem.W PyProof.Rows PySem.Calls
noncomputable abbrev nsG : List Str := ["known", "need", "last", "groups", "flat", "free"]
theorem fn_groups {w : World} : FnOk (KK w) 184 ["known", "need", "last"] ["groups", "flat", "free"] ["_law_free"] := ⟨rfl, rfl, rfl, rfl, rfl, rfl, rfl, rfl, rfl, by decide +kernel⟩
theorem IV_ko {l : List Nat} : ∀ v ∈ IV l, KO v := fun v hv => by
  obtain ⟨w, _, rfl⟩ := List.mem_map.mp hv; exact KO.int
inductive GrJ (n : Nat) (nm : Nat → AV) (Es : List Ed) (T : Nat) (P0 : PS) (gs : List (List Nat)) (L kv nv lv gr : Addr) (fs : List Frm) (g : Array GenState) (σ₀ : Addr → Option (Nat × Cell)) (m : Nat) (a : AS) : Prop
  | mk (a1 b : List (List Nat)) (fr : List Nat) (st : SS) (fl fe : Addr) (aas : List Addr) (σ : Addr → Option (Nat × Cell)) : a = ⟨⟨L, [], nsG, [some (.ref kv), some (.ref nv), some (.ref lv), some (.ref gr), some (.ref fl), some (.ref fe)]⟩ :: fs, σ, g⟩ → m = b.length → gs = a1 ++ b → Rds n nm Es T (P0.at a1.flatten a1.flatten) fr st b →
      RowsAt σ gr 7 0 aas a1 → σ fl = some (0, .list (IV a1.flatten)) → σ fe = some (0, .list (IV fr)) → Ext [5, 7] σ₀ σ → GrJ n nm Es T P0 gs L kv nv lv gr fs g σ₀ m a
section
variable {c : Cx} {A B : Around} {E X : Value → AS → Prop} {fs : List Frm} {σ : Addr → Option (Nat × Cell)} {g : Array GenState} {d : Nat} {env : Env} {L : Addr} {cl : List (Str × Addr)}
set_option maxHeartbeats 3000000 in
theorem groups_spec {kv nv av lv : Addr} {as ls : List Addr} {n T : Nat} {nm : Nat → AV} {Es : List Ed} {P0 : PS} {fr0 : List Nat} {st0 : SS} {gs : List (List Nat)} {Q : Value → AS → Prop} (l : Lv c) (hA : AOk A fs (d + 6)) (hn : n ≤ 60) (hP0 : P0.at [] [] = P0) (R0 : Rds n nm Es T P0 fr0 st0 gs)
    (hk : σ kv = some (6, .list (IV P0.known))) (K : LkAt σ nv av lv as ls n P0)
    (h : ∀ r gr fl aas σ', Ext [5, 7] σ σ' → σ' r = some (0, .tuple [.ref gr, .ref fl]) → RowsAt σ' gr 7 0 aas gs → σ' fl = some (0, .list (IV gs.flatten)) → Q (.ref r) ⟨fs, σ', g⟩) : W c A (call (.ref 184) [.ref kv, .ref nv, .ref lv]) Q E ⟨fs, σ, g⟩ := by
  refine W_call_G (d := d + 5) l.K (ns := nsG) (us := [.ref kv, .ref nv, .ref lv]) (gs := [("_law_free", .ref 144)]) fn_groups rfl (by kernel_rfl) rfl (.cons (.cons (.cons (.rest (.rest (.rest .nil)))))) (by simp [l.free]) hA (fun L env B P X hfr hh hL hA' hout hE hFx hUx => ?_)
  have hlen := R0.len
  refine W_consG (fun _ _ => ?_)
  repeat walk_at "st"
  refine W_newList 7 (Nat.zero_le _) (fun gr h1 σ1 e1 => ?_)
  have X1 : Ext [] σ σ1 := Ext.new_eq e1 h1
  repeat walk_at "st"
  refine W_newList 0 (Nat.zero_le _) (fun fl h2 σ2 e2 => ?_)
  have X2 : Ext [] σ1 σ2 := Ext.new_eq e2 h2
  have X02 := X1.trans X2
  -- a call of _law_free
  have hfree : ∀ {a1 b : List (List Nat)} {fr : List Nat} {st : SS} {fl : Addr} {σ3 : Addr → Option (Nat × Cell)} {vv : List (Option AV)} {Q' X' : Value → AS → Prop}, Rds n nm Es T (P0.at a1.flatten a1.flatten) fr st b → σ3 fl = some (0, .list (IV a1.flatten)) → Ext [5, 7] σ σ3 →
      (∀ r σ', Ext [5] σ3 σ' → σ' r = some (0, .list (IV fr)) → Q' (.ref r) ⟨⟨L, [], nsG, vv⟩ :: fs, σ', g⟩) → W c B (call (.ref 144) [.ref kv, .ref fl, .ref fl, .ref nv, .ref lv]) Q' X' ⟨⟨L, [], nsG, vv⟩ :: fs, σ3, g⟩ := by
    intro a1 b fr st fl σ3 vv Q' X' R hfl X3 hq
    have K3 := K.ext X3 (by decide)
    obtain ⟨G, Ro, _⟩ := R.g0
    have hl := R.len.1
    have hkn := Ph.known G
    rw [show (P0.at a1.flatten a1.flatten).given = a1.flatten from rfl] at hl
    have hlt : ∀ v ∈ a1.flatten, v < n := fun v hv => G.lt v (Ro.gsub v hv)
    exact free_spec l (d := d) (hA'.vs.le (by walk_at "le")) (X3 _ _ _ hk (by decide)) (by decide) hfl (by decide) hfl (by decide) K3.nv K3.lv hn G.lt (Nat.le_trans hkn hn) hlt (by walk_at "le") (by walk_at "le") (Ro.tot G) (Ro.sorted G) (fun r σ' X' hr => hq r σ' X' hr)
  repeat walk_at "st"
  refine ⟨Kp.inK (l.K ▸ keep_free), hfree (a1 := []) (by rw [List.flatten_nil, hP0]; exact R0) (at_upd e2) X02.nil (fun fe σ3 X3 hfe => ?_)⟩
  iterate 2 walk_at "st"
  refine W_consG (fun P1 hP1 => ?_)
  have hgr3 : RowsAt σ3 gr 7 0 [] [] := ⟨X3 _ _ _ (X2 _ _ _ (at_upd e1) List.not_mem_nil) (by decide), rfl, fun j p l a => nomatch a⟩
  refine W_WhileG (GrJ n nm Es T P0 gs L kv nv lv gr fs g σ) (fun m a P X4 hP hX hI => ?_) gs.length ⟨[], gs, fr0, st0, fl, fe, [], σ3, rfl, rfl, rfl, by rw [List.flatten_nil, hP0]; exact R0, hgr3, X3 _ _ _ (at_upd e2) (by decide), hfe, X02.nil.trans (X3.mono (by decide))⟩
  obtain ⟨a1, b, fr, st, fl, fe, aas, σ4, rfl, rfl, egs, R, hgr, hfl, hfe, X4⟩ := hI
  repeat walk_at "st"
  refine W_newList 9 (Nat.zero_le _) (fun e9 h5 σ5 e5 => ?_)
  have X5 : Ext [] σ4 σ5 := Ext.new_eq e5 h5
  refine W_neD hA' (.list (X5 _ _ _ hfe List.not_mem_nil) (KO.rds IV_ko)) (.list (at_upd e5) .nil) (KO.shL IV_ko).ok Sh.nil ?_
  rw [eqv_nil]
  repeat walk_at "st"
  have hgl := R.len
  rw [show (P0.at a1.flatten a1.flatten).given = a1.flatten from rfl] at hgl
  cases R with
  | stop G Ro _ =>
    repeat walk_at "st"
    refine W_newTuple 0 (Nat.le_of_ble_eq_true rfl) (fun r h6 σ6 e6 => ?_)
    have X6 : Ext [] σ5 σ6 := Ext.new_eq e6 h6
    have X46 := X5.trans X6
    repeat walk_at "st"
    rw [List.append_nil] at egs
    subst egs
    exact h _ gr fl aas σ6 (X4.trans X46.nil) (at_upd e6) (hgr.ext X46 (by decide) (by decide)) (X46 _ _ _ hfl List.not_mem_nil)
  | @step _ _ fr' _ b G Ro eg ne R' =>
    have hem : (List.map kd (IV fr)).isEmpty = false := by
      cases fr with
      | nil => exact absurd rfl ne
      | cons _ _ => rfl
    rw [hem]
    have hgr5 := hgr.ext X5 (by decide) (by decide)
    have haas : aas.length ≤ 60 := by
      have h1 := R0.len.2.1
      rw [egs, List.length_append] at h1
      rw [hgr.len]; lia
    repeat walk_at "st"
    intro pl
    refine W_meth_list F.slot_list_append F.type_list_append hgr5.d ?_
    repeat walk_at "st"
    refine ⟨Kp.builtin, W_append hgr5.d (by rw [List.length_map]; walk_at "le") (fun σ6 e6 => ?_)⟩
    have X6 : Ext [7] σ5 σ6 := Ext.own_eq e6 hgr5.d List.mem_cons_self
    have hgr6 := hgr5.push (X5 _ _ _ hfe List.not_mem_nil) (by decide) e6
    have X46 : Ext [7] σ4 σ6 := X5.nil.trans X6
    repeat walk_at "st"
    refine W_list_add 0 (X46 _ _ _ hfl (by decide)) (X46 _ _ _ hfe (by decide)) (by rw [List.length_map, List.length_map]; rw [List.flatten_cons, List.length_append] at hgl; walk_at "le") (fun fl2 h7 σ7 e7 => ?_)
    have X7 : Ext [] σ6 σ7 := Ext.new_eq e7 h7
    have ef : (a1 ++ [fr]).flatten = a1.flatten ++ fr := by rw [List.flatten_append, List.flatten_cons, List.flatten_nil, List.append_nil]
    have R2 : Rds n nm Es T (P0.at (a1 ++ [fr]).flatten (a1 ++ [fr]).flatten) fr' (rnd nm fr st) b := by rw [ef]; exact R'
    repeat walk_at "st"
    refine ⟨Kp.inK (l.K ▸ keep_free), hfree R2 (by rw [at_upd e7, ef, IV_app]) (X4.trans ((X46.mono (by decide)).trans X7.nil)) (fun fe2 σ8 X8 hfe2 => ?_)⟩
    have X48 : Ext [5, 7] σ4 σ8 := (X46.mono (by decide)).trans (X7.nil.trans (X8.mono (by decide)))
    repeat walk_at "st"
    exact hP.nx _ ⟨b.length, Nat.lt_succ_self _, a1 ++ [fr], b, fr', _, fl2, fe2, _, σ8, rfl, rfl, by rw [egs, List.append_assoc]; rfl, R2, (hgr6.ext X7 (by decide) (by decide)).ext X8 (by decide) (by decide), by rw [X8 _ _ _ (at_upd e7) (by decide), ef, IV_app], hfe2, X4.trans X48⟩
end
end Mine.Internal
namespace Mine.Internal
open PySem PySem.W PyProof.Rows PySem.Calls
noncomputable abbrev nsP : List Str := ["groups", "flat", "stop", "start", "group", "one"]
theorem fn_stopped {w : World} : FnOk (KK w) 191 ["groups", "flat", "stop"] ["start", "group", "one"] ["len"] := ⟨rfl, rfl, rfl, rfl, rfl, rfl, rfl, rfl, rfl, by decide +kernel⟩
noncomputable def SpI (gs : List (List Nat)) (stop i k : Nat) (f : List Nat) : Prop := (i = 0 ∧ k = 0 ∧ f = []) ∨ ∃ p q, gs.take i = p ++ f :: q ∧ k = p.flatten.length ∧ k ≤ stop ∧ (q ≠ [] → stop < k + f.length)
theorem SpI.go {gs : List (List Nat)} {stop i k : Nat} {f f' : List Nat} (h : SpI gs stop i k f) (hf : gs[i]? = some f') (hle : k + f.length ≤ stop) : SpI gs stop (i + 1) (k + f.length) f' := by
  have etk : gs.take (i + 1) = gs.take i ++ [f'] := take_snoc hf
  rcases h with ⟨rfl, rfl, rfl⟩ | ⟨p, q, h1, h2, h3, h4⟩
  · exact .inr ⟨[], [], by rw [etk]; rfl, rfl, Nat.zero_le _, fun z => absurd rfl z⟩
  · have hq : q = [] := by
      cases q with
      | nil => rfl
      | cons _ _ => exact absurd (h4 (List.cons_ne_nil _ _)) (Nat.not_lt.mpr hle)
    subst hq
    exact .inr ⟨p ++ [f], [], by rw [etk, h1], by rw [h2, List.flatten_append, List.length_append, List.flatten_cons, List.flatten_nil, List.append_nil], hle, fun z => absurd rfl z⟩
theorem SpI.stay {gs : List (List Nat)} {stop i k : Nat} {f f' : List Nat} (h : SpI gs stop i k f) (hf : gs[i]? = some f') (hle : ¬ k + f.length ≤ stop) : SpI gs stop (i + 1) k f := by
  have etk : gs.take (i + 1) = gs.take i ++ [f'] := take_snoc hf
  rcases h with ⟨rfl, rfl, rfl⟩ | ⟨p, q, h1, h2, h3, h4⟩
  · exact absurd (Nat.zero_le _) hle
  · exact .inr ⟨p, q ++ [f'], by rw [etk, h1, List.append_assoc]; rfl, h2, h3, fun _ => Nat.lt_of_not_le hle⟩
inductive SpJ (gs : List (List Nat)) (stop : Nat) (gr fl : Addr) (i : Nat) (vv : List (Option AV)) (σ : Addr → Option (Nat × Cell)) : Prop
  | mk (k : Nat) (f : List Nat) (G0 : Addr) (b : Option AV) : vv = [some (.ref gr), some (.ref fl), some (.int stop), some (iv k), some (.ref G0), b] → σ G0 = some (0, .list (IV f)) → f.length ≤ 60 → k ≤ 200 → SpI gs stop i k f → SpJ gs stop gr fl i vv σ
theorem SpJ.ext {gs : List (List Nat)} {stop : Nat} {gr fl : Addr} {i : Nat} {vv : List (Option AV)} {σ σ' : Addr → Option (Nat × Cell)} {C : List Nat} (h : SpJ gs stop gr fl i vv σ) (e : Ext C σ σ') (h0 : 0 ∉ C) : SpJ gs stop gr fl i vv σ' := by
  obtain ⟨k, f, G0, b, q1, q2, q3, q4, q5⟩ := h
  exact ⟨k, f, G0, b, q1, e _ _ _ q2 h0, q3, q4, q5⟩
section
variable {c : Cx} {A B : Around} {E X : Value → AS → Prop} {fs : List Frm} {σ : Addr → Option (Nat × Cell)} {g : Array GenState} {d : Nat} {env : Env} {L : Addr} {cl : List (Str × Addr)}
set_option maxHeartbeats 3000000 in
theorem stopped_spec {gr fl : Addr} {aas : List Addr} {gs : List (List Nat)} {stop : Nat} {t0 : Tok} {Q : Value → AS → Prop} (l : Lv c) (hA : AOk A fs (d + 1)) (hgr : RowsAt σ gr 7 0 aas gs) (hfl : σ fl = some (0, .list (IV gs.flatten))) (hz : gs.flatten.length ≤ 60) (hgz : gs.length ≤ 60) (hst : stop < gs.flatten.length)
    (h : ∀ r B1 B2 p q f σ', gs = p ++ f :: q → p.flatten.length ≤ stop → stop < p.flatten.length + f.length → Ext [] σ σ' → σ' r = some (0, .tuple [.ref B1, .ref B2]) → σ' B1 = some (0, .list (IV p.flatten)) → σ' B2 = some (0, .list (IV (p.flatten ++ f))) → Q (.ref r) ⟨fs, σ', g⟩) :
    W c A (call (.ref 191) [.ref gr, .ref fl, .int stop t0]) Q E ⟨fs, σ, g⟩ := by
  refine W_call_G (d := d) l.K (ns := nsP) (us := [.ref gr, .ref fl, .int stop]) (gs := [("len", .builtin "len")]) fn_stopped rfl (by kernel_rfl) rfl (.cons (.cons (.cons (.rest (.rest (.rest .nil)))))) (by simp [l.len]) hA (fun L env B P X hfr hh hL hA' hout hE hFx hUx => ?_)
  refine W_consG (fun _ _ => ?_)
  repeat walk_at "st"
  refine W_newList 0 (Nat.zero_le _) (fun G0 h1 σ1 e1 => ?_)
  have X1 : Ext [] σ σ1 := Ext.new_eq e1 h1
  iterate 2 walk_at "st"
  refine W_consG (fun PF hPF => ?_)
  refine W_For ?_
  repeat walk_at "st"
  have hgr1 := hgr.ext X1 (by decide) (by decide)
  refine W_iter_list hgr1.d (fun it h2 σ2 e2 => ?_)
  have hla : (aas.map AV.ref).length = gs.length := by rw [List.length_map, hgr.len]
  have fle : ∀ {f : List Nat}, f ∈ gs → f.length ≤ 60 := fun {f} hf => by
    obtain ⟨p, q, rfl⟩ := List.append_of_mem hf
    rw [List.flatten_append, List.flatten_cons, List.length_append, List.length_append] at hz; lia
  refine Wk_loopG (IterOf.list (k := 7) hh) [] (by decide) (by decide) (fun i vv σ => SpJ gs stop gr fl i vv σ) (fun i vv σ σ' q e => q.ext e (by decide)) h2 e2 ((put_ne e2 (ne_new hgr1.d h2)).trans hgr1.d) ⟨0, [], G0, none, rfl, at_upd e1, Nat.zero_le _, Nat.zero_le _, .inl ⟨rfl, rfl, rfl⟩⟩ ?_ ?_
  · rintro i v vv σ3 u3 P3 E3 hP3 hE3 hJ hv eu _ Y3
    obtain ⟨a0, ha0, rfl⟩ := map_some_of ((List.getElem?_map ..).symm.trans hv)
    obtain rfl := er_ref eu
    have hi : i < gs.length := by rw [← hgr.len]; exact (List.getElem?_eq_some_iff.mp ha0).1
    have hone : gs[i]? = some gs[i] := List.getElem?_eq_getElem hi
    have hrow := Y3 _ _ _ (hgr1.row i a0 _ ha0 hone) List.not_mem_nil
    obtain ⟨k, f, G1, b, rfl, hG1, hfl1, hk1, hI⟩ := hJ
    have hone60 := fle (List.mem_of_getElem? hone)
    refine W_assign_Name (W_storeName hE (by walk_at "set") ?_)
    refine W_consG fun P4 hP4 => ?_
    refine W_If ?_
    repeat walk_at "st"
    refine ⟨Kp.builtin, W_len_list hG1 (by rw [List.length_map]; walk_at "le") (fun t4 => ?_)⟩
    rw [List.length_map]
    repeat walk_at "st"
    rw [show decide ((k : Int) + (f.length : Int) ≤ (stop : Int)) = decide (k + f.length ≤ stop) from by rw [Bool.eq_iff_iff, decide_eq_true_iff, decide_eq_true_iff, ← Int.natCast_add]; exact Int.ofNat_le]
    by_cases hle : k + f.length ≤ stop
    · rw [decide_eq_true hle]
      repeat walk_at "st"
      refine ⟨Kp.builtin, W_len_list hG1 (by rw [List.length_map]; walk_at "le") (fun t4 => ?_)⟩
      rw [List.length_map]
      repeat walk_at "st"
      rw [← Int.natCast_add]
      exact hP3.nx _ σ3 Ext.refl ⟨k + f.length, gs[i], a0, _, rfl, hrow, hone60, by lia, hI.go hone hle⟩
    · rw [decide_eq_false hle]
      repeat walk_at "st"
      exact hP3.nx _ σ3 Ext.refl ⟨k, f, G1, _, rfl, hG1, hfl1, hk1, hI.stay hone hle⟩
  · rintro vv σ3 ⟨k, f, G1, b, rfl, hG1, hfl1, hk1, hI⟩ Y3
    rw [hla] at hI
    have hfl3 := Y3 _ _ _ (X1 _ _ _ hfl List.not_mem_nil) List.not_mem_nil
    have hzl : (IV gs.flatten).length ≤ 1000000 := by rw [List.length_map]; lia
    rcases hI with ⟨h0, _, _⟩ | ⟨p, q, h1, h2, h3, h4⟩
    · rw [List.length_eq_zero_iff.mp h0] at hst; exact absurd hst (Nat.not_lt_zero _)
    rw [List.take_length] at h1
    have hlt : stop < p.flatten.length + f.length := by
      cases q with
      | nil => rw [h1, List.flatten_append, List.flatten_cons, List.flatten_nil, List.append_nil, List.length_append] at hst; exact hst
      | cons _ _ => rw [← h2]; exact h4 (List.cons_ne_nil _ _)
    have ef : gs.flatten = p.flatten ++ (f ++ q.flatten) := by rw [h1, List.flatten_append, List.flatten_cons]
    refine hPF.nx _ ?_
    repeat walk_at "st"
    refine SlAt.up (slOwn hfl3) hzl (Int.natCast_nonneg _) fun D4 h4' σ4 e4 => ?_
    have X4 : Ext [] σ3 σ4 := Ext.new_eq e4 h4'
    have hD4 : σ4 D4 = some (0, .list (IV p.flatten)) := by
      rw [at_upd e4, Int.toNat_natCast, ← List.map_take, ef, h2, List.take_left]
    repeat walk_at "st"
    refine ⟨Kp.builtin, W_len_list (X4 _ _ _ hG1 List.not_mem_nil) (by rw [List.length_map]; walk_at "le") (fun t4 => ?_)⟩
    rw [List.length_map]
    repeat walk_at "st"
    rw [← Int.natCast_add]
    refine SlAt.up (slOwn (X4 _ _ _ hfl3 List.not_mem_nil)) hzl (Int.natCast_nonneg _) fun D5 h5 σ5 e5 => ?_
    have X5 : Ext [] σ4 σ5 := Ext.new_eq e5 h5
    have hD5 : σ5 D5 = some (0, .list (IV (p.flatten ++ f))) := by
      rw [at_upd e5, Int.toNat_natCast, ← List.map_take, ef, h2, ← List.append_assoc, ← List.length_append, List.take_left]
    repeat walk_at "st"
    refine W_newTuple 0 (Nat.le_of_ble_eq_true rfl) (fun r h6 σ6 e6 => ?_)
    have X6 : Ext [] σ5 σ6 := Ext.new_eq e6 h6
    repeat walk_at "st"
    exact h _ D4 D5 p q f σ6 h1 (h2 ▸ h3) hlt (X1.trans (Y3.trans (X4.trans (X5.trans X6)))) (at_upd e6) (X6 _ _ _ (X5 _ _ _ hD4 List.not_mem_nil) List.not_mem_nil) (X6 _ _ _ hD5 List.not_mem_nil)
end
end Mine.Internal
namespace Mine.Internal
open PySem PySem.W PyProof.Rows PySem.Calls
noncomputable abbrev nsX : List Str := ["sorter", "names", "given", "finished", "known", "need", "last", "turn", "waiting", "free"]
noncomputable abbrev gsX : List (Str × Value) := [("range", .type "range"), ("len", .builtin "len"), ("_law_free", .ref 144), ("tuple", .type "tuple")]
theorem fn_rest {w : World} : FnOkC (KK w) 196 [("sorter", false), ("names", true), ("given", false), ("finished", true), ("known", false), ("need", false), ("last", false), ("turn", false), ("waiting", false), ("free", false)] ["range", "len", "_law_free", "tuple"] := ⟨rfl, rfl, rfl, rfl, rfl, rfl, rfl, rfl, rfl, rfl, by decide +kernel⟩
@[reducible] noncomputable def rV (x nA gv fv kv nv lv : Addr) (tn wt fe : Option AV) : List (Option AV) := [some (.ref x), some (.ref nA), some (.ref gv), some (.ref fv), some (.ref kv), some (.ref nv), some (.ref lv), tn, wt, fe]
noncomputable def waitN (gi fi : List Nat) : List Nat := gi.filter fun v => decide (v ∉ fi)
theorem wait_len {gi fi : List Nat} (hg : gi.Nodup) (hf : fi.Nodup) (hs : ∀ v ∈ fi, v ∈ gi) : gi.length = fi.length + (waitN gi fi).length := by
  have hw : ∀ v, v ∈ waitN gi fi ↔ v ∈ gi ∧ v ∉ fi := fun v => by
    unfold waitN
    rw [List.mem_filter]
    exact ⟨fun h => ⟨h.1, of_decide_eq_true h.2⟩, fun h => ⟨h.1, decide_eq_true h.2⟩⟩
  have nd : (fi ++ waitN gi fi).Nodup := List.nodup_append.mpr ⟨hf, hg.filter _, fun a ha b hb e => ((hw b).mp hb).2 (e ▸ ha)⟩
  have h1 := nodup_le hg (os := fi ++ waitN gi fi) fun v hv => by
    by_cases h : v ∈ fi
    · exact List.mem_append_left _ h
    · exact List.mem_append_right _ ((hw v).mpr ⟨hv, h⟩)
  have h2 := nodup_le nd (os := gi) fun v hv => by
    rcases List.mem_append.mp hv with h | h
    · exact hs v h
    · exact ((hw v).mp h).1
  rw [List.length_append] at h1 h2
  exact Nat.le_antisymm h1 h2
inductive RtJ (n : Nat) (nm : Nat → AV) (Es : List Ed) (T : Nat) (P0 : PS) (x nA kv nv lv : Addr) (vv : List (Option AV)) (σ : Addr → Option (Nat × Cell)) : Prop
  | mk (gv fv : Addr) (tn wt fe : Option AV) (gi fi fr : List Nat) (st : SS) : vv = rV x nA gv fv kv nv lv tn wt fe → σ gv = some (0, .list (IV gi)) → σ fv = some (0, .list (IV fi)) → G0 n nm (P0.at gi fi) Es T st → Post n nm (P0.at gi fi) Es fr st → SO σ x st → RtJ n nm Es T P0 x nA kv nv lv vv σ
section
variable {c : Cx} {A B : Around} {E X : Value → AS → Prop} {fs : List Frm} {σ : Addr → Option (Nat × Cell)} {g : Array GenState} {d : Nat} {env : Env} {L : Addr} {cl : List (Str × Addr)}
set_option maxHeartbeats 3000000 in
theorem rest_spec {x nA gv fv kv nv av lv : Addr} {as ls : List Addr} {n m T : Nat} {nm : Nat → AV} {Es : List Ed} {P0 : PS} {gi fi fr : List Nat} {st : SS} {Q : Value → AS → Prop} (l : Lv c) (hA : AOk A fs (d + 12)) (N : NmOk n nm) (hnm : n = m + 1) (hn : n ≤ 60) (hT : T ≤ 400)
    (hnA : σ nA = some (0, .list (tab n nm))) (hgv : σ gv = some (0, .list (IV gi))) (hfv : σ fv = some (0, .list (IV fi))) (hk : σ kv = some (6, .list (IV P0.known))) (K : LkAt σ nv av lv as ls n P0) (Gh : G0 n nm (P0.at gi fi) Es T st) (R : Post n nm (P0.at gi fi) Es fr st) (S : SO σ x st)
    (h : ∀ σ', Q (.bool true) ⟨fs, σ', g⟩) : W c A (call (.ref 196) [.ref x, .ref nA, .ref gv, .ref fv, .ref kv, .ref nv, .ref lv]) Q E ⟨fs, σ, g⟩ := by
  refine W_call_GC (d := d + 11) l.K (ps := ["sorter", "names", "given", "finished", "known", "need", "last"]) (rs := ["turn", "waiting", "free"]) (ns := nsX) (us := [.ref x, .ref nA, .ref gv, .ref fv, .ref kv, .ref nv, .ref lv]) (gs := gsX)
    fn_rest rfl rfl (by kernel_rfl) rfl (.cons (.cons (.cons (.cons (.cons (.cons (.cons (.rest (.rest (.rest .nil)))))))))) (by simp [l.range, l.len, l.free, l.tuple]) hA (fun L cl env B P X hgl hbl hfr hh hL hA' hout hE hC hFx hUx => ?_)
  have hnd := hE.nd
  refine W_consG (fun PF hPF => ?_)
  refine W_For ?_
  repeat walk_at "st"
  refine ⟨Kp.builtin, W_len_list hnA (by rw [tab_len]; walk_at "le") (fun t1 => ?_)⟩
  rw [tab_len]
  repeat walk_at "st"
  refine ⟨Kp.type, W_range1 (fun rg2 h2 σ2 e2 => ?_)⟩
  have X2 : Ext [] σ σ2 := Ext.new_eq e2 h2
  repeat walk_at "st"
  refine W_iter_range0 (n := n + 1) (at_upd e2) (by walk_at "le") (fun it h3 σ3 e3 => ?_)
  refine Wk_loopG (IterOf.range0 (k := 0) hh) [1, 5] (by decide) (by decide) (fun i vv σ => RtJ n nm Es T P0 x nA kv nv lv vv σ)
    (fun i vv σ σ' q e => by obtain ⟨gv, fv, tn, wt, fe, gi, fi, fr, st, q1, q2, q3, q4, q5, q6⟩ := q; exact ⟨gv, fv, tn, wt, fe, gi, fi, fr, st, q1, e _ _ _ q2 (by decide), e _ _ _ q3 (by decide), q4, q5, q6.ext e (by decide) (by decide)⟩) h3 e3 trivial
    ⟨gv, fv, none, none, none, gi, fi, fr, st, rfl, X2 _ _ _ hgv List.not_mem_nil, X2 _ _ _ hfv List.not_mem_nil, Gh, R, S.ext X2 (by decide) (by decide)⟩ ?_ ?_
  · clear hgv hfv Gh R S
    rintro i v vv σ4 u4 P4 E4 hP4 hE4 ⟨gv, fv, tn, wt, fe, gi, fi, fr, st, rfl, hgv, hfv, Gh, R, S⟩ hv eu _ Y4
    obtain ⟨rfl, hi⟩ := rng_at hv
    obtain ⟨tu, rfl⟩ := er_int eu
    have X04 : Ext [1, 5] σ σ4 := X2.nil.trans Y4
    have hnA4 := X04 _ _ _ hnA (by decide)
    have hk4 := X04 _ _ _ hk (by decide)
    have K4 := K.ext X04 (by decide)
    have hgil : gi.length ≤ n := Nat.le_trans (nodup_le R.gnd R.gsub) (Ph.known Gh)
    have hfil : fi.length ≤ n := Nat.le_trans (nodup_le R.fnd fun v hv => R.gsub v (R.fsub v hv)) (Ph.known Gh)
    have hgin : ∀ v ∈ gi, v < n := fun v hv => Gh.lt v (R.gsub v hv)
    refine W_assign_Name (W_storeName hE (by walk_at "set") ?_)
    refine W_consG fun P5 hP5 => ?_
    refine W_AssignComp (x := "v") (gls := []) (caps := ["finished"]) (vs' := fun D => rV x nA gv fv kv nv lv (some (iv i)) (some (.ref D)) fe)
      (P := fun D σ' => Ext [] σ4 σ' ∧ σ' D = some (0, .list (IV (waitN gi fi)))) ⟨rfl, rfl, by decide +kernel⟩ (hC.mono (by first | exact fun _ h => h | decide | simp)) hE (fun D => by walk_at "set") (fun use Q' hQ' => ?_) (fun D σ5 pz25 => pz25.elim fun X5 hD => ?_)
    · repeat walk_at "st"
      refine W_iter_list hgv (fun it h2 σ5 e2 => ?_)
      have fsn : ∀ {j w : Nat}, gi[j]? = some w → (gi.take (j + 1)).filter (fun v => decide (v ∉ fi)) = (gi.take j).filter (fun v => decide (v ∉ fi)) ++ if decide (w ∉ fi) = true then [w] else [] := fun hw => by
        rw [take_snoc hw, List.filter_append, List.filter_cons]; rfl
      refine CompK_out (k := 0) (gs := []) (gls := []) (caps := ["finished"]) ⟨rfl, rfl, by decide +kernel⟩ (hC.mono (by first | exact fun _ h => h | decide | simp)) rfl (by first | decide | simp) hgl hbl (IterOf.list hh) IterSelf.list (by decide) 0 (fun j => IV ((gi.take j).filter (fun v => decide (v ∉ fi)))) (fun σ => σ fv = some (0, .list (IV fi))) (fun _ _ q e => e _ _ _ q (by decide)) h2 e2 ((put_ne e2 (ne_new hgv h2)).trans hgv) rfl hfv
        (fun j _ => by rw [List.length_map]; exact Nat.le_trans (List.length_filter_le ..) (Nat.le_trans (List.length_take_le' ..) (by walk_at "le"))) ?_ ?_
      · intro C cenv j v2 σ6 hCE hCC hg2 hb2 hf3 hv2 Y3
        obtain ⟨w, rfl, hw⟩ := IV_at hv2
        refine W_tests_one ?_
        repeat walk_at "st"
        refine W_notin_list hf3 (by rfl) IV_key ?_
        repeat walk_at "st"
        by_cases hm : w ∈ fi
        · rw [decide_eq_true (iv_mem.mpr hm)]
          exact ite_f Bool.false_ne_true ⟨σ6, rfl, Ext.refl, by rw [fsn hw, if_neg (fun q => (of_decide_eq_true q : w ∉ fi) hm), List.append_nil]⟩
        · rw [decide_eq_false (fun q => hm (iv_mem.mp q))]
          refine ite_t rfl (W_Name hCE .here ?_)
          intro tz
          exact ⟨σ6, rfl, Ext.refl, by rw [fsn hw, if_pos (decide_eq_true hm)]; exact IV_app⟩
      · intro D C vx σ6 _ Y3 _ hD
        rw [show (IV gi).length = gi.length from List.length_map .., List.take_length] at hD
        exact hQ' D C vx σ6 ⟨Y3, hD⟩
    refine hP5.nx _ ?_
    refine W_consG fun P6 hP6 => ?_
    repeat walk_at "st"
    have hww : ∀ v ∈ waitN gi fi, v ∈ gi ∧ v ∉ fi := fun v hv => by
      have := List.mem_filter.mp hv
      exact ⟨this.1, of_decide_eq_true this.2⟩
    have hwl : (waitN gi fi).length ≤ 60 := Nat.le_trans (List.length_filter_le ..) (Nat.le_trans hgil hn)
    have hnA5 := X5 _ _ _ hnA4 List.not_mem_nil
    have sane := R.sane Gh hn hT
    obtain ⟨fr3, G3, R3, good⟩ := fin_all N Gh R (ps := waitN gi fi) (R.gnd.filter _) (fun v hv => (hww v hv).1) (fun v hv => (hww v hv).2) _ (Nat.le_refl _)
    rw [List.take_length] at G3 R3
    obtain ⟨dx, nd, rv, as', ep, S5⟩ := S.ext X5 (by decide) (by decide)
    refine W_Call_methodS ?_
    repeat walk_at "st"
    refine W_getBound S5.x S5.dx (l.K ▸ bo_done) (no_attr (by decide +kernel)) (fun m6 h6 σ6 e6 => ?_)
    have X6 : Ext [] σ5 σ6 := Ext.new_eq e6 h6
    obtain ⟨od, ho1, ho2⟩ := fdOf_ex (K := KK c.w) fn_done.fn
    refine W_callWith (W_args_star ?_)
    refine W_ListComp (x := "v") (gls := []) (caps := ["names"]) ⟨rfl, rfl, by decide +kernel⟩ (hC.mono (by first | exact fun _ h => h | decide | simp)) ?_
    repeat walk_at "st"
    have hD6 := X6 _ _ _ hD List.not_mem_nil
    refine W_iter_list hD6 (fun it2 h7 σ7 e7 => ?_)
    refine CompK_nm (n := m) ⟨rfl, rfl, by decide +kernel⟩ (hC.mono (by first | exact fun _ h => h | decide | simp)) hgl hbl hh (List.mem_cons_self ..) (by walk_at "var") hnd (by rw [← hnm]; exact X6 _ _ _ hnA5 List.not_mem_nil) hD6 (by decide) (Nat.le_trans hwl (by decide)) (by walk_at "le") (fun v hv => by have := hgin v (hww v hv).1; walk_at "le") (fun i hi => (N.ko i (by walk_at "le")).1) h7 e7 (fun D2 C vx σ8 X8 _ hD2 => ?_)
    refine UseK.no ?_
    have X58 := X6.trans X8
    refine ⟨D2, _, rfl, ⟨0, .inl hD2⟩, by rw [List.length_map]; lia, fun us hus => ⟨Kp.bound (X8 _ _ _ (at_upd e6) List.not_mem_nil) (l.K ▸ ho1) ho2, W_call (Wk_bound (X8 _ _ _ (at_upd e6) List.not_mem_nil) ?_)⟩⟩
    refine done_spec l.toLw (d := d) (N := 2000) (m := ((waitN gi fi).map nm).length) (hA'.vs.le (by walk_at "le")) (S5.ext X58 (by decide) (by decide)) (by rw [R.rd]; rfl) sane.fit.su ?_ (by rw [List.length_map]; walk_at "le") hus (fun k hk => ?_) sane.su (Nat.le_refl _) (fun i k hi hk => good i k (by rw [List.length_map] at hi; exact hi) hk) (fun k hk => by rw [List.getElem?_eq_none (Nat.le_refl _)] at hk; cases hk) (fun σ9 em X9 S9 => ?_)
    · have := (sane.rd _ R.rd).2
      unfold SS.rl
      rw [R.rd]
      show (fr.map nm).length + _ ≤ _
      rw [List.length_map (as := waitN gi fi)]
      lia
    · obtain ⟨w, hw, rfl⟩ := List.mem_map.mp hk
      have := N.ko w (Nat.le_of_lt (hgin w (hww w hw).1))
      exact ⟨this.1.key, this.2⟩
    have X59 : Ext [1] σ5 σ9 := X58.nil.trans X9
    have X49 : Ext [1] σ4 σ9 := X5.nil.trans X59
    dsimp only
    repeat walk_at "st"
    refine W_list_add 0 (X49 _ _ _ hfv (by decide)) (X59 _ _ _ hD (by decide)) (by rw [List.length_map, List.length_map]; walk_at "le") (fun fv2 h10 σ10 e10 => ?_)
    have X10 : Ext [] σ9 σ10 := Ext.new_eq e10 h10
    have hfv2 : σ10 fv2 = some (0, .list (IV (fi ++ waitN gi fi))) := by rw [at_upd e10, IV_app]
    have X410 : Ext [1] σ4 σ10 := X49.trans X10.nil
    have K10 := K4.ext X410 (by decide)
    have hkn := Ph.known G3
    have hfl2 : (fi ++ waitN gi fi).length ≤ n := Nat.le_trans (nodup_le R3.fnd fun v hv => R3.gsub v (R3.fsub v hv)) (Ph.known G3)
    repeat walk_at "st"
    refine ⟨Kp.inK (l.K ▸ keep_free), free_spec l (d := d) (hA'.vs.le (by walk_at "le")) (X410 _ _ _ hk4 (by decide)) (by decide) (X410 _ _ _ hgv (by decide)) (by decide) hfv2 (by decide) K10.nv K10.lv hn G3.lt (Nat.le_trans hkn hn) (fun v hv => G3.lt v (R3.gsub v (R3.fsub v hv))) (by walk_at "le") (by walk_at "le") (R3.tot G3) (R3.sorted G3) (fun fe2 σ11 X11 hfe2 => ?_)⟩
    repeat walk_at "st"
    intro pl
    have S11 := (S9.ext X10 (by decide) (by decide)).ext X11 (by decide) (by decide)
    have sane3 := R3.sane G3 hn hT
    obtain ⟨rk3, rz3⟩ := sane3.rd _ R3.rd
    refine W_getMethod S11.x S11.dx (l.K ▸ bo_ready.get) (l.K ▸ bo_ready.find) (l.K ▸ bo_ready.fn) (no_attr (by decide +kernel)) ?_
    repeat walk_at "st"
    refine ⟨Kp.inK (l.K ▸ keep_ready), get_ready_spec l.toLw (d := d) (hA'.vs.le (by walk_at "le")) S11 R3.rd rk3 (Nat.le_trans rz3 (by decide)) (fun t12 σ12 h12 X12 ht12 S12 => ?_)⟩
    have G4 := G3.get (fr := fr3) (fr3.map nm)
    have R4 := R3.get N G3
    have hfr3 : ∀ v ∈ fr3, v < n := (frd G3 R3).2
    have hfr3l : fr3.length ≤ 60 := Nat.le_trans (nodup_le R3.frn fun v hv => ((frd G3 R3).1 v hv).1) (Nat.le_trans hkn hn)
    have X1112 : Ext [1] σ11 σ12 := X12
    have X412 : Ext [1, 5] σ4 σ12 := (X410.mono (by decide)).trans ((X11.mono (by decide)).trans (X12.mono (by decide)))
    have hfe12 := X12 _ _ _ hfe2 (by decide)
    repeat walk_at "st"
    refine W_ListComp (x := "v") (gls := []) (caps := ["names"]) ⟨rfl, rfl, by decide +kernel⟩ (hC.mono (by first | exact fun _ h => h | decide | simp)) ?_
    repeat walk_at "st"
    refine W_iter_list hfe12 (fun it3 h13 σ13 e13 => ?_)
    refine CompK_nm (n := m) ⟨rfl, rfl, by decide +kernel⟩ (hC.mono (by first | exact fun _ h => h | decide | simp)) hgl hbl hh (List.mem_cons_self ..) (by walk_at "var") hnd (by rw [← hnm]; exact X412 _ _ _ hnA4 (by decide)) hfe12 (by decide) (Nat.le_trans hfr3l (by decide)) (by walk_at "le") (fun v hv => by have := hfr3 v hv; walk_at "le") (fun i hi => (N.ko i (by walk_at "le")).1) h13 e13 (fun D3 C vx σ14 X14 _ hD3 => ?_)
    refine UseK.no ?_
    repeat walk_at "st"
    refine ⟨Kp.type, W_tuple_list 0 hD3 (by rw [List.length_map]; walk_at "le") (fun t15 h15 σ15 e15 => ?_)⟩
    have X15 : Ext [] σ14 σ15 := Ext.new_eq e15 h15
    have X1215 := X14.trans X15
    have hko : ∀ v ∈ fr3.map nm, KO v := fun v hv => by
      obtain ⟨w, hw, rfl⟩ := List.mem_map.mp hv
      exact (N.ko w (Nat.le_of_lt (hfr3 w hw))).1
    repeat walk_at "st"
    have hsh : Sh 1 (.tuple ((fr3.map nm).map kd)) := Sh.tuple fun e he => by
      obtain ⟨w, hw, rfl⟩ := List.mem_map.mp he
      exact (hko w hw).sh
    refine W_neD hA' (.tuple (X1215 _ _ _ ht12 List.not_mem_nil) (KO.rds hko)) (.tuple (at_upd e15) (KO.rds hko)) hsh.ok hsh.ok ?_
    rw [eqv_self hsh]
    repeat walk_at "st"
    have X415 : Ext [1, 5] σ4 σ15 := X412.trans X1215.nil
    refine W_list_add 0 (X415 _ _ _ hgv (by decide)) (X1215 _ _ _ hfe12 List.not_mem_nil) (by rw [List.length_map, List.length_map]; walk_at "le") (fun gv2 h16 σ16 e16 => ?_)
    have X16 : Ext [] σ15 σ16 := Ext.new_eq e16 h16
    have X1216 := X1215.trans X16
    have hgv2 : σ16 gv2 = some (0, .list (IV (gi ++ fr3))) := by rw [at_upd e16, IV_app]
    have S16 := S12.ext X1216 (by decide) (by decide)
    repeat walk_at "st"
    intro pl3
    refine W_getMethod S16.x S16.dx (l.K ▸ bo_active.get) (l.K ▸ bo_active.find) (l.K ▸ bo_active.fn) (no_attr (by decide +kernel)) ?_
    repeat walk_at "st"
    refine ⟨Kp.inK (l.K ▸ keep_active), is_active_spec l.toLw (d := d) (hA'.vs.le (by walk_at "le")) S16 R4.rd (Nat.zero_le _) ?_⟩
    have hwt := wait_len R.gnd R.fnd R.fsub
    have hact : (decide (((st.done ((waitN gi fi).map nm)).getReady (fr3.map nm)).nfin < ((st.done ((waitN gi fi).map nm)).getReady (fr3.map nm)).npass) || !(([] : List Nat).map nm).isEmpty) = !fr3.isEmpty := by
      rw [R4.pass, R4.fin]
      show (decide (((fi ++ waitN gi fi).length : Int) < (((gi ++ fr3).length : Nat) : Int)) || !(([] : List AV).isEmpty)) = !fr3.isEmpty
      rw [List.length_append, List.length_append]
      cases fr3 with
      | nil => rw [decide_eq_false (by rw [List.length_nil]; have : gi.length = fi.length + (waitN gi fi).length := hwt; walk_at "le")]; rfl
      | cons w ws => rw [decide_eq_true (by rw [List.length_cons]; have : gi.length = fi.length + (waitN gi fi).length := hwt; walk_at "le")]; rfl
    rw [hact]
    repeat walk_at "st"
    refine W_newList 9 (Nat.zero_le _) (fun e17' h17 σ17 e17 => ?_)
    have X17 : Ext [] σ16 σ17 := Ext.new_eq e17 h17
    refine W_neD hA' (.list (X17 _ _ _ (X1216 _ _ _ hfe12 List.not_mem_nil) List.not_mem_nil) (KO.rds IV_ko)) (.list (at_upd e17) .nil) (KO.shL IV_ko).ok Sh.nil ?_
    rw [eqv_nil]
    repeat walk_at "st"
    refine W_isnot_bool ?_
    have hem : (List.map kd (IV fr3)).isEmpty = fr3.isEmpty := by cases fr3 <;> rfl
    rw [hem]
    have hbb : (!((!fr3.isEmpty) == (!fr3.isEmpty))) = false := by cases fr3.isEmpty <;> rfl
    rw [hbb]
    repeat walk_at "st"
    exact hP4.nx _ σ17 (X412.trans ((X1216.trans X17).nil)) ⟨gv2, fv2, _, _, _, gi ++ fr3, fi ++ waitN gi fi, [], _, rfl, X17 _ _ _ hgv2 List.not_mem_nil, (X1216.trans X17) _ _ _ (X12 _ _ _ (X11 _ _ _ hfv2 (by decide)) (by decide)) List.not_mem_nil, G4, R4, ⟨_, _, _, _, _, S16.ext X17 (by decide) (by decide)⟩⟩
  · rintro vv σ4 ⟨gv, fv, tn, wt, fe, gi, fi, fr, st, rfl, hgv, hfv, Gh, R, S⟩ Y4
    refine hPF.nx _ ?_
    repeat walk_at "st"
    exact h _
end
end Mine.Internal
namespace Mine.Internal
open PySem PySem.W PyProof.Rows PySem.Calls
noncomputable def nl9 : List AV := [.int 0, .str "0", .int (-1), .str "", .int 7, .str "a", .int 2, .str "b", .str "never"]
noncomputable def nmL (i : Nat) : AV := nl9.getD i .none
theorem nmL_tab : ∀ n, n < 9 → tab n nmL = ([.int 0, .str "0", .int (-1), .str "", .int 7, .str "a", .int 2, .str "b"] : List AV).take n := by decide +kernel
theorem nmL_inj : ∀ i, i < 9 → ∀ j, j < 9 → nmL i = nmL j → i = j := by decide +kernel
theorem nmL_all : ∀ v ∈ nl9, KO v ∧ RpOk v := by
  have S : ∀ {x : Str}, PyData.strOk x = true → (reprText x).length ≤ 1000 → KO (.str x) ∧ RpOk (.str x) := fun h1 h2 => ⟨⟨rfl, ⟨h1, Nat.le_refl 0⟩⟩, h2⟩
  have I : ∀ {i : Int}, i.natAbs.log2 < 1000 → KO (.int i) ∧ RpOk (.int i) := fun h => ⟨KO.int, h⟩
  exact List.forall_mem_cons.mpr ⟨I (by decide), List.forall_mem_cons.mpr ⟨S (by decide +kernel) (by decide +kernel), List.forall_mem_cons.mpr ⟨I (by decide), List.forall_mem_cons.mpr ⟨S (by decide +kernel) (by decide +kernel), List.forall_mem_cons.mpr ⟨I (by decide),
    List.forall_mem_cons.mpr ⟨S (by decide +kernel) (by decide +kernel), List.forall_mem_cons.mpr ⟨I (by decide), List.forall_mem_cons.mpr ⟨S (by decide +kernel) (by decide +kernel), List.forall_mem_cons.mpr ⟨S (by decide +kernel) (by decide +kernel), fun _ h => nomatch h⟩⟩⟩⟩⟩⟩⟩⟩⟩
theorem nmL_ok (i : Nat) (h : i < 9) : KO (nmL i) ∧ RpOk (nmL i) := nmL_all _ (List.mem_of_getElem? (i := i) (by unfold nmL; rw [List.getD_eq_getElem?_getD, List.getElem?_eq_getElem (l := nl9) h]; rfl))
theorem nmL_str : ∀ i, i < 9 → PyData.strOk (msgOf (nmL i) MRK) = true := by decide +kernel
theorem nm_N {n : Nat} (h : n ≤ 8) : NmOk n nmL := ⟨fun i j hi hj e => nmL_inj i (by lia) j (by lia) e, fun i hi => nmL_ok i (by lia)⟩
theorem cut_uq : ∀ {a p b q : List (List Nat)} {f f' : List Nat} {stop : Nat}, a ++ f :: b = p ++ f' :: q → a.flatten.length ≤ stop → stop < a.flatten.length + f.length → p.flatten.length ≤ stop → stop < p.flatten.length + f'.length → a = p ∧ f = f'
  | [], [], _, _, _, _, _, e, _, _, _, _ => ⟨rfl, (List.cons.inj e).1⟩
  | [], y :: p, b, q, f, f', stop, e, _, h2, h3, _ => by
    obtain ⟨rfl, _⟩ := List.cons.inj e
    rw [List.flatten_cons, List.length_append] at h3
    rw [List.flatten_nil, List.length_nil] at h2
    lia
  | x :: a, [], b, q, f, f', stop, e, h1, _, _, h4 => by
    obtain ⟨rfl, _⟩ := List.cons.inj e
    rw [List.flatten_cons, List.length_append] at h1
    rw [List.flatten_nil, List.length_nil] at h4
    lia
  | x :: a, y :: p, b, q, f, f', stop, e, h1, h2, h3, h4 => by
    have e1 := List.cons.inj e
    obtain ⟨rfl, e2⟩ := e1
    rw [List.flatten_cons, List.length_append] at h1 h2 h3 h4
    obtain ⟨rfl, rfl⟩ := cut_uq (a := a) (p := p) (b := b) (q := q) (stop := stop - x.length) e2 (by lia) (by lia) (by lia) (by lia)
    exact ⟨rfl, rfl⟩
section
variable {c : Cx} {A : Around} {E : Value → AS → Prop} {fs : List Frm} {σ : Addr → Option (Nat × Cell)} {g : Array GenState} {a : AS} {env : Env}
theorem SlAt.mid {kd : Nat} {Q : Value → AS → Prop} {a : AS} {l : Addr} {vs : List AV} {i j : Nat} {t t' : Tok} (hl : ∀ s, St c a s → ∃ us : Array Value, s.heap.IsList l us ∧ us.toList.map er = vs) (hz : vs.length ≤ 1000000) (hij : i ≤ j) (hj : j ≤ vs.length)
    (q : ∀ D, a.σ D = none → ∀ σ', σ' = upd a.σ D (some (kd, .list ((vs.drop i).take (j - i)))) → Q (.ref D) ⟨a.fs, σ', a.gens⟩) : SlAt c kd Q (.int i t) (.int j t') (.ref l) a :=
  .mk l vs _ (some i) (some j) rfl hl hz (.int i t) (.int j t') (fun us e => ⟨(us.toList.drop i).take (j - i), slicePick_run us i j (by rw [size_of e]; exact hj) hij, by rw [List.map_take, List.map_drop, e]⟩) q
theorem W_slice_run {value lower upper : Expr} {p pos : Pos} {Q : Value → AS → Prop} (h : W c A (eval value env) (fun o a₁ => W c A (eval lower env) (fun vl a₂ => W c A (eval upper env) (fun vu a₃ => SlAt c 0 Q vl vu o a₃) E a₂) E a₁) E a)
    (ht : ∀ o r, letTemporaryGo value o r = pure () := by intro _ _; with_unfolding_all rfl) : W c A (eval (.Subscript value (.Slice (some lower) (some upper) none p) pos) env) Q E a := W_slice (kd := 0) h ht
theorem W_assign_T3 {x y z : Str} {px py pz p : Pos} {kk : Nat} {l : Addr} {v1 v2 v3 : AV} {Q : Unit → AS → Prop} (hl : Starry c ⟨fs, σ, g⟩ l [v1, v2, v3]) (hh : A.handled = none)
    (h : All v1 (fun u1 => W c A (storeName env x u1) (fun _ a₂ => All v2 (fun u2 => W c A (storeName env y u2) (fun _ a₃ => All v3 (fun u3 => W c A (storeName env z u3) Q E a₃)) E a₂)) E ⟨fs, σ, g⟩)) : W c A (assign (.Tuple [.Name x px, .Name y py, .Name z pz] kk p) env (.ref l)) Q E ⟨fs, σ, g⟩ :=
  W_assign_Tuple hl rfl hh fun us eu => W_inNames (xs := [(x, px), (y, py), (z, pz)]) (by rw [eu]; exact h)
theorem W_assign_T5 {x y z w v : Str} {px py pz pw pv p : Pos} {kk : Nat} {l : Addr} {v1 v2 v3 v4 v5 : AV} {Q : Unit → AS → Prop} (hl : Starry c ⟨fs, σ, g⟩ l [v1, v2, v3, v4, v5]) (hh : A.handled = none)
    (h : All v1 (fun u1 => W c A (storeName env x u1) (fun _ a₂ => All v2 (fun u2 => W c A (storeName env y u2) (fun _ a₃ => All v3 (fun u3 => W c A (storeName env z u3) (fun _ a₄ => All v4 (fun u4 => W c A (storeName env w u4) (fun _ a₅ => All v5 (fun u5 => W c A (storeName env v u5) Q E a₅)) E a₄)) E a₃)) E a₂)) E ⟨fs, σ, g⟩)) : W c A (assign (.Tuple [.Name x px, .Name y py, .Name z pz, .Name w pw, .Name v pv] kk p) env (.ref l)) Q E ⟨fs, σ, g⟩ :=
  W_assign_Tuple hl rfl hh fun us eu => W_inNames (xs := [(x, px), (y, py), (z, pz), (w, pw), (v, pv)]) (by rw [eu]; exact h)
end
noncomputable abbrev nsZ : List Str := ["script", "numbers", "total", "n", "names", "sorter", "walk", "known", "need", "after", "last", "groups", "flat", "ring", "stop", "meddle", "told", "end", "asked", "due", "finished", "given", "said"]
noncomputable abbrev gsZ : List (Str × Value) := [("sum", .builtin "sum"), ("TopologicalSorter", .ref 130), ("_law_tell", .ref 177), ("_law_adds", .ref 151), ("_law_groups", .ref 184), ("_law_ring", .ref 139), ("len", .builtin "len"), ("_law_walk", .ref 172), ("_law_stopped", .ref 191), ("repr", .builtin "repr"), ("_law_first", .ref 165), ("_law_rest", .ref 196)]
theorem fn_law {w : World} : FnOkC (KK w) 201 [("script", false), ("numbers", false), ("total", false), ("n", false), ("names", true), ("sorter", false), ("walk", false), ("known", false), ("need", false), ("after", false), ("last", false), ("groups", false), ("flat", false), ("ring", false), ("stop", false), ("meddle", false), ("told", false), ("end", false), ("asked", false), ("due", false), ("finished", false), ("given", false), ("said", false)] ["sum", "TopologicalSorter", "_law_tell", "_law_adds", "_law_groups", "_law_ring", "len", "_law_walk", "_law_stopped", "repr", "_law_first", "_law_rest"] := ⟨rfl, rfl, rfl, rfl, rfl, rfl, rfl, rfl, rfl, rfl, by decide +kernel⟩
theorem keep_law {w : World} : keepIn (KK w) (.ref 151) = true ∧ keepIn (KK w) (.ref 177) = true ∧ keepIn (KK w) (.ref 184) = true ∧ keepIn (KK w) (.ref 172) = true ∧ keepIn (KK w) (.ref 191) = true ∧ keepIn (KK w) (.ref 165) = true ∧ keepIn (KK w) (.ref 196) = true := ⟨rfl, rfl, rfl, rfl, rfl, rfl, rfl⟩
noncomputable def lwB : List Stmt := match topS 17 with
  | .FunctionDef _ _ b _ _ _ _ _ _ _ => b
  | _ => []
end Mine.Internal
namespace Mine.Internal
open PySem PySem.W PyProof.Rows PySem.Calls
structure ZP where
  s : Addr
  nl : Addr
  total : Int
  n : Nat
  nA : Addr
  x : Addr
  G : Addr
  kv : Addr
  nv : Addr
  av : Addr
  lv : Addr
  gr : Addr
  fl : Addr
  stop : Nat
  md : Bool
  D : Addr
  e1 : Addr
  A1 : Addr
noncomputable abbrev zV (z : ZP) (rg : AV) (du fi gi sa : Option AV) : List (Option AV) := [some (.ref z.s), some (.ref z.nl), some (.int z.total), some (iv z.n), some (.ref z.nA), some (.ref z.x), some (.ref z.G), some (.ref z.kv), some (.ref z.nv), some (.ref z.av), some (.ref z.lv), some (.ref z.gr), some (.ref z.fl), some rg, some (iv z.stop), some (.bool z.md), some (.ref z.D), some (.ref z.e1), some (.ref z.A1), du, fi, gi, sa]
section
variable {z : ZP} {rg v : AV} {du fi gi sa o : Option AV}
theorem zset_rg : SetVar nsZ (zV z rg du fi gi sa) "ring" (some v) (zV z v du fi gi sa) := .there <| .there <| .there <| .there <| .there <| .there <| .there <| .there <| .there <| .there <| .there <| .there <| .there <| .here
theorem zset_du : SetVar nsZ (zV z rg du fi gi sa) "due" o (zV z rg o fi gi sa) := .there <| .there <| .there <| .there <| .there <| .there <| .there <| .there <| .there <| .there <| .there <| .there <| .there <| .there <| .there <| .there <| .there <| .there <| .there <| .here
theorem zset_fi : SetVar nsZ (zV z rg du fi gi sa) "finished" o (zV z rg du o gi sa) := .there <| .there <| .there <| .there <| .there <| .there <| .there <| .there <| .there <| .there <| .there <| .there <| .there <| .there <| .there <| .there <| .there <| .there <| .there <| .there <| .here
theorem zset_gi : SetVar nsZ (zV z rg du fi gi sa) "given" o (zV z rg du fi o sa) := .there <| .there <| .there <| .there <| .there <| .there <| .there <| .there <| .there <| .there <| .there <| .there <| .there <| .there <| .there <| .there <| .there <| .there <| .there <| .there <| .there <| .here
theorem zset_sa : SetVar nsZ (zV z rg du fi gi sa) "said" o (zV z rg du fi gi o) := .there <| .there <| .there <| .there <| .there <| .there <| .there <| .there <| .there <| .there <| .there <| .there <| .there <| .there <| .there <| .there <| .there <| .there <| .there <| .there <| .there <| .there <| .here
end
end Mine.Internal
open PySem PySem.W PyProof.Rows PySem.Calls
local macro_rules | `(tactic| walk_at "set") => `(tactic| with_reducible first | apply Mine.Internal.zset_du | apply Mine.Internal.zset_fi | apply Mine.Internal.zset_gi | apply Mine.Internal.zset_sa | apply Mine.Internal.zset_rg | apply SetVar.here | (apply SetVar.there; walk_at "set"))
namespace Mine.Internal
open PySem PySem.W PyProof.Rows PySem.Calls
section
variable {c : Cx} {A B : Around} {E X : Value → AS → Prop} {fs : List Frm} {σ : Addr → Option (Nat × Cell)} {g : Array GenState} {d : Nat} {env : Env} {L : Addr} {cl : List (Str × Addr)}
set_option maxHeartbeats 3000000 in
theorem law_end {z : ZP} {du d0 d1 d2 fv gv : Addr} {rg : AV} {sa : Option AV} {as ls : List Addr} {m T : Nat} {nm : Nat → AV} {Es : List Ed} {P0 : PS} {tl gi fi fr : List Nat} {ed ad : List PyData} {ring : Option (List AV)} {st : SS} {Q : Flow → AS → Prop} (l : Lv c)
    (hA : AOk B (⟨L, cl, nsZ, zV z rg (some (.ref du)) (some (.ref fv)) (some (.ref gv)) sa⟩ :: fs) (d + 15)) (hh : B.handled = none) (hE : EnvOk c env L cl nsZ gsZ) (hC : CapOk env cl ["names"]) (hgl : env.globals = mainGlobals) (hbl : env.builtins = builtinsNs) (N : NmOk z.n nm) (hnm : z.n = m + 1) (hn : z.n ≤ 60) (hT : T ≤ 400)
    (hnA : σ z.nA = some (0, .list (tab z.n nm))) (hgv : σ gv = some (0, .list (IV gi))) (hfv : σ fv = some (0, .list (IV fi))) (hk : σ z.kv = some (6, .list (IV P0.known))) (K : LkAt σ z.nv z.av z.lv as ls z.n P0) (Gh : G0 z.n nm (P0.at gi fi) Es T st) (R : Post z.n nm (P0.at gi fi) Es fr st) (S : SO σ z.x st) (hb : Bare g)
    (hD : σ z.D = some (5, .list (tl.map nm))) (he : Dz σ (.ref z.e1) (.list ed)) (ha : Dz σ (.ref z.A1) (.list ad)) (hdu : σ du = some (0, .list [.ref d0, .ref d1, .ref d2])) (hd0 : σ d0 = some (0, .list (IV tl))) (h1 : Dz σ (.ref d1) (.list ed)) (h2 : Dz σ (.ref d2) (.list ad)) (hs1 : Sh 2 (.list ed)) (hs2 : Sh 2 (.list ad)) (htl : ∀ v ∈ tl, v < z.n) (htz : tl.length ≤ 60)
    (hrg : RgA σ ring rg) (hrq : ∀ r', RingRes st.keys st.su r' → r' = ring) (h : ∀ vs σ' g', Bare g' → Q (.ret (.bool true)) ⟨⟨L, cl, nsZ, vs⟩ :: fs, σ', g'⟩) :
    W c B (execs (lwB.drop 15) env) Q X ⟨⟨L, cl, nsZ, zV z rg (some (.ref du)) (some (.ref fv)) (some (.ref gv)) sa⟩ :: fs, σ, g⟩ := by
  have hnd := hE.nd
  have hko : ∀ v ∈ tl.map nm, KO v := fun v hv => by
    obtain ⟨w, hw, rfl⟩ := List.mem_map.mp hv
    exact (N.ko w (Nat.le_of_lt (htl w hw))).1
  refine W_consG (fun P1 hP1 => ?_)
  refine W_If ?_
  repeat walk_at "st"
  refine W_newList 0 (Nat.le_of_ble_eq_true rfl) (fun q1 k1 σ1 g1 => ?_)
  have X1 : Ext [] σ σ1 := Ext.new_eq g1 k1
  repeat walk_at "st"
  have hdu1 := X1 _ _ _ hdu List.not_mem_nil
  have hnA1 := X1 _ _ _ hnA List.not_mem_nil
  have hd01 := X1 _ _ _ hd0 List.not_mem_nil
  refine W_ListComp (x := "v") (gls := []) (caps := ["names"]) ⟨rfl, rfl, by decide +kernel⟩ (hC.mono (by first | exact fun _ h => h | decide | simp)) ?_
  repeat walk_at "st"
  refine ⟨noGet_list hdu1, W_item_list hdu1 (by decide) (v := .ref d0) rfl (Nat.le_of_ble_eq_true rfl) ?_⟩
  repeat walk_at "st"
  refine W_iter_list hd01 (fun it k2 σ2 g2 => ?_)
  refine CompK_nm (n := m) ⟨rfl, rfl, by decide +kernel⟩ (hC.mono (by first | exact fun _ h => h | decide | simp)) hgl hbl hh (List.mem_cons_self ..) (by walk_at "var") hnd (by rw [← hnm]; exact hnA1) hd01 (by decide) (Nat.le_trans htz (by decide)) (by walk_at "le") (fun v hv => by have := htl v hv; walk_at "le") (fun i hi => (N.ko i (by walk_at "le")).1) k2 g2 (fun q3 C vx σ3 X3 _ hq3 => ?_)
  refine UseK.no ?_
  have hdu3 := X3 _ _ _ hdu1 List.not_mem_nil
  repeat walk_at "st"
  refine ⟨noGet_list hdu3, W_item_list hdu3 (by decide) (v := .ref d1) rfl (Nat.le_of_ble_eq_true rfl) ?_⟩
  repeat walk_at "st"
  refine ⟨noGet_list hdu3, W_item_list hdu3 (by decide) (v := .ref d2) rfl (Nat.le_of_ble_eq_true rfl) ?_⟩
  repeat walk_at "st"
  refine W_newList 0 (Nat.le_of_ble_eq_true rfl) (fun q4 k4 σ4 g4 => ?_)
  have X4 : Ext [] σ3 σ4 := Ext.new_eq g4 k4
  have X34 := X3.trans X4
  have X04 := X1.trans X34
  have hsh : Sh 3 (.list [.list ((tl.map nm).map kd), .list ed, .list ad]) := Sh.list fun e he => by
    rcases List.mem_cons.mp he with rfl | he
    · exact ⟨(KO.shL hko).1, Nat.le_succ_of_le (KO.shL hko).2⟩
    · rcases List.mem_cons.mp he with rfl | he
      · exact hs1
      · rw [List.mem_singleton.mp he]; exact hs2
  have r1 : RdV σ4 (.ref q1) (.list [.list ((tl.map nm).map kd), .list ed, .list ad]) := .list (X34 _ _ _ (at_upd g1) List.not_mem_nil) (.cons (.list (X04 _ _ _ hD List.not_mem_nil) (KO.rds hko)) (.cons (he.ext X04 List.not_mem_nil).rd (.cons (ha.ext X04 List.not_mem_nil).rd .nil)))
  have r2 : RdV σ4 (.ref q4) (.list [.list ((tl.map nm).map kd), .list ed, .list ad]) := .list (at_upd g4) (.cons (.list (X4 _ _ _ hq3 List.not_mem_nil) (KO.rds hko)) (.cons (h1.ext X04 List.not_mem_nil).rd (.cons (h2.ext X04 List.not_mem_nil).rd .nil)))
  refine W_neD hA r1 r2 hsh.ok hsh.ok ?_
  rw [eqv_self hsh]
  repeat walk_at "st"
  intro pl
  have S4 := S.ext X04 (by decide) (by decide)
  have sane := R.sane Gh hn hT
  have hrg4 := hrg.ext X04 (by decide)
  refine W_fcMeth l S4 ?_
  repeat walk_at "st"
  refine ⟨Kp.inK (l.K ▸ keep_find), W_fc l (d := d + 1) (ring := ring) (v0 := rg) (hA.vs.le (by walk_at "le")) S4 sane.su sane.fit hrq hrg4 (fun v8 σ8 X8 F8 => ?_)⟩
  have hrg8 := hrg4.ext X8 (by decide)
  repeat walk_at "st"
  refine RgA.all hrg8 (fun u eu => ?_)
  refine W_neD hA F8.rd (eu ▸ hrg8.rd) hrg8.sh.ok hrg8.sh.ok ?_
  rw [eqv_self hrg8.sh]
  repeat walk_at "st"
  have S8 := S4.ext X8 (by decide) (by decide)
  refine ⟨Kp.inK (l.K ▸ keep_law.2.2.2.2.2.1), first_spec l (d := d) (hA.vs.le (by walk_at "le")) S8 sane (by rw [R.rd]; rfl) (fun q9 σ9 X9 S9 hq9 => ?_)⟩
  have hb9 : Bare (g.push .finished) := fun y hy => by
    rcases Array.mem_push.mp hy with hy | rfl
    · exact hb y hy
    · rfl
  repeat walk_at "st"
  refine W_newList 0 (Nat.le_of_ble_eq_true rfl) (fun q5 k5 σ10 g10 => ?_)
  have X10 : Ext [] σ9 σ10 := Ext.new_eq g10 k5
  have hsf : Sh 1 (.list [.str "refused", .str PRL]) := Sh.list fun e he => by
    rcases List.mem_cons.mp he with rfl | he
    · exact Sh.str (by decide +kernel)
    · rw [List.mem_singleton.mp he]; exact Sh.str (by decide +kernel)
  have r5 : RdV σ10 (.ref q5) (.list [.str "refused", .str PRL]) := .list (at_upd g10) (.cons .str (.cons .str .nil))
  refine W_neD hA (.list (X10 _ _ _ hq9 List.not_mem_nil) (.cons .str (.cons .str .nil))) r5 hsf.ok hsf.ok ?_
  rw [eqv_self hsf]
  repeat walk_at "st"
  have X010 : Ext [3, 4, 8] σ σ10 := X04.nil.trans (X8.trans ((X9.mono (by decide)).trans X10.nil))
  refine ⟨Kp.inK (l.K ▸ keep_law.2.2.2.2.2.2), rest_spec l (d := d) (hA.vs.le (by walk_at "le")) N hnm hn hT (X010 _ _ _ hnA (by decide)) (X010 _ _ _ hgv (by decide)) (X010 _ _ _ hfv (by decide)) (X010 _ _ _ hk (by decide)) (K.ext X010 (by decide)) Gh R (S9.ext X10 (by decide) (by decide)) (fun σ11 => ?_)⟩
  repeat walk_at "st"
  exact h _ _ _ hb9
end
end Mine.Internal
namespace Mine.Internal
open PySem PySem.W PyProof.Rows PySem.Calls
theorem Sh.two {n : Nat} {a b : PyData} (h1 : Sh n a) (h2 : Sh n b) : Sh (n + 1) (.list [a, b]) := Sh.list (List.forall_mem_cons.mpr ⟨h1, List.forall_mem_cons.mpr ⟨h2, fun _ h => nomatch h⟩⟩)
theorem WOut.sh {nm : Nat → AV} {gs : List (List Nat)} {ring md : Bool} {stop n : Nat} {tl gi fi : List Nat} {ed ad : List PyData} (h : WOut nm gs ring stop md tl ed ad gi fi) (hn : ∀ v ∈ gs.flatten, v < n) (hs : ∀ v, v < n → PyData.strOk (msgOf (nm v) MRK) = true) :
    Sh 2 (.list ed) ∧ Sh 2 (.list ad) ∧ (∀ v ∈ tl, v < n) ∧ tl.length ≤ gs.flatten.length := by
  have S0 : Sh 2 (.list []) := ⟨rfl, Nat.le_of_ble_eq_true rfl⟩
  refine h.elim (fun z => ?_) fun z => z.2.elim (fun z => ?_) fun z => z.elim fun a z => z.elim fun b z => z.elim fun f z => ?_
  · rw [z.2.1, z.2.2.1, z.2.2.2.1]; exact ⟨Sh.one (Sh.str (by decide +kernel)), S0, fun v hv => (nomatch hv), Nat.zero_le _⟩
  · rw [z.2.1, z.2.2.1, z.2.2.2.1]; exact ⟨Sh.one (Sh.str (by decide +kernel)), S0, hn, Nat.le_refl _⟩
  · have ef : gs.flatten = a.flatten ++ f ++ b.flatten := by rw [z.1, List.flatten_append, List.flatten_cons, List.append_assoc]
    have hl : (a.flatten ++ f).length ≤ gs.flatten.length := by rw [ef, List.length_append (bs := b.flatten)]; exact Nat.le_add_right ..
    have hv : ∀ v ∈ a.flatten ++ f, v < n := fun v hv => hn v (ef ▸ List.mem_append_left _ hv)
    refine z.2.2.2.elim (fun z => ?_) fun z => z.2.elim fun v z => ?_
    · rw [z.2.1, z.2.2.1, z.2.2.2.1]; exact ⟨Sh.one (Sh.str (by decide +kernel)), S0, fun v h => hv v (List.mem_of_mem_take h), Nat.le_trans (List.length_take_le' ..) hl⟩
    · rw [z.2.1, z.2.2.1, z.2.2.2.1]; exact ⟨Sh.two (Sh.str (by decide +kernel)) (Sh.str (hs v (hv v (List.mem_append_right _ (List.mem_of_getElem? z.1))))), Sh.list (List.forall_mem_cons.mpr ⟨⟨rfl, Nat.le_of_ble_eq_true rfl⟩, List.forall_mem_cons.mpr ⟨Sh.bool, List.forall_mem_cons.mpr ⟨Sh.none, fun _ h => nomatch h⟩⟩⟩), hv, hl⟩
theorem RingAt.inv {σ : Addr → Option (Nat × Cell)} {r : Option (List AV)} {v : Value} (h : RingAt σ r v) : (r = none ∧ er v = .none) ∨ ∃ l a, r = some l ∧ er v = .ref a ∧ σ a = some (0, .list l) := by
  cases h with
  | no => exact .inl ⟨rfl, rfl⟩
  | yes h1 _ => exact .inr ⟨_, _, rfl, rfl, h1⟩
section
variable {c : Cx} {A B : Around} {E X : Value → AS → Prop} {fs : List Frm} {σ : Addr → Option (Nat × Cell)} {g : Array GenState} {d : Nat} {env : Env} {L : Addr} {cl : List (Str × Addr)}
set_option maxHeartbeats 3000000 in
theorem law_due {z : ZP} {v0 : Value} {as ls aas : List Addr} {m T : Nat} {nm : Nat → AV} {Es : List Ed} {P0 : PS} {tl gi fi fr fr0 : List Nat} {gs : List (List Nat)} {ed ad : List PyData} {r : Option (List AV)} {st st0 : SS} {Q : Flow → AS → Prop} (l : Lv c)
    (hA : AOk B (⟨L, cl, nsZ, zV z (er v0) none none none none⟩ :: fs) (d + 15)) (hh : B.handled = none) (hE : EnvOk c env L cl nsZ gsZ) (hC : CapOk env cl ["names"]) (hgl : env.globals = mainGlobals) (hbl : env.builtins = builtinsNs) (N : NmOk z.n nm) (hnm : z.n = m + 1) (hn : z.n ≤ 60) (hT : T ≤ 400) (hstr : ∀ v, v < z.n → PyData.strOk (msgOf (nm v) MRK) = true)
    (R0 : Rds z.n nm Es T P0 fr0 st0 gs) (hfl : σ z.fl = some (0, .list (IV gs.flatten))) (hgr : RowsAt σ z.gr 7 0 aas gs) (hW : WOut nm gs r.isSome z.stop z.md tl ed ad gi fi) (hrr : RingRes (IV P0.known) (suI fun p => IV (P0.after p)) r) (hat : RingAt σ r v0)
    (hnA : σ z.nA = some (0, .list (tab z.n nm))) (hk : σ z.kv = some (6, .list (IV P0.known))) (K : LkAt σ z.nv z.av z.lv as ls z.n P0) (Gh : G0 z.n nm (P0.at gi fi) Es T st) (R : Post z.n nm (P0.at gi fi) Es fr st) (S : SO σ z.x st) (hb : Bare g)
    (hD : σ z.D = some (5, .list (tl.map nm))) (he : Dz σ (.ref z.e1) (.list ed)) (ha : Dz σ (.ref z.A1) (.list ad)) (h : ∀ vs σ' g', Bare g' → Q (.ret (.bool true)) ⟨⟨L, cl, nsZ, vs⟩ :: fs, σ', g'⟩) :
    W c B (execs (lwB.drop 11) env) Q X ⟨⟨L, cl, nsZ, zV z (er v0) none none none none⟩ :: fs, σ, g⟩ := by
  have hnd := hE.nd
  have hlen := R0.len
  have hgsn : ∀ v ∈ gs.flatten, v < z.n := hlen.2.2.2
  have hgz : gs.flatten.length ≤ 60 := by lia
  obtain ⟨hs1, hs2, htl, htz⟩ := hW.sh hgsn hstr
  obtain ⟨ps, hps, hlt, huq⟩ := Gh.ring N hrr
  obtain ⟨ring, hring⟩ : ∃ ring, ring = ps.map (List.map nm) := ⟨_, rfl⟩
  rw [← hring] at huq
  refine W_consG (fun _ _ => ?_)
  repeat walk_at "st"
  refine W_newList 0 (Nat.le_of_ble_eq_true rfl) (fun q1 k1 σ1 g1 => ?_)
  have X1 : Ext [] σ σ1 := Ext.new_eq g1 k1
  repeat walk_at "st"
  refine W_newList 0 (Nat.zero_le _) (fun q2 k2 σ2 g2 => ?_)
  have X2 : Ext [] σ1 σ2 := Ext.new_eq g2 k2
  repeat walk_at "st"
  refine W_newList 0 (Nat.le_of_ble_eq_true rfl) (fun q3 k3 σ3 g3 => ?_)
  have X3 : Ext [] σ2 σ3 := Ext.new_eq g3 k3
  iterate 12 walk_at "st"
  refine W_consG (fun P4 hP4 => ?_)
  have X03 : Ext [] σ σ3 := X1.trans (X2.trans X3)
  have fin : ∀ {rg' : AV} {du d0 d1 d2 fv gv : Addr} {sa : Option AV} {σ' : Addr → Option (Nat × Cell)}, Ext [] σ σ' → RgA σ' ring rg' → σ' du = some (0, .list [.ref d0, .ref d1, .ref d2]) → σ' d0 = some (0, .list (IV tl)) → Dz σ' (.ref d1) (.list ed) → Dz σ' (.ref d2) (.list ad) → σ' gv = some (0, .list (IV gi)) → σ' fv = some (0, .list (IV fi)) →
      P4 .next ⟨⟨L, cl, nsZ, zV z rg' (some (.ref du)) (some (.ref fv)) (some (.ref gv)) sa⟩ :: fs, σ', g⟩ := fun {rg' du d0 d1 d2 fv gv sa σ'} X0 F z0 z1 z2 z3 z4 z5 =>
    hP4.nx _ (law_end l hA.vs hh hE hC hgl hbl N hnm hn hT (X0 _ _ _ hnA List.not_mem_nil) z4 z5 (X0 _ _ _ hk List.not_mem_nil) (K.ext X0 (by decide)) Gh R (S.ext X0 List.not_mem_nil List.not_mem_nil) hb (X0 _ _ _ hD List.not_mem_nil) (he.ext X0 List.not_mem_nil) (ha.ext X0 List.not_mem_nil) z0 z1 z2 z3 hs1 hs2 htl (Nat.le_trans htz hgz) F huq h)
  clear hP4 h
  have hfl3 := X03 _ _ _ hfl List.not_mem_nil
  have hflz : (IV gs.flatten).length ≤ 1000000 := by rw [List.length_map]; lia
  refine W_If ?_
  rcases hat.inv with ⟨hr0, hv0⟩ | ⟨l0, a0, hr0, hv0, ha0⟩
  rotate_left
  · rw [hr0] at hps
    rw [hv0]
    cases ps with
    | none => cases hps
    | some p0 =>
      obtain rfl := Option.some.inj hps
      have zW := (hW.resolve_right fun z => by rw [hr0] at z; exact absurd z.1.symm Bool.false_ne_true).2
      repeat walk_at "st"
      refine W_newList 0 (Nat.zero_le _) (fun q4 k4 σ4 g4 => ?_)
      have X4 : Ext [] σ3 σ4 := Ext.new_eq g4 k4
      repeat walk_at "st"
      refine W_newList 0 (Nat.le_of_ble_eq_true rfl) (fun q5 k5 σ5 g5 => ?_)
      have X5 : Ext [] σ4 σ5 := Ext.new_eq g5 k5
      repeat walk_at "st"
      refine W_newList 0 (Nat.zero_le _) (fun q6 k6 σ6 g6 => ?_)
      have X6 : Ext [] σ5 σ6 := Ext.new_eq g6 k6
      repeat walk_at "st"
      refine W_newList 0 (Nat.le_of_ble_eq_true rfl) (fun q7 k7 σ7 g7 => ?_)
      have X7 : Ext [] σ6 σ7 := Ext.new_eq g7 k7
      repeat walk_at "st"
      refine W_newList 0 (Nat.zero_le _) (fun q8 k8 σ8 g8 => ?_)
      have X8 : Ext [] σ7 σ8 := Ext.new_eq g8 k8
      repeat walk_at "st"
      refine W_newList 0 (Nat.zero_le _) (fun q9 k9 σ9 g9 => ?_)
      have X9 : Ext [] σ8 σ9 := Ext.new_eq g9 k9
      repeat walk_at "st"
      have X79 := X8.trans X9
      have X69 := X7.trans X79
      have X59 := X6.trans X69
      have X49 := X5.trans X59
      have X39 := X4.trans X49
      have X09 := X03.trans X39
      have ha9 := X09 _ _ _ ha0 List.not_mem_nil
      have hnA9 := X09 _ _ _ hnA List.not_mem_nil
      obtain ⟨hl0, hl0n⟩ := hlt p0 rfl
      refine W_AssignComp (x := "v") (gls := []) (caps := ["names"]) (vs' := fun R => zV z (.ref R) (some (.ref q7)) (some (.ref q8)) (some (.ref q9)) none)
        (P := fun R σ' => Ext [] σ9 σ' ∧ σ' R = some (0, .list (p0.map nm))) ⟨rfl, rfl, by decide +kernel⟩ (hC.mono (by first | exact fun _ h => h | decide | simp)) hE (fun _ => by walk_at "set") (fun use Q' hQ' => ?_) (fun rl σ10 pz24 => pz24.elim fun X10 hR => ?_)
      · repeat walk_at "st"
        refine W_iter_list ha9 (fun it h4 σa ea => ?_)
        refine CompK_nm (n := m) ⟨rfl, rfl, by decide +kernel⟩ (hC.mono (by first | exact fun _ h => h | decide | simp)) hgl hbl hh (List.mem_cons_self ..) (by walk_at "var") hnd (by rw [← hnm]; exact hnA9) ha9 (by decide) (by walk_at "le") (by walk_at "le") (fun v hv => by have := hl0n v hv; walk_at "le") (fun i hi => (N.ko i (by walk_at "le")).1) h4 ea (fun R C vx σb Xb _ hR => ?_)
        exact hQ' R C vx σb ⟨Xb, hR⟩
      · have X710 := X79.trans X10
        have hko : ∀ v ∈ p0.map nm, KO v := fun v hv => by
          obtain ⟨w, hw, rfl⟩ := List.mem_map.mp hv
          exact (N.ko w (Nat.le_of_lt (hl0n w hw))).1
        repeat walk_at "st"
        refine fin (X09.trans X10) (by rw [hring]; exact .yes hR fun v hv => hko v hv) (X710 _ _ _ (at_upd g7) List.not_mem_nil) (by rw [zW.1]; exact (X49.trans X10) _ _ _ (at_upd g4) List.not_mem_nil) (by rw [zW.2.1]; exact Dz.list ((X59.trans X10) _ _ _ (at_upd g5) List.not_mem_nil) (DzL.cons (RdV.str : Dz _ _ _) DzL.nil)) (by rw [zW.2.2.1]; exact Dz.list ((X69.trans X10) _ _ _ (at_upd g6) List.not_mem_nil) DzL.nil) (by rw [zW.2.2.2.1]; exact X10 _ _ _ (at_upd g9) List.not_mem_nil) (by rw [zW.2.2.2.2]; exact (X9.trans X10) _ _ _ (at_upd g8) List.not_mem_nil)
  · rw [hr0] at hps
    have hW := (hW.resolve_left fun z => by rw [hr0] at z; exact absurd z.1 Bool.false_ne_true).2
    rw [hv0]
    cases ps with
    | some p0 => cases hps
    | none =>
      repeat walk_at "st"
      refine ⟨Kp.builtin, W_len_list hfl3 hflz (fun t4 => ?_)⟩
      rw [List.length_map]
      repeat walk_at "st"
      have hd1 : Dz σ3 (.ref q1) (.list [.str "over"]) := Dz.list ((X2.trans X3) _ _ _ (at_upd g1) List.not_mem_nil) (DzL.cons (RdV.str : Dz _ _ _) DzL.nil)
      have hd2 : Dz σ3 (.ref q2) (.list []) := Dz.list (X3 _ _ _ (at_upd g2) List.not_mem_nil) DzL.nil
      have lt_b : decide ((z.stop : Int) < ((gs.flatten.length : Nat) : Int)) = decide (z.stop < gs.flatten.length) := by rw [Bool.eq_iff_iff, decide_eq_true_iff, decide_eq_true_iff]; exact Int.ofNat_lt
      rw [lt_b]
      rcases hW with ⟨hle, zW⟩ | ⟨a, b, f, egs, hs1', hs2', hz⟩
      · rw [decide_eq_false (Nat.not_lt.mpr hle)]
        repeat walk_at "st"
        exact fin X03 (by rw [hring]; exact .no) (at_upd g3) (by rw [zW.1]; exact hfl3) (by rw [zW.2.1]; exact hd1) (by rw [zW.2.2.1]; exact hd2) (by rw [zW.2.2.2.1]; exact hfl3) (by rw [zW.2.2.2.2]; exact hfl3)
      · have e2 : gs.flatten = a.flatten ++ f ++ b.flatten := by rw [egs, List.flatten_append, List.flatten_cons, List.append_assoc]
        have hlt2 : z.stop < gs.flatten.length := by rw [e2, List.length_append, List.length_append]; walk_at "le"
        rw [decide_eq_true hlt2]
        iterate 1 walk_at "st"
        refine W_consG fun P5 hP5 => ?_
        refine W_Assign_T ?_
        repeat walk_at "st"
        refine ⟨Kp.inK (l.K ▸ keep_law.2.2.2.2.1), stopped_spec l (d := d) (hA.vs.le (by walk_at "le")) (hgr.ext X03 List.not_mem_nil List.not_mem_nil) hfl3 hgz (by walk_at "le") hlt2 (fun r4 B1 B2 p q f' σ4 egs2 h5 h6 X4 hr4 hB1 hB2 => ?_)⟩
        obtain ⟨rfl, rfl⟩ := cut_uq (egs.symm.trans egs2) hs1' hs2' h5 h6
        refine W_assign_T2 ⟨0, .inr hr4⟩ hh ?_
        repeat walk_at "st"
        have hfl4 := X4 _ _ _ hfl3 List.not_mem_nil
        refine SlAt.up (slOwn hfl4) hflz (by lia) fun q5 k5 σ5 g5 => ?_
        dsimp only at k5 g5 ⊢
        have X5 : Ext [] σ4 σ5 := Ext.new_eq g5 k5
        repeat walk_at "st"
        refine W_newList 0 (Nat.le_of_ble_eq_true rfl) (fun q6 k6 σ6 g6 => ?_)
        have X6 : Ext [] σ5 σ6 := Ext.new_eq g6 k6
        repeat walk_at "st"
        refine W_newList 0 (Nat.zero_le _) (fun q7 k7 σ7 g7 => ?_)
        have X7 : Ext [] σ6 σ7 := Ext.new_eq g7 k7
        repeat walk_at "st"
        refine W_newList 0 (Nat.le_of_ble_eq_true rfl) (fun q8 k8 σ8 g8 => ?_)
        have X8 : Ext [] σ7 σ8 := Ext.new_eq g8 k8
        repeat walk_at "st"
        have X78 := X7.trans X8
        have X58 := X6.trans X78
        have X48 := X5.trans X58
        have X38 := X4.trans X48
        have X08 := X03.trans X38
        have hfl2 : z.stop - a.flatten.length < f.length := by lia
        rcases hz with ⟨hmd, zW⟩ | ⟨hmd, v, hv, zW⟩
        · refine ite_f (by rw [hmd]; exact Bool.false_ne_true) ?_
          repeat walk_at "st"
          have htk : (IV gs.flatten).take ((z.stop : Int) + 1).toNat = IV ((a.flatten ++ f).take (z.stop + 1)) := by
            rw [show ((z.stop : Int) + 1).toNat = z.stop + 1 from Int.toNat_natCast (z.stop + 1), IV, ← List.map_take, e2, List.take_append_of_le_length (by rw [List.length_append]; walk_at "le")]
          refine fin X08 (by rw [hring]; exact .no) (at_upd g8) (by rw [zW.1]; exact X58 _ _ _ (htk ▸ at_upd g5) List.not_mem_nil) (by rw [zW.2.1]; exact Dz.list (X78 _ _ _ (at_upd g6) List.not_mem_nil) (DzL.cons (RdV.str : Dz _ _ _) DzL.nil)) (by rw [zW.2.2.1]; exact Dz.list (X8 _ _ _ (at_upd g7) List.not_mem_nil) DzL.nil) (by rw [zW.2.2.2.1]; exact X48 _ _ _ hB2 List.not_mem_nil) (by rw [zW.2.2.2.2]; exact X48 _ _ _ hB1 List.not_mem_nil)
        · refine ite_t hmd ?_
          repeat walk_at "st"
          have hvf : gs.flatten[z.stop]? = some v := by rw [e2, List.getElem?_append_left (by rw [List.length_append]; walk_at "le"), List.getElem?_append_right hs1']; exact hv
          have hvn : v < z.n := hgsn v (List.mem_of_getElem? hvf)
          have hfl8 := X48 _ _ _ hfl4 List.not_mem_nil
          have hnA8 := X08 _ _ _ hnA List.not_mem_nil
          refine W_itemM hfl8 hvf (by walk_at "le") ?_
          repeat walk_at "st"
          refine W_itemT hnA8 hvn (by walk_at "le") (All.key (N.ko v (Nat.le_of_lt hvn)).1.key (fun u2 eu2 => ?_))
          repeat walk_at "st"
          refine ⟨Kp.builtin, W_repr eu2 (N.ko v (Nat.le_of_lt hvn)).2 (fun t9 => ?_)⟩
          have hrl := (N.ko v (Nat.le_of_lt hvn)).2.len
          repeat walk_at "st"
          refine W_add_str (Nat.le_trans (Nat.add_le_add_left hrl _) (by decide +kernel)) (fun t10 => ?_)
          repeat walk_at "st"
          refine W_add_str (by rw [str_len_app]; exact Nat.le_trans (Nat.add_le_add_right (Nat.add_le_add_left hrl _) _) (by decide +kernel)) (fun t11 => ?_)
          repeat walk_at "st"
          refine W_newList 0 (Nat.le_of_ble_eq_true rfl) (fun q9 k9 σ9 g9 => ?_)
          have X9 : Ext [] σ8 σ9 := Ext.new_eq g9 k9
          repeat walk_at "st"
          refine W_newTuple 0 (Nat.zero_le _) (fun q10 k10 σ10 g10 => ?_)
          have X10 : Ext [] σ9 σ10 := Ext.new_eq g10 k10
          repeat walk_at "st"
          refine W_newList 0 (Nat.le_of_ble_eq_true rfl) (fun q11 k11 σ11 g11 => ?_)
          have X11 : Ext [] σ10 σ11 := Ext.new_eq g11 k11
          repeat walk_at "st"
          refine W_newList 0 (Nat.le_of_ble_eq_true rfl) (fun q12 k12 σ12 g12 => ?_)
          have X12 : Ext [] σ11 σ12 := Ext.new_eq g12 k12
          have X1012 := X11.trans X12
          have X912 := X10.trans X1012
          have X812 := X9.trans X912
          repeat walk_at "st"
          have hfl12 := X812 _ _ _ hfl8 List.not_mem_nil
          have hB12 := (X48.trans X812) _ _ _ hB1 List.not_mem_nil
          refine W_itemM hfl12 hvf (by walk_at "le") ?_
          repeat walk_at "st"
          refine W_newList 0 (Nat.le_of_ble_eq_true rfl) (fun q13 k13 σ13 g13 => ?_)
          have X13 : Ext [] σ12 σ13 := Ext.new_eq g13 k13
          have hpz : a.flatten.length ≤ 60 := by lia
          refine W_list_add 0 (X13 _ _ _ hB12 List.not_mem_nil) (at_upd g13) (by rw [List.length_map]; exact Nat.le_trans (Nat.add_le_add_right hpz _) (Nat.le_of_ble_eq_true rfl)) (fun q14 k14 σ14 g14 => ?_)
          have X14 : Ext [] σ13 σ14 := Ext.new_eq g14 k14
          have X1214 := X13.trans X14
          refine W_slice_run ?_
          repeat walk_at "st"
          refine ⟨Kp.builtin, W_len_list (X1214 _ _ _ hB12 List.not_mem_nil) (by rw [List.length_map]; walk_at "le") (fun t15 => ?_)⟩
          rw [List.length_map]
          repeat walk_at "st"
          refine SlAt.mid (slOwn (X1214 _ _ _ hfl12 List.not_mem_nil)) hflz hs1' (by rw [List.length_map]; exact Nat.le_of_lt hlt2) fun q15 k15 σ15 g15 => ?_
          dsimp only at k15 g15 ⊢
          have X15 : Ext [] σ14 σ15 := Ext.new_eq g15 k15
          have hcut : ((IV gs.flatten).drop a.flatten.length).take (z.stop - a.flatten.length) = IV (f.take (z.stop - a.flatten.length)) := by
            rw [IV, ← List.map_drop, ← List.map_take, e2, List.append_assoc, List.drop_left, List.take_append_of_le_length (Nat.le_of_lt hfl2)]
          rw [hcut] at g15
          refine W_list_add 0 (X15 _ _ _ (at_upd g14) List.not_mem_nil) (at_upd g15) ?_ (fun q16 k16 σ16 g16 => ?_)
          · rw [List.length_append, List.length_map, List.length_map]
            have : (IV (f.take (z.stop - a.flatten.length))).length ≤ 60 := by rw [List.length_map]; exact Nat.le_trans (List.length_take_le' ..) (by rw [e2, List.length_append, List.length_append] at hgz; walk_at "le")
            exact Nat.le_trans (Nat.add_le_add (Nat.add_le_add_right hpz 1) this) (show 60 + 1 + 60 ≤ 1000000 from Nat.le_of_ble_eq_true rfl)
          have X16 : Ext [] σ15 σ16 := Ext.new_eq g16 k16
          have X1216 := X1214.trans (X15.trans X16)
          have hq16 : σ16 q16 = some (0, .list (IV (a.flatten ++ [v] ++ f.take (z.stop - a.flatten.length)))) := by
            rw [at_upd g16, IV, IV, IV, List.map_append, List.map_append]; rfl
          repeat walk_at "st"
          have X416 := X48.trans (X812.trans X1216)
          refine fin (X08.trans (X812.trans X1216)) (by rw [hring]; exact .no) (X1216 _ _ _ (at_upd g12) List.not_mem_nil) (by rw [zW.1]; exact X416 _ _ _ hB2 List.not_mem_nil) (by rw [zW.2.1]; exact Dz.list ((X912.trans X1216) _ _ _ (at_upd g9) List.not_mem_nil) (DzL.cons (RdV.str : Dz _ _ _) (DzL.cons (RdV.str : Dz _ _ _) DzL.nil)))
            (by rw [zW.2.2.1]; exact Dz.list ((X12.trans X1216) _ _ _ (at_upd g11) List.not_mem_nil) (DzL.cons (Dz.tuple ((X1012.trans X1216) _ _ _ (at_upd g10) List.not_mem_nil) DzL.nil) (DzL.cons (RdV.bool : Dz _ _ _) (DzL.cons (RdV.none : Dz _ _ _) DzL.nil)))) (by rw [zW.2.2.2.1]; exact X416 _ _ _ hB2 List.not_mem_nil) (by rw [zW.2.2.2.2]; exact hq16)
end
end Mine.Internal
namespace Mine.Internal
open PySem PySem.W PyProof.Rows PySem.Calls
theorem RingAt.ext {C : List Nat} {σ σ' : Addr → Option (Nat × Cell)} {r : Option (List AV)} {v : Value} (h : RingAt σ r v) (e : Ext C σ σ') (h0 : 0 ∉ C) : RingAt σ' r v := by
  cases h with
  | no => exact .no
  | yes h1 h2 => exact .yes (e _ _ _ h1 h0) h2
section
variable {a : AS}
variable {c : Cx} {A B : Around} {E X : Value → AS → Prop} {fs : List Frm} {σ : Addr → Option (Nat × Cell)} {g : Array GenState} {d : Nat} {env : Env} {L : Addr} {cl : List (Str × Addr)}
theorem Wk_call_GC {K : Frag} {f : Addr} {nk : List (Str × Bool)} {ps rs ns : List Str} {gs : List (Str × Value)} {args : List Value} {us : List AV} {vs : List (Option AV)} {R : Result → AS → Prop}
    (hK : c.K = K) (hf : FnOkC K f nk (gs.map (·.1))) (hnk : nk.map (·.1) = ps ++ rs) (hns : ns = ps ++ rs) (hbind : bindArgs (fdOf K f) ⟨args, []⟩ = pure (ps.zip args)) (hu : args.map er = us) (hi : Init ps us rs vs) (hglob : ∀ p ∈ gs, Glob c p.1 p.2) (hA : AOk A fs (d + 1))
    (h : ∀ L cl env B P X, env.globals = mainGlobals → env.builtins = builtinsNs → B.handled = none → AOk B (⟨L, cl, ns, vs⟩ :: fs) d → EnvOk c env L cl ns gs → CapOk env cl ((nk.filter (·.2)).map (·.1)) → Fx fs (fun v => R (.ok (.ret v))) P →
      W c B (execs (bodyOf (fdOf K f)) env) P X ⟨⟨L, cl, ns, vs⟩ :: fs, σ, g⟩) :
    Wk c A (.call (.ref f) ⟨args, []⟩) R ⟨fs, σ, g⟩ :=
  Wk_call_C hK hf hnk hns hbind hu hi hglob hA fun L cl env he hL hA' hE hC =>
    h L cl env _ _ _ hE.gl hE.bl hA'.handled hA' hE hC ⟨fun _ _ _ q => Pop.mk q, fun _ _ _ _ q => Pop.mk q⟩
theorem slBL {l : Addr} {vs : List AV} (h : BL c l vs) : ∀ s, St c a s → ∃ us : Array Value, s.heap.IsList l us ∧ us.toList.map er = vs := fun s hs => h.elim fun us z => z.1.elim fun o z1 => ⟨us, ⟨o, hs.keep _ _ z1.1, z1.2⟩, z.2⟩
theorem W_slice_toL {value upper : Expr} {p pos : Pos} {Q : Value → AS → Prop} (h : W c A (eval value env) (fun o a₁ => W c A (eval upper env) (fun vl a₂ => SlAt c 0 Q .none vl o a₂) E a₁) E a) : W c A (eval (.Subscript value (.Slice none (some upper) none p) pos) env) Q E a := fun s hs => by
  refine Subscript_ (wpAny_mono (h s hs) (fun o s₁ pq => pq.elim fun a₁ pq => ?_) fun _ _ x => x)
  refine wpAny_Slice ?_
  rw [show evalPart none env = (pure .none : Sem Value) from rfl]
  refine wpAny_pure ?_
  show wpAny _ _ (eval upper env) _ _ _
  refine wpAny_mono (pq.2 s₁ pq.1) (fun vl s₂ pq => pq.elim fun a₂ pq => ?_) fun _ _ x => x
  obtain ⟨h2, l, vs, res, lo, hi, e1, hL, hz, p1, p2, hp, q⟩ := pq
  refine (hL s₂ h2).elim fun us z => (hp us z.2).elim fun r y => wpAny_pure ?_
  rw [e1]
  refine kba_turn (value' := .Name (Str.ofString "_") ⟨0, 0, 0, 0⟩) (fun _ => rfl) ?_
  refine subscriptTail_ops (Heap.IsList.typeIs (z.1.push _)) list_getitem_lookup (wpAny_getItem_list_slice (z.1.push _) (Heap.IsSliceOf.new ..) p1 p2 .none (by simp) ?_ (by rw [size_of z.2]; exact sizeLine_big hz)) (by with_unfolding_all rfl) (fun _ => rfl)
  rw [y.1]
  dsimp only
  rw [Heap.size_push]
  exact slice_tail h2 y.2 q
set_option maxHeartbeats 3000000 in
theorem law_spec {s : Addr} {is : List Int} {R : Result → AS → Prop} (l : Lv c) (hA : AOk A fs (d + 18)) (hs : BL c s (I2 is)) (hl : is.length ≤ 63) (hb : Bare g) (h : ∀ σ' g', Bare g' → R (.ok (.ret (.bool true))) ⟨fs, σ', g'⟩) :
    Wk c A (.call (.ref 201) ⟨[.ref s], []⟩) R ⟨fs, σ, g⟩ := by
  refine Wk_call_GC (d := d + 17) l.K (ps := ["script"]) (rs := ["numbers", "total", "n", "names", "sorter", "walk", "known", "need", "after", "last", "groups", "flat", "ring", "stop", "meddle", "told", "end", "asked", "due", "finished", "given", "said"]) (ns := nsZ) (us := [.ref s]) (gs := gsZ) fn_law rfl rfl (by kernel_rfl) rfl (.cons (.rest (.rest (.rest (.rest (.rest (.rest (.rest (.rest (.rest (.rest (.rest (.rest (.rest (.rest (.rest (.rest (.rest (.rest (.rest (.rest (.rest (.rest .nil))))))))))))))))))))))) (by simp [l.sum, l.TS, l.tell, l.adds, l.groups, l.ring, l.len, l.walk, l.stopped, l.repr, l.first, l.rest]) hA (fun L cl env B P X hgl hbl hh hA' hE hC hFx => ?_)
  refine W_consG (fun _ _ => ?_)
  refine W_Assign_Name (W_BinOp (W_slice_to 9 ?_))
  repeat walk_at "st"
  refine SlAt.up (slBL hs) (by rw [List.length_map]; lia) (by decide) fun l2 h2 σ2 e2 => ?_
  dsimp only at h2 e2 ⊢
  repeat walk_at "st"
  refine W_newList 9 (Nat.le_of_ble_eq_true rfl) (fun l3 h3 σ3 e3 => ?_)
  have hll : l2 ≠ l3 := ne_new (at_upd e2) h3
  have htk : ((I2 is).take (60 : Int).toNat).length ≤ 60 := List.length_take_le ..
  refine W_list_add 0 ((put_ne e3 hll).trans (at_upd e2)) (at_upd e3) (Nat.le_trans (Nat.add_le_add_right htk _) (Nat.le_of_ble_eq_true rfl)) (fun nl h4 σ4 e4 => ?_)
  have hnl : σ4 nl = some (0, .list (I2 (is.take 60 ++ [0, 0, 0]))) := by
    rw [e4, upd_self]
    show some (0, Cell.list ((I2 is).take 60 ++ I2 [0, 0, 0])) = _
    rw [I2, ← List.map_take, ← List.map_append]
  have hnz : (is.take 60 ++ [0, 0, 0]).length ≤ 63 := by have := List.length_take_le 60 is; rw [List.length_append]; exact Nat.add_le_add_right this 3
  have hnp : 1 ≤ (is.take 60 ++ [0, 0, 0]).length := by rw [List.length_append]; exact Nat.le_trans (Nat.le_of_ble_eq_true rfl) (Nat.le_add_left 3 _)
  generalize is.take 60 ++ [0, 0, 0] = nums at *
  clear e2 e3 e4 h2 h3 h4
  repeat walk_at "st"
  refine ⟨Kp.builtin, W_sum hh hnl (fun t7 => ?_)⟩
  repeat walk_at "st"
  refine W_mod (by decide) (fun t8 => ?_)
  obtain ⟨w, hw, hw7⟩ := fmod_nat (r := nums.sum) (m := 7) (by decide)
  rw [show ((7 : Nat) : Int) = 7 from rfl] at hw
  rw [hw]
  repeat walk_at "st"
  rw [show (w : Int) + 2 = ((w + 1 + 1 : Nat) : Int) from rfl]
  have hm : w + 1 + 1 ≤ 8 := by lia
  generalize w + 1 = m at *
  clear hw7 hw
  refine W_slice_toL ?_
  repeat walk_at "st"
  refine W_newList 9 (Nat.le_of_ble_eq_true rfl) (fun l5 h5 σ5 e5 => ?_)
  have X5 : Ext [] σ4 σ5 := Ext.new_eq e5 h5
  repeat walk_at "st"
  refine SlAt.up (slOwn (at_upd e5)) (Nat.le_of_ble_eq_true rfl) (Int.natCast_nonneg _) fun nA h6 σ6 e6 => ?_
  dsimp only at h6 e6 ⊢
  have X6 : Ext [] σ5 σ6 := Ext.new_eq e6 h6
  have hnA : σ6 nA = some (0, .list (tab (m + 1) nmL)) := by rw [nmL_tab (m + 1) (Nat.lt_succ_of_le hm)]; exact at_upd e6
  have hnl6 := X6 _ _ _ (X5 _ _ _ hnl List.not_mem_nil) List.not_mem_nil
  have N : NmOk (m + 1) nmL := nm_N hm
  have hstr : ∀ v, v < m + 1 → PyData.strOk (msgOf (nmL v) MRK) = true := fun v hv => nmL_str v (by walk_at "le")
  generalize nmL = nm at *
  clear e5 e6 h5 h6 X5 X6 hnl
  repeat walk_at "st"
  refine ⟨Kp.inK (l.K ▸ keep_TS), W_make 1 (l.K ▸ makes_TS) (l.K ▸ init_TS) (l.K ▸ fnt_TS) (fun x dx hx hdx hne σ7 e7 => ?_)⟩
  have X7 : Ext [] σ6 σ7 := by
    rw [e7]
    refine Ext.trans (Ext.upd_new hdx) (Ext.upd_new ?_)
    exact (upd_ne hne).trans hx
  refine tinit_spec l.toLw (d := d) ((hA'.vs.le (d' := d + 2) (by walk_at "le")).underMake) (at_upd e7) ((put_ne e7 (Ne.symm hne)).trans upd_self) (fun σ8 nd X8 S8 => ⟨rfl, ?_⟩)
  have S8' : SO σ8 x ⟨[], fun _ => 0, fun _ => [], none, 0, 0⟩ := ⟨_, _, _, _, _, S8⟩
  have X68 : Ext [1] σ6 σ8 := X7.nil.trans X8
  have hnA8 := X68 _ _ _ hnA (by decide)
  have hnl8 := X68 _ _ _ hnl6 (by decide)
  clear S8 hx hdx hne e7 X7 X8 X68 hnA hnl6
  iterate 3 walk_at "st"
  refine W_Assign_T ?_
  repeat walk_at "st"
  refine ⟨Kp.inK (l.K ▸ keep_law.1), adds_spec l (d := d) (hA'.vs.le (by walk_at "le")) hnl8 hnz (Nat.succ_pos m) (by walk_at "le") (fun ad0 σ9 aas0 al X9 hR9 hal hok => ?_)⟩
  refine W_recol (fk 6) ?_
  refine W_recol (fk 5) ?_
  have X9a : Ext [6, 7, 5] σ8 (recol (fk 5) (recol (fk 6) σ9)) := (X9.mono (by decide)).trans ((Ext.recolk (C := [6, 7, 5]) (k := 6) (by decide)).trans (Ext.recolk (C := [6, 7, 5]) (k := 5) (by decide)))
  have hRa : RowsAt (recol (fk 5) (recol (fk 6) σ9)) ad0 0 0 aas0 al := ⟨recolk_ne (recolk_at hR9.d) (by decide), hR9.len, fun j p l a b => recolk_at (recolk_ne (hR9.row j p l a b) (by decide))⟩
  generalize recol (fk 5) (recol (fk 6) σ9) = σ10 at *
  have hnA10 := X9a _ _ _ hnA8 (by decide)
  have S10 := S8'.ext X9a (by decide) (by decide)
  clear hR9 X9 X9a hnA8 hnl8 S8'
  have hal1 : 1 ≤ al.length := by rw [hal]; exact hnp
  have hal2 : al.length ≤ 63 := by rw [hal]; exact hnz
  clear hal hnp hnz
  repeat walk_at "st"
  refine ⟨Kp.inK (l.K ▸ keep_law.2.1), tell_spec (m := m) l (d := d) (hA'.vs.le (by walk_at "le")) N rfl (by walk_at "le") S10 hRa hok hal2 hal1 hnA10 (fun r G kv nv av lv as ls P Es st L2 env2 σ11 hr Gh Pr S11 hk K HG X11 => ?_)⟩
  have hnA11 := X11 _ _ _ hnA10 (by decide)
  have hb1 : Bare (g.push (.fresh (.func (soB c.w) env2))) := fun y hy => by
    rcases Array.mem_push.mp hy with hy | rfl
    · exact hb y hy
    · rfl
  have hgk := push_at (g := g) (a := GenState.fresh (.func (soB c.w) env2))
  generalize g.push (.fresh (.func (soB c.w) env2)) = g1 at *
  generalize g.size = gk at *
  clear X11 hRa hok hnA10 S10
  refine W_assign_T5 ⟨0, .inr hr⟩ hh ?_
  repeat walk_at "st"
  obtain ⟨fr0, Po⟩ := Post.start N Gh Pr
  obtain ⟨gs, Rd⟩ := Rds.ex N P.known.length Gh.prep Po (by rw [Pr.gv, Pr.fi]) (Nat.sub_le ..)
  have hP0 : P.at [] [] = P := PS.at_nil Pr.gv Pr.fi
  have hn : m + 1 ≤ 60 := by lia
  have hT : al.length ≤ 400 := by lia
  generalize al.length = T at *
  clear hal1 hal2
  refine W_Assign_T ?_
  repeat walk_at "st"
  refine ⟨Kp.inK (l.K ▸ keep_law.2.2.1), groups_spec l (d := d) (hA'.vs.le (by walk_at "le")) hn hP0 Rd hk K (fun r2 gr fl aas σ12 X12 hr2 hgr hfl => ?_)⟩
  have hk12 := X12 _ _ _ hk (by decide)
  have K12 := K.ext X12 (by decide)
  have S12 := S11.ext X12 (by decide) (by decide)
  have HG12 := HG.ext X12 (by decide) (by decide)
  have hnA12 := X12 _ _ _ hnA11 (by decide)
  clear hr X12 hk K S11 HG hnA11
  refine W_assign_T2 ⟨0, .inr hr2⟩ hh ?_
  repeat walk_at "st"
  refine ⟨Kp.inK (l.K ▸ keep_ring), ring_spec l (d := d) (hA'.vs.le (by walk_at "le")) hk12 K12.av (by walk_at "le") (fun v hv => ?_) rfl (Gh.rg hn hT) (fun r3 v0 σ13 hrr hat X13 => ?_)⟩
  · obtain ⟨i, hi, rfl⟩ := List.mem_map.mp hv
    exact ⟨i, rfl, Gh.lt i hi⟩
  have hk13 := X13 _ _ _ hk12 (by decide)
  have K13 := K12.ext X13 (by decide)
  have S13 := S12.ext X13 (by decide) (by decide)
  have HG13 := HG12.ext X13 (by decide) (by decide)
  have hnA13 := X13 _ _ _ hnA12 (by decide)
  have hgr13 := hgr.ext X13 (by decide) (by decide)
  have hfl13 := X13 _ _ _ hfl (by decide)
  clear hr2 X13 hk12 K12 S12 HG12 hnA12 hgr hfl
  have hlen := Rd.len
  have hfz : gs.flatten.length ≤ m + 1 := by lia
  have hflz : (IV gs.flatten).length ≤ 1000000 := by rw [List.length_map]; lia
  have hj0 : ((gs.flatten.length : Nat) : Int) + 1 ≠ 0 := by lia
  repeat walk_at "st"
  refine W_floordiv (by decide) (by decide) (fun t9 => ?_)
  repeat walk_at "st"
  refine ⟨Kp.builtin, W_len_list hfl13 hflz (fun t10 => ?_)⟩
  rw [List.length_map]
  repeat walk_at "st"
  refine W_mod hj0 (fun t11 => ?_)
  obtain ⟨stop, hst, hst1⟩ := fmod_nat (r := nums.sum.fdiv 28) (m := gs.flatten.length + 1) (Nat.succ_pos _)
  rw [show ((gs.flatten.length + 1 : Nat) : Int) = ((gs.flatten.length : Nat) : Int) + 1 from rfl] at hst
  rw [hst]
  repeat walk_at "st"
  refine W_floordiv (by decide) (by decide) (fun t12 => ?_)
  repeat walk_at "st"
  refine ⟨Kp.builtin, W_len_list hfl13 hflz (fun t13 => ?_)⟩
  rw [List.length_map]
  repeat walk_at "st"
  refine W_floordiv hj0 (by rw [show ((gs.flatten.length : Nat) : Int) + 1 = ((gs.flatten.length + 1 : Nat) : Int) from rfl, Int.natAbs_natCast]; exact Nat.lt_of_le_of_lt (Nat.log2_le_self _) (by walk_at "le")) (fun t14 => ?_)
  repeat walk_at "st"
  refine W_mod (by decide) (fun t15 => ?_)
  repeat walk_at "st"
  generalize (((nums.sum.fdiv 28).fdiv (((gs.flatten.length : Nat) : Int) + 1)).fmod 2 == 1) = md
  clear hst
  have ho : ∀ {r' : Option (List AV)}, RingRes st.keys st.su r' → r'.isSome = r3.isSome := fun {r'} h' => by
    obtain ⟨ps, hps, _, huq⟩ := Gh.ring N hrr
    rw [huq r' h', hps, Option.isSome_map, Option.isSome_map]
  refine W_Assign_T ?_
  repeat walk_at "st"
  refine ⟨Kp.inK (l.K ▸ keep_law.2.2.2.1), walk_spec (n := m + 1) l (d := d) (hA'.vs.le (by walk_at "le")) N hn hT S13 Gh Pr HG13.G HG13.L HG13.E HG13.kd HG13.fr hgk hb1 (fun r' => ho) Rd (by walk_at "le") (fun r4 D e1 A1 tl ed ad gi fi σ14 g' st' fr' hW G4 R4 S14 hb4 X14 hr4 hD he ha => ?_)⟩
  refine W_assign_T3 ⟨0, .inr hr4⟩ hh ?_
  iterate 3 walk_at "st"
  refine Nx.nx (by assumption) _ ?_
  exact law_due (z := ⟨s, nl, _, m + 1, nA, x, G, kv, nv, av, lv, gr, fl, stop, md, D, e1, A1⟩) (d := d) l (hA'.vs.le (by walk_at "le")) hh hE hC hgl hbl N rfl hn hT hstr Rd (X14 _ _ _ hfl13 (by decide)) (hgr13.ext X14 (by decide) (by decide)) hW hrr (hat.ext X14 (by decide)) (X14 _ _ _ hnA13 (by decide)) (X14 _ _ _ hk13 (by decide)) (K13.ext X14 (by decide)) G4 R4 S14 hb4 hD he ha (fun vs σ' g' hb' => hFx.re _ _ _ _ (h σ' g' hb'))
end
end Mine.Internal
open PySem PySem.W PyProof.Rows
set_option maxRecDepth 100000
namespace Mine.Internal
set_option maxHeartbeats 4000000 in
theorem head (hc : WalkO VW LO (XL VW []) (kHook KF KA KA_eq).says ROW.row.toRowW lawD [] fun f vs => PySem.call f vs) : ROW.Holds := by
  refine holds_law said fun rs => ?_
  refine holds_open (q := VW) (loose := LO) (Xt := fun s => xlAt VW [] s && recOk [] s) (XP := XL VW []) (Yf := Hook.obs (kHook KF KA KA_eq)) (Ya := Hook.val (kHook KF KA KA_eq)) (YP := Hook.says (kHook KF KA KA_eq)) (d := lawD) (kwd := []) (N := 4000)
    left (Hook.of _) (Hook.keeps _) (fun s e => xl_of s (Bool.and_eq_true_iff.mp e).1) XL.keeps (by kernel_rfl) (by kernel_rfl) (by kernel_rfl) (fun s e => recFacts_of (Bool.and_eq_true_iff.mp e).2) (by rfl) rs (by decide +kernel) ⟨rfl, rfl, rfl, rfl, rfl, by decide +kernel⟩ ?_ hc
  w_witness2
end Mine.Internal
namespace Mine.Internal
open PySem PySem.W PyProof.Rows PySem.Calls
noncomputable def tokOf (K : Frag) (x : Str) : Tok := match nsIn K mainGlobals x with
  | some (some (.int _ t)) => t
  | _ => default
theorem g_out {w : World} : nsIn (KK w) mainGlobals "_NODE_OUT" = some (some (.int (-1) (tokOf (KK w) "_NODE_OUT"))) := by kernel_rfl
theorem g_done {w : World} : nsIn (KK w) mainGlobals "_NODE_DONE" = some (some (.int (-2) (tokOf (KK w) "_NODE_DONE"))) := by kernel_rfl
theorem mkLv {c : Cx} {mg mb : Str → Option Value} (hK : c.K = KK c.w) (hg : c.base.Ns mainGlobals mg) (hb : c.base.Ns builtinsNs mb) (hbb : ∀ x : Str, x ≠ "__name__" → mb x = bootBuiltins x) : Lv c := by
  have gm : ∀ {x : Str} {v : Value}, nsIn (KK c.w) mainGlobals x = some (some v) → Glob c x v := fun e => .inl ⟨mg, hg, mg_of c.inK hg (hK ▸ e)⟩
  have gb : ∀ {x : Str} {v : Value}, nsIn (KK c.w) mainGlobals x = some none ∧ bootBuiltins x = some v ∧ codeOf x ≠ codeOf "__name__" → Glob c x v := fun {x v} e =>
    .inr ⟨mg, mb, hg, mg_none_of c.inK hg (hK ▸ e.1), hb, (hbb x fun z => e.2.2 (by rw [z])).trans e.2.1⟩
  exact ⟨⟨hK, gb ⟨by kernel_rfl, by kernel_rfl, by decide +kernel⟩, gb ⟨by kernel_rfl, by kernel_rfl, by decide +kernel⟩, gb ⟨by kernel_rfl, by kernel_rfl, by decide +kernel⟩, gb ⟨by kernel_rfl, by kernel_rfl, by decide +kernel⟩, gm (by kernel_rfl), gb ⟨by kernel_rfl, by kernel_rfl, by decide +kernel⟩, gb ⟨by kernel_rfl, by kernel_rfl, by decide +kernel⟩, gb ⟨by kernel_rfl, by kernel_rfl, by decide +kernel⟩, ⟨_, gm g_out⟩, ⟨_, gm g_done⟩⟩, gm (by kernel_rfl), gm (by kernel_rfl), gb ⟨by kernel_rfl, by kernel_rfl, by decide +kernel⟩, gb ⟨by kernel_rfl, by kernel_rfl, by decide +kernel⟩, gb ⟨by kernel_rfl, by kernel_rfl, by decide +kernel⟩, gb ⟨by kernel_rfl, by kernel_rfl, by decide +kernel⟩, gb ⟨by kernel_rfl, by kernel_rfl, by decide +kernel⟩, gb ⟨by kernel_rfl, by kernel_rfl, by decide +kernel⟩, gm (by kernel_rfl), gm (by kernel_rfl), gm (by kernel_rfl), gm (by kernel_rfl), gm (by kernel_rfl), gm (by kernel_rfl), gm (by kernel_rfl), gm (by kernel_rfl), gm (by kernel_rfl), gm (by kernel_rfl)⟩
theorem caller_ok {d : Nat} (h : d ≤ 40) : AOk callerA [] d :=
  ⟨by show 1 + claimMargin + 8 * d ≤ 900; unfold claimMargin; omega, by show 4 + 200 * d ≤ 9000; omega, ⟨[], rfl, fun e he => by cases he⟩, rfl, rfl⟩
theorem law_run {prog : Program} {w : World} {s : Shared} {mg mb : Str → Option Value} {fa l : Addr} {us : List Value} {is : List Int} {R : Result → Shared → Prop} (X : (KK w).In s.heap) (hg : s.heap.Ns mainGlobals mg) (hb : s.heap.Ns builtinsNs mb) (hbb : ∀ x : Str, x ≠ "__name__" → mb x = bootBuiltins x) (hn : s.heap.NoLimit) (hs : s.heap.NoSeer) (hgen : s.gens = #[])
    (hfa : mg "law" = some (.ref fa)) (hl : s.heap.IsList l us.toArray) (hi : IntsAre us is) (h63 : is.length ≤ 63)
    (h : ∀ s', (∀ b o, s.heap.get? b = some o → s'.heap.get? b = some o) → s'.os = s.os → AllBare s'.gens → R (.ok (.ret (.bool true))) s') :
    codeAny (model prog w) callerA (.call (.ref fa) ⟨[.ref l], []⟩) R s := by
  have hsys : (s.heap.get? sysModules).isSome = true := by
    obtain ⟨mm, ⟨o, _, _, ho, _⟩, _⟩ := hs.mods
    rw [ho]; rfl
  let c : Cx := ⟨prog, w, s.heap, s.os, KK w, X, hn, hsys⟩
  have hfa2 : fa = 201 := by
    have := mg_of X hg (show nsIn (KK w) mainGlobals "law" = some (some (.ref 201)) by kernel_rfl)
    rw [hfa] at this
    cases this; rfl
  subst hfa2
  have lv : Lv c := mkLv (c := c) rfl hg hb hbb
  have St0 : St c ⟨[], fun _ => none, #[]⟩ s := ⟨(fun _ _ e => e), (fun f hf => by cases hf), (fun f hf => by cases hf), .nil, (fun x k cl e => by cases e), rfl, hgen⟩
  have hbl : BL c l (I2 is) := by
    refine ⟨us.toArray, hl, ?_⟩
    show us.map er = I2 is
    clear hl h63
    induction hi with
    | nil => rfl
    | cons n t _ ih => rw [List.map_cons, ih]; rfl
  have := law_spec (c := c) (A := callerA) (fs := []) (σ := fun _ => none) (g := #[]) (d := 0) (s := l) (is := is) (R := fun r a => r = .ok (.ret (.bool true)) ∧ Bare a.gens) lv (caller_ok (by decide)) hbl h63 (fun y hy => absurd hy (Array.not_mem_empty y)) (fun σ' g' hb => ⟨rfl, hb⟩)
  exact codeAny_mono (this s St0) fun r s' pz33 => pz33.elim fun a pz34 => pz34.elim fun h1 pz35 => pz35.elim fun q1 q2 => by
    subst q1
    exact h s' h1.keep h1.os (h1.gens ▸ q2)
end Mine.Internal
open PySem PySem.W PyProof.Rows
set_option maxRecDepth 100000
set_option maxHeartbeats 4000000 in
theorem PySem.Challenge.cw_du0008_04_holds : PySem.Challenge.rw_du0008_04.Holds := by
  refine Mine.Internal.head ?_
  intro w s₀ s₁ mg mb G Y fa o pm cd doc dV kV ho hd hcd hD hmg hg args vals as hpre hlay hrd hwl hlo
  have KX := kIn_of Y
  have X := (Ground.X G).1
  have V := (Ground.X G).2
  refine Ground.open G ?_
  intro T B D TE TW
  try (refine guard_noD D (by decide +kernel) ?_; clear D)
  wrow_args hpre hlay hrd hwl hlo
  all_goals (
    first | refine callC_kw (enter_call ?_) | refine enter_call ?_ | refine callC_kw (enter_callW ?_) | refine enter_callW ?_ | w_how
    w_top on
    refine Mine.Internal.law_run KX T.g T.b T.builtins T.nolimit (T.seer (by decide +kernel)) hg hmg (by assumption) (by assumption) (by omega) fun s' h1 h2 h3 => ?_
    refine ⟨.inl ⟨.bool true, .bool true, [], rfl, fun cls => ?_, ?_, ?_, fun _ => ⟨.nil, fun a ha => by cases ha⟩⟩, .of_keep h1, h2, h3⟩
    · rfl
    · exact .bool true
    · first | kernel_rfl | with_unfolding_all rfl | decide +kernel)
