import PyProof.Rows.All
import Wide.All
import OpenK.AllK
import Wide.FinOn
import PyProof.ExcAttrAll.IndexError
import PySem.Challenge.RW_op0042_01
open PySem PySem.W PyProof.Rows PySem.Calls
set_option Elab.async false
set_option maxRecDepth 100000
set_option linter.unusedVariables false
set_option linter.unusedSectionVars false
namespace OpA

/-- the heap's size where the law begins: what stands below it is looked at as it is, above it a frame's slots are not looked at -/
structure Floor where
  height : Nat
abbrev Base := Inhabited Floor
def Base.lo [Base] : Nat := (default : Floor).height
variable [Base]
def norm (o : Obj) : Obj := match o.data with
  | .dict _ _ => { o with slots := #[] }
  | _ => o
def vg (h : Heap) (b : Addr) : Option Obj := if b < Base.lo then h.get? b else (h.get? b).map norm
/-- no namespace -/
def NoD (o : Obj) : Prop := ∀ es ep, o.data ≠ .dict es ep
theorem norm_data (o : Obj) : (norm o).data = o.data := by unfold norm; split <;> rfl
theorem norm_cls (o : Obj) : (norm o).cls = o.cls := by unfold norm; split <;> rfl
theorem norm_nd {o : Obj} (h : NoD o) : norm o = o := by
  unfold norm
  split
  · rename_i es ep e; exact absurd e (h es ep)
  · rfl
theorem vg_inv {h : Heap} {b : Addr} {o : Obj} (e : vg h b = some o) : ∃ o₀, h.get? b = some o₀ ∧ o₀.data = o.data ∧ o₀.cls = o.cls ∧ (NoD o → o₀ = o) := by
  unfold vg at e
  split at e
  · exact ⟨o, e, rfl, rfl, fun _ => rfl⟩
  · cases hq : h.get? b with
    | none => rw [hq] at e; cases e
    | some o₀ =>
      rw [hq] at e
      cases e
      refine ⟨o₀, rfl, (norm_data _).symm, (norm_cls _).symm, fun hn => ?_⟩
      have : NoD o₀ := fun es ep q => hn es ep (by rw [norm_data]; exact q)
      exact (norm_nd this).symm
theorem vg_get {h : Heap} {b : Addr} {o : Obj} (e : vg h b = some o) (hn : NoD o) : h.get? b = some o := by
  obtain ⟨o₀, e₀, _, _, q⟩ := vg_inv e
  rw [e₀, q hn]
theorem get_vg {h : Heap} {b : Addr} {o : Obj} (e : h.get? b = some o) (hn : NoD o) : vg h b = some o := by
  unfold vg
  split
  · exact e
  · rw [e]; exact congrArg some (norm_nd hn)
theorem vg_some {h : Heap} {b : Addr} {o : Obj} (e : h.get? b = some o) : ∃ o', vg h b = some o' ∧ o'.data = o.data := by
  unfold vg
  split
  · exact ⟨o, e, rfl⟩
  · rw [e]; exact ⟨_, rfl, norm_data o⟩
theorem vg_pt {h h' : Heap} {b : Addr} (k : ∀ o, h.get? b = some o → h'.get? b = some o) {o : Obj} (e : vg h b = some o) : vg h' b = some o := by
  unfold vg at e ⊢
  by_cases hb : b < Base.lo
  · rw [if_pos hb] at e ⊢; exact k _ e
  · rw [if_neg hb] at e ⊢
    cases hq : h.get? b with
    | none => rw [hq] at e; cases e
    | some o₀ => rw [hq] at e; rw [k _ hq]; exact e
theorem vg_none {h : Heap} {b : Addr} (e : h.get? b = none) : vg h b = none := by
  unfold vg
  split
  · exact e
  · rw [e]; rfl
theorem none_vg {h : Heap} {b : Addr} (e : vg h b = none) : h.get? b = none := by
  cases hq : h.get? b with
  | none => rfl
  | some o => obtain ⟨o', e', _⟩ := vg_some hq; rw [e] at e'; cases e'
theorem vg_lt {h : Heap} {b : Addr} {o : Obj} (e : vg h b = some o) : b < h.objs.size := by
  obtain ⟨o₀, e₀, _⟩ := vg_inv e; exact Heap.lt_size e₀
theorem vg_ge {h : Heap} {b : Addr} (hb : h.objs.size ≤ b) : vg h b = none := vg_none (Heap.get?_none_of_le hb)
theorem vg_new {h : Heap} {o : Obj} (hf : o.isFreed = false) (hn : NoD o) : vg (h.push o) h.objs.size = some o := get_vg (Heap.get?_push_size _ hf) hn
theorem sbut {a : Addr} {h h' : Heap} (hs : Heap.SameBut a h h') (b : Addr) (o : Obj) (nb : b ≠ a) (e : vg h b = some o) : vg h' b = some o := vg_pt (fun o e => hs.extBut b o nb e) e

/-- all of h stands in h' -/
abbrev Keep (h h' : Heap) : Prop := ∀ b o, vg h b = some o → vg h' b = some o
theorem Keep.rfl' {h : Heap} : Keep h h := fun _ _ e => e
theorem Keep.tr {a b c : Heap} (x : Keep a b) (y : Keep b c) : Keep a c := fun p o e => y p o (x p o e)
theorem Keep.of {h h' : Heap} (k : ∀ b o, h.get? b = some o → h'.get? b = some o) : Keep h h' := fun b _ e => vg_pt (k b) e
theorem Keep.push {h : Heap} (o : Obj) : Keep h (h.push o) := Keep.of fun _ _ e => Heap.get?_push_of_some _ e

theorem nsA {h h' : Heap} {a : Addr} {m : Str → Option Value} (hn : h.Ns a m) (k : ∀ o, vg h a = some o → vg h' a = some o) : h'.Ns a m := by
  obtain ⟨o, es, ep, e, hd, r⟩ := hn
  obtain ⟨o', e', d'⟩ := vg_some e
  obtain ⟨o₂, e₂, d₂, _⟩ := vg_inv (k _ e')
  exact ⟨o₂, es, ep, e₂, by rw [d₂, d', hd], r⟩
theorem nsK {h h' : Heap} {a : Addr} {m : Str → Option Value} (hn : h.Ns a m) (k : Keep h h') : h'.Ns a m := nsA hn fun o e => k _ o e
theorem cellA {h h' : Heap} {c : Addr} {v : Option Value} (x : h.IsCell c v) (k : ∀ o, vg h c = some o → vg h' c = some o) : h'.IsCell c v := by
  obtain ⟨o, e, d⟩ := x
  obtain ⟨o', e', d'⟩ := vg_some e
  obtain ⟨o₂, e₂, d₂, _⟩ := vg_inv (k _ e')
  exact ⟨o₂, e₂, by rw [d₂, d', d]⟩
theorem cellK {h h' : Heap} {c : Addr} {v : Option Value} (x : h.IsCell c v) (k : Keep h h') : h'.IsCell c v := cellA x fun o e => k _ o e
theorem limK {h h' : Heap} (x : h.NoLimit) (k : Keep h h') : h'.NoLimit := let ⟨mc, hn, e⟩ := x; ⟨mc, nsK hn k, e⟩
theorem codeK {h h' : Heap} {cd : Value} {n : Str} (x : h.CodeRec cd n) (k : Keep h h') : h'.CodeRec cd n := by
  obtain ⟨c, oc, vs, tq, hc, hoc, hdc, hq⟩ := x
  have hn : NoD oc := fun es ep q => by rw [hdc] at q; cases q
  exact ⟨c, oc, vs, tq, hc, vg_get (k _ _ (get_vg hoc hn)) hn, hdc, hq⟩

/-- addresses that may turn -/
abbrev Bad := Addr → Prop
abbrev KeepX (B : Bad) (h h' : Heap) : Prop := ∀ b o, ¬ B b → vg h b = some o → vg h' b = some o
def Live (B : Bad) (h : Heap) : Prop := ∀ b, B b → ∃ o, vg h b = some o
theorem Live.keep {B : Bad} {h h' : Heap} (x : Live B h) (k : Keep h h') : Live B h' := fun b hb => let ⟨o, e⟩ := x b hb; ⟨o, k _ _ e⟩
theorem Live.size {B : Bad} {h : Heap} (x : Live B h) : ¬ B h.objs.size := fun hb => by obtain ⟨o, e⟩ := x _ hb; exact Nat.lt_irrefl _ (vg_lt e)
theorem Live.lt {B : Bad} {h : Heap} (x : Live B h) {b : Addr} (hb : B b) : b < h.objs.size := by obtain ⟨o, e⟩ := x _ hb; exact vg_lt e

mutual
/-- v is d in the heap, no list or tuple of it among B -/
inductive Rep (B : Bad) (h : Heap) : Value → PyData → Prop
  | none : Rep B h .none .none
  | bool (b) : Rep B h (.bool b) (.bool b)
  | int (i t) : Rep B h (.int i t) (.int i)
  | list {a vs n xs} : ¬ B a → vg h a = some { cls := .type "list", data := .seq (List.toArray vs) n } → RepAll B h vs xs → Rep B h (.ref a) (.list xs)
  | tuple {a vs n xs} : ¬ B a → vg h a = some { cls := .type "tuple", data := .seq (List.toArray vs) n } → RepAll B h vs xs → Rep B h (.ref a) (.tuple xs)
inductive RepAll (B : Bad) (h : Heap) : List Value → List PyData → Prop
  | nil : RepAll B h [] []
  | cons {v vs d ds} : Rep B h v d → RepAll B h vs ds → RepAll B h (v :: vs) (d :: ds)
end

abbrev Ext (B : Bad) (h : Heap) (B' : Bad) (h' : Heap) : Prop := ∀ b o, ¬ B b → vg h b = some o → ¬ B' b ∧ vg h' b = some o

mutual
theorem Rep.lift {B B' : Bad} {h h' : Heap} (k : Ext B h B' h') : ∀ {v : Value} {d : PyData}, Rep B h v d → Rep B' h' v d
  | _, _, .none => .none
  | _, _, .bool b => .bool b
  | _, _, .int i t => .int i t
  | _, _, .list h1 h2 h5 => .list (k _ _ h1 h2).1 (k _ _ h1 h2).2 (RepAll.lift k h5)
  | _, _, .tuple h1 h2 h5 => .tuple (k _ _ h1 h2).1 (k _ _ h1 h2).2 (RepAll.lift k h5)
theorem RepAll.lift {B B' : Bad} {h h' : Heap} (k : Ext B h B' h') : ∀ {vs : List Value} {ds : List PyData}, RepAll B h vs ds → RepAll B' h' vs ds
  | _, _, .nil => .nil
  | _, _, .cons h1 h2 => .cons (Rep.lift k h1) (RepAll.lift k h2)
end
theorem Rep.keep {B : Bad} {h h' : Heap} (k : Keep h h') {v : Value} {d : PyData} (r : Rep B h v d) : Rep B h' v d := r.lift fun b o n e => ⟨n, k b o e⟩
theorem Rep.keepX {B : Bad} {h h' : Heap} (k : KeepX B h h') {v : Value} {d : PyData} (r : Rep B h v d) : Rep B h' v d := r.lift fun b o n e => ⟨n, k b o n e⟩
theorem Rep.sub {B B' : Bad} {h : Heap} (k : ∀ b, B' b → B b) {v : Value} {d : PyData} (r : Rep B h v d) : Rep B' h v d := r.lift fun b o n e => ⟨fun q => n (k b q), e⟩
theorem RepAll.keep {B : Bad} {h h' : Heap} (k : Keep h h') {v : List Value} {d : List PyData} (r : RepAll B h v d) : RepAll B h' v d := r.lift fun b o n e => ⟨n, k b o e⟩
theorem RepAll.keepX {B : Bad} {h h' : Heap} (k : KeepX B h h') {v : List Value} {d : List PyData} (r : RepAll B h v d) : RepAll B h' v d := r.lift fun b o n e => ⟨n, k b o n e⟩
theorem RepAll.sub {B B' : Bad} {h : Heap} (k : ∀ b, B' b → B b) {v : List Value} {d : List PyData} (r : RepAll B h v d) : RepAll B' h v d := r.lift fun b o n e => ⟨fun q => n (k b q), e⟩

mutual
theorem Rep.reads {B : Bad} {h : Heap} : ∀ {v : Value} {d : PyData}, Rep B h v d → ∃ as, Reads h v d as
  | _, _, .none => ⟨_, .none⟩
  | _, _, .bool b => ⟨_, .bool b⟩
  | _, _, .int i t => ⟨_, .int i t⟩
  | _, _, .list _ h2 h5 => let ⟨_, r⟩ := RepAll.reads h5; ⟨_, .list (vg_get h2 fun _ _ q => by cases q) rfl rfl r⟩
  | _, _, .tuple _ h2 h5 => let ⟨_, r⟩ := RepAll.reads h5; ⟨_, .tuple (vg_get h2 fun _ _ q => by cases q) rfl rfl r⟩
theorem RepAll.reads {B : Bad} {h : Heap} : ∀ {vs : List Value} {ds : List PyData}, RepAll B h vs ds → ∃ as, ReadsAll h vs ds as
  | _, _, .nil => ⟨_, .nil⟩
  | _, _, .cons h1 h2 => let ⟨_, r1⟩ := Rep.reads h1; let ⟨_, r2⟩ := RepAll.reads h2; ⟨_, .cons r1 r2⟩
end

theorem Rep.int_inv {B : Bad} {h : Heap} {v : Value} {i : Int} (r : Rep B h v (.int i)) : ∃ t, v = .int i t := by cases r; exact ⟨_, rfl⟩
theorem Rep.bool_inv {B : Bad} {h : Heap} {v : Value} {i : Bool} (r : Rep B h v (.bool i)) : v = .bool i := by cases r; rfl
abbrev lstObj (vs : List Value) (n : Nat) : Obj := { cls := .type "list", data := .seq vs.toArray n }
theorem nd_lst {vs : List Value} {n : Nat} : NoD (lstObj vs n) := fun _ _ q => by cases q
theorem gl {h : Heap} {a : Addr} {vs : List Value} {n : Nat} (e : vg h a = some (lstObj vs n)) : h.get? a = some (lstObj vs n) := vg_get e nd_lst
theorem lg {h : Heap} {a : Addr} {vs : List Value} {n : Nat} (e : h.get? a = some (lstObj vs n)) : vg h a = some (lstObj vs n) := get_vg e nd_lst
theorem isList_obj {h : Heap} {a : Addr} {vs : List Value} {n : Nat} (e : vg h a = some (lstObj vs n)) : h.IsList a vs.toArray := ⟨_, gl e, rfl, n, rfl⟩
theorem Rep.list_inv {B : Bad} {h : Heap} {v : Value} {xs : List PyData} (r : Rep B h v (.list xs)) : ∃ a vs n, v = .ref a ∧ ¬ B a ∧ vg h a = some (lstObj vs n) ∧ RepAll B h vs xs := by
  cases r with
  | list h1 h2 h5 => exact ⟨_, _, _, rfl, h1, h2, h5⟩
theorem Rep.tuple_inv {B : Bad} {h : Heap} {v : Value} {xs : List PyData} (r : Rep B h v (.tuple xs)) : ∃ a vs n, v = .ref a ∧ ¬ B a ∧ vg h a = some { cls := .type "tuple", data := .seq (List.toArray vs) n } ∧ RepAll B h vs xs := by
  cases r with
  | tuple h1 h2 h5 => exact ⟨_, _, _, rfl, h1, h2, h5⟩

theorem RepAll.length {B : Bad} {h : Heap} : ∀ {vs : List Value} {ds : List PyData}, RepAll B h vs ds → vs.length = ds.length
  | _, _, .nil => rfl
  | _, _, .cons _ h2 => congrArg (· + 1) h2.length
theorem RepAll.get {B : Bad} {h : Heap} : ∀ {vs : List Value} {ds : List PyData}, RepAll B h vs ds → ∀ (i : Nat) (d : PyData), ds[i]? = some d → ∃ v, vs[i]? = some v ∧ Rep B h v d
  | _, _, .nil, _, _, e => nomatch e
  | _, _, .cons h1 _, 0, _, e => by cases e; exact ⟨_, rfl, h1⟩
  | _, _, .cons _ h2, i + 1, d, e => h2.get i d e
theorem RepAll.append {B : Bad} {h : Heap} : ∀ {vs ws : List Value} {ds es : List PyData}, RepAll B h vs ds → RepAll B h ws es → RepAll B h (vs ++ ws) (ds ++ es)
  | _, _, _, _, .nil, r => r
  | _, _, _, _, .cons h1 h2, r => .cons h1 (h2.append r)
theorem RepAll.snoc {B : Bad} {h : Heap} {vs : List Value} {ds : List PyData} {v : Value} {d : PyData} (r : RepAll B h vs ds) (q : Rep B h v d) : RepAll B h (vs ++ [v]) (ds ++ [d]) := r.append (.cons q .nil)
theorem RepAll.ints {B : Bad} {h : Heap} : ∀ {vs : List Value} {ns : List Int}, RepAll B h vs (ns.map .int) → IntsAre vs ns
  | _, [], r => by cases r; exact .nil
  | _, n :: ns, r => by
    cases r with
    | cons h1 h2 => obtain ⟨t, rfl⟩ := h1.int_inv; exact .cons _ _ (RepAll.ints h2)
theorem RepAll.ofInts {B : Bad} {h : Heap} : ∀ {vs : List Value} {ns : List Int}, IntsAre vs ns → RepAll B h vs (ns.map .int)
  | _, _, .nil => .nil
  | _, _, .cons _ _ q => .cons (.int _ _) (RepAll.ofInts q)

end OpA
namespace OpA
variable [Base]

/-- t runs without a raise from every state above h, keeps all that stands, and gives P -/
def Ev (prog : Program) (w : World) (A : Around) (B : Bad) {α : Type} (t : Sem α) (h : Heap) (P : Heap → α → Prop) : Prop :=
  ∀ (s : Shared) (Q : α → Shared → Prop) (E : Value → Shared → Prop), Keep h s.heap → Live B s.heap →
    (∀ v h' tk, Keep s.heap h' → P h' v → Q v { s with heap := h', toks := tk }) → wpAny (model prog w) A t Q E s

abbrev EvD (prog : Program) (w : World) (A : Around) (B : Bad) (t : Sem Value) (h : Heap) (d : PyData) : Prop := Ev prog w A B t h fun h' v => Rep B h' v d
abbrev EvB (prog : Program) (w : World) (A : Around) (B : Bad) (t : Sem Bool) (h : Heap) (b : Bool) : Prop := Ev prog w A B t h fun _ v => v = b

section
variable {prog : Program} {w : World} {A : Around} {B : Bad} {h : Heap} {env : Env}

theorem Ev.up {α : Type} {t : Sem α} {P : Heap → α → Prop} {h' : Heap} (x : Ev prog w A B t h P) (k : Keep h h') : Ev prog w A B t h' P :=
  fun s Q E hk hl hq => x s Q E (k.tr hk) hl hq
theorem Ev.mono {α : Type} {t : Sem α} {P P' : Heap → α → Prop} (x : Ev prog w A B t h P) (f : ∀ h' v, Keep h h' → P h' v → P' h' v) : Ev prog w A B t h P' :=
  fun s Q E hk hl hq => x s Q E hk hl fun v h' tk k p => hq v h' tk k (f h' v (hk.tr k) p)
theorem Ev.of_in1 {α : Type} {t : Sem α} {P : Heap → α → Prop} (x : Ev prog w A.in1 B t h P) : Ev prog w A B t h P :=
  fun s Q E hk hl hq => wpAny_of_in1 (x s Q E hk hl hq)
theorem Ev.pure {α : Type} {a : α} {P : Heap → α → Prop} (x : ∀ h', Keep h h' → P h' a) : Ev prog w A B (Pure.pure a : Sem α) h P :=
  fun s Q E hk hl hq => wpAny_pure (hq a s.heap s.toks (Keep.rfl') (x _ hk))
theorem Ev.bind {α β : Type} {t : Sem α} {f : α → Sem β} {P : Heap → α → Prop} {P' : Heap → β → Prop} (x : Ev prog w A B t h P) (y : ∀ h' v, Keep h h' → P h' v → Ev prog w A B (f v) h' P') :
    Ev prog w A B (t >>= f) h P' :=
  fun s Q E hk hl hq => wpAny_bind (x s _ E hk hl fun v h' tk k p => y h' v (hk.tr k) p _ _ _ Keep.rfl' (hl.keep k) fun v' h'' tk' k' p' => hq v' h'' tk' (k.tr k') p')
/-- two in a row, the first one's rep carried -/
theorem Ev.two {t u : Sem Value} {op : Value → Value → Sem Value} {d₁ d₂ : PyData} {P : Heap → Value → Prop}
    (x : EvD prog w A B t h d₁) (y : EvD prog w A B u h d₂) (z : ∀ h' a b, Keep h h' → Rep B h' a d₁ → Rep B h' b d₂ → Ev prog w A B (op a b) h' P)
    {T : Sem Value} (hT : ∀ s Q E, wpAny (model prog w) A t (fun a s₁ => wpAny (model prog w) A u (fun b s₂ => wpAny (model prog w) A (op a b) Q E s₂) E s₁) E s → wpAny (model prog w) A T Q E s) :
    Ev prog w A B T h P :=
  fun s Q E hk hl hq => hT s Q E (x s _ E hk hl fun a h₁ tk₁ k₁ p₁ => y _ _ E (hk.tr k₁) (hl.keep k₁) fun b h₂ tk₂ k₂ p₂ =>
    z h₂ a b ((hk.tr k₁).tr k₂) (p₁.keep k₂) p₂ _ Q E Keep.rfl' ((hl.keep k₁).keep k₂) fun v h₃ tk₃ k₃ p₃ => hq v h₃ tk₃ ((k₁.tr k₂).tr k₃) p₃)

theorem ev_const_int {i : Int} {k : Nat} {pos : Pos} : EvD prog w A B (eval (.Constant (.int i) k pos) env) h (.int i) :=
  fun s Q E hk hl hq => wpAny_Constant_int (hq _ s.heap _ Keep.rfl' (.int i _))
theorem ev_const_bool {i : Bool} {k : Nat} {pos : Pos} : EvD prog w A B (eval (.Constant (.bool i) k pos) env) h (.bool i) :=
  fun s Q E hk hl hq => wpAny_Constant_bool (hq _ s.heap s.toks Keep.rfl' (.bool i))

/-- the name x is v in every heap above h -/
def LdN (env : Env) (x : Str) (h : Heap) (v : Value) : Prop :=
  ∀ (M : Model) (A : Around) (s : Shared) (Q : Value → Shared → Prop) (E : Value → Shared → Prop), Keep h s.heap → Q v s → wpAny M A (loadName env x) Q E s
theorem LdN.up {x : Str} {h h' : Heap} {v : Value} (l : LdN env x h v) (k : Keep h h') : LdN env x h' v := fun M A s Q E hk hq => l M A s Q E (k.tr hk) hq
theorem ldn_local {x : Str} {m : Str → Option Value} {v : Value} (hk : env.scope.kind = .function) (hl : env.kindOf x = some .local) (hn : h.Ns env.locals m) (hv : m x = some v) : LdN env x h v :=
  fun M A s Q E k hq => wpAny_loadName_local hk hl (nsK hn k) hv hq
theorem ldn_cell {x : Str} {c : Addr} {v : Value} (hk : env.scope.kind = .function) (hl : env.kindOf x = some .cell) (hc : env.cells.lookup x = some c) (hv : h.IsCell c (some v)) : LdN env x h v :=
  fun M A s Q E k hq => wpAny_loadName_cell hk hl hc (cellK hv k) hq
theorem ldn_free {x : Str} {c : Addr} {v : Value} (hk : env.scope.kind = .function) (hl : env.kindOf x = some .free) (hc : env.cells.lookup x = some c) (hv : h.IsCell c (some v)) (hn : (x == ("__classdict__" : Str)) = false := by decide) : LdN env x h v :=
  fun M A s Q E k hq => wpAny_loadName_free hk hl hc (cellK hv k) hq hn

theorem ev_name {x : Str} {pos : Pos} {v : Value} {d : PyData} (l : LdN env x h v) (r : Rep B h v d) (hd : (x == ("__debug__" : Str)) = false := by decide) :
    EvD prog w A B (eval (.Name x pos) env) h d :=
  fun s Q E hk hl hq => wpAny_Name (l _ _ s _ E hk (hq v s.heap s.toks Keep.rfl' (r.keep hk))) hd
theorem ev_nameV {x : Str} {pos : Pos} {v : Value} (l : LdN env x h v) (hd : (x == ("__debug__" : Str)) = false := by decide) :
    Ev prog w A B (eval (.Name x pos) env) h (fun _ u => u = v) :=
  fun s Q E hk hl hq => wpAny_Name (l _ _ s _ E hk (hq v s.heap s.toks Keep.rfl' rfl)) hd

theorem ev_bin {l r : Expr} {op : Operator} {pos : Pos} {d₁ d₂ d : PyData} (x : EvD prog w A B (eval l env) h d₁) (y : EvD prog w A B (eval r env) h d₂)
    (z : ∀ h' a b, Keep h h' → Rep B h' a d₁ → Rep B h' b d₂ → EvD prog w A B (binaryOp op a b) h' d) : EvD prog w A B (eval (.BinOp l op r pos) env) h d :=
  Ev.two x y z fun s Q E q => wpAny_BinOp q
theorem ev_cmp {l r : Expr} {op : CmpOp} {pos : Pos} {d₁ d₂ d : PyData} (x : EvD prog w A B (eval l env) h d₁) (y : EvD prog w A B (eval r env) h d₂)
    (z : ∀ h' a b, Keep h h' → Rep B h' a d₁ → Rep B h' b d₂ → EvD prog w A B (compareOp op a b) h' d) (hm : behindInMarks op r = false := by with_unfolding_all rfl) : EvD prog w A B (eval (.Compare l [op] [r] pos) env) h d :=
  Ev.two x y z fun s Q E q => wpAny_Compare1 q hm
theorem evB_cmp {l r : Expr} {op : CmpOp} {pos : Pos} {d₁ d₂ : PyData} {b : Bool} {whole : Sem Value} (x : EvD prog w A B (eval l env) h d₁) (y : EvD prog w A B (eval r env) h d₂)
    (z : ∀ h' a b', Keep h h' → Rep B h' a d₁ → Rep B h' b' d₂ → EvD prog w A B (compareOp op a b') h' (.bool b)) (hm : behindInMarks op r = false := by with_unfolding_all rfl) : EvB prog w A B (isTrue (.Compare l [op] [r] pos) env whole) h b :=
  fun s Q E hk hl hq => wpAny_isTrue_Compare1 (x s _ E hk hl fun a h₁ tk₁ k₁ p₁ => y _ _ E (hk.tr k₁) (hl.keep k₁) fun b' h₂ tk₂ k₂ p₂ =>
    z h₂ a b' ((hk.tr k₁).tr k₂) (p₁.keep k₂) p₂ _ _ E Keep.rfl' ((hl.keep k₁).keep k₂) fun v h₃ tk₃ k₃ p₃ => by
      cases p₃.bool_inv
      exact wpAny_truthy_bool (hq _ h₃ tk₃ ((k₁.tr k₂).tr k₃) rfl)) hm
theorem evB_not {x : Expr} {pos : Pos} {whole : Sem Value} {b : Bool} (y : EvB prog w A B (isTrue x env (eval x env)) h b) : EvB prog w A B (isTrue (.UnaryOp .Not x pos) env whole) h (!b) :=
  fun s Q E hk hl hq => wpAny_isTrue_Not (y s _ E hk hl fun v h' tk k p => hq _ h' tk k (by rw [p]))
theorem evB_or2 {x y : Expr} {pos : Pos} {whole : Sem Value} {b c : Bool} (hx : EvB prog w A B (isTrue x env (eval x env)) h b) (hy : EvB prog w A B (isTrue y env (eval y env)) h c) :
    EvB prog w A B (isTrue (.BoolOp .Or [x, y] pos) env whole) h (b || c) :=
  fun s Q E hk hl hq => wpAny_isTrue_BoolOp (wpAny_allTrue_Or_cons (hx s _ E hk hl fun v h' tk k p => by
    subst p
    cases v with
    | true => exact hq _ h' tk k rfl
    | false => exact wpAny_allTrue_Or_cons (hy _ _ E (hk.tr k) (hl.keep k) fun v' h'' tk' k' p' => by
        subst p'
        cases v' with
        | true => exact hq _ h'' tk' (k.tr k') rfl
        | false => exact wpAny_allTrue_Or_nil (hq _ h'' tk' (k.tr k') rfl))))
/-- a value whose truth is a bool's -/
theorem evB_val {e : Expr} {whole : Sem Value} {b : Bool} (x : EvD prog w A B whole h (.bool b)) (he : isTrue e env whole = (do let v ← whole; standAt e.pos; holding [v] (truthy v)) := by rfl) :
    EvB prog w A B (isTrue e env whole) h b :=
  fun s Q E hk hl hq => wpAny_isTrue_value (x s _ E hk hl fun v h' tk k p => by cases p.bool_inv; exact wpAny_truthy_bool (hq _ h' tk k rfl)) he
theorem ev_and2 {x y : Expr} {pos : Pos} {b c : Bool} (hx : EvD prog w A B (eval x env) h (.bool b)) (hy : b = true → EvD prog w A B (eval y env) h (.bool c)) : EvD prog w A B (eval (.BoolOp .And [x, y] pos) env) h (.bool (b && c)) :=
  fun s Q E hk hl hq => wpAny_And2 (hx s _ E hk hl fun v h' tk k p => by
    cases p.bool_inv
    refine wpAny_truthy_bool ?_
    cases b with
    | false => exact hq _ h' tk k (.bool _)
    | true => exact hy rfl _ _ E (hk.tr k) (hl.keep k) fun v' h'' tk' k' p' => hq _ h'' tk' (k.tr k') p')

/-- ops on ints and bools -/
theorem Ev.tok {t : Sem Value} {P : Heap → Value → Prop} (x : ∀ s Q E, Keep h s.heap → (∀ v tk, P s.heap v → Q v { s with toks := tk }) → wpAny (model prog w) A t Q E s) : Ev prog w A B t h P :=
  fun s Q E hk hl hq => x s Q E hk fun v tk p => hq v s.heap tk Keep.rfl' p

theorem op_add {h' : Heap} {a b : Value} {x y : Int} (p : Rep B h' a (.int x)) (q : Rep B h' b (.int y)) : EvD prog w A B (binaryOp .Add a b) h' (.int (x + y)) := by
  obtain ⟨_, rfl⟩ := p.int_inv; obtain ⟨_, rfl⟩ := q.int_inv
  exact Ev.tok fun s Q E hk hq => add_int (hq _ _ (.int _ _))
theorem op_sub {h' : Heap} {a b : Value} {x y : Int} (p : Rep B h' a (.int x)) (q : Rep B h' b (.int y)) : EvD prog w A B (binaryOp .Sub a b) h' (.int (x - y)) := by
  obtain ⟨_, rfl⟩ := p.int_inv; obtain ⟨_, rfl⟩ := q.int_inv
  exact Ev.tok fun s Q E hk hq => PyProof.Rows.sub_int (hq _ _ (.int _ _))
theorem op_mul {h' : Heap} {a b : Value} {x y : Int} (p : Rep B h' a (.int x)) (q : Rep B h' b (.int y)) (hm : IntMulOk x y) : EvD prog w A B (binaryOp .Mult a b) h' (.int (x * y)) := by
  obtain ⟨_, rfl⟩ := p.int_inv; obtain ⟨_, rfl⟩ := q.int_inv
  exact Ev.tok fun s Q E hk hq => mul_int (hq _ _ (.int _ _)) hm
theorem op_mulB {h' : Heap} {a b : Value} {x : Int} {y : Bool} (p : Rep B h' a (.int x)) (q : Rep B h' b (.bool y)) : EvD prog w A B (binaryOp .Mult a b) h' (.int (x * if y = true then 1 else 0)) := by
  obtain ⟨_, rfl⟩ := p.int_inv; cases q.bool_inv
  exact Ev.tok fun s Q E hk hq => IntBool.mul_int_bool (hq _ _ (.int _ _))
theorem op_subB {h' : Heap} {a b : Value} {x y : Bool} (p : Rep B h' a (.bool x)) (q : Rep B h' b (.bool y)) : EvD prog w A B (binaryOp .Sub a b) h' (.int (b2i x - b2i y)) := by
  cases p.bool_inv; cases q.bool_inv
  exact Ev.tok fun s Q E hk hq => sub_bool (hq _ _ (.int _ _))
theorem op_mod {h' : Heap} {a b : Value} {x y : Int} (p : Rep B h' a (.int x)) (q : Rep B h' b (.int y)) (h0 : y ≠ 0) : EvD prog w A B (binaryOp .Mod a b) h' (.int (x.fmod y)) := by
  obtain ⟨_, rfl⟩ := p.int_inv; obtain ⟨_, rfl⟩ := q.int_inv
  exact Ev.tok fun s Q E hk hq => mod_int h0 (hq _ _ (.int _ _))
theorem op_fdiv {h' : Heap} {a b : Value} {x y : Int} (p : Rep B h' a (.int x)) (q : Rep B h' b (.int y)) (h0 : y ≠ 0) (hs : y.natAbs < 1073741824) : EvD prog w A B (binaryOp .FloorDiv a b) h' (.int (x.fdiv y)) := by
  obtain ⟨_, rfl⟩ := p.int_inv; obtain ⟨_, rfl⟩ := q.int_inv
  exact Ev.tok fun s Q E hk hq => floordiv_int h0 (hq _ _ (.int _ _)) (Or.inl (PyProof.noPylong_small hs))
theorem op_lt {h' : Heap} {a b : Value} {x y : Int} (p : Rep B h' a (.int x)) (q : Rep B h' b (.int y)) : EvD prog w A B (compareOp .Lt a b) h' (.bool (decide (x < y))) := by
  obtain ⟨_, rfl⟩ := p.int_inv; obtain ⟨_, rfl⟩ := q.int_inv
  exact Ev.tok fun s Q E hk hq => PyProof.Rows.lt_int (hq _ s.toks (.bool _))
theorem op_gt {h' : Heap} {a b : Value} {x y : Int} (p : Rep B h' a (.int x)) (q : Rep B h' b (.int y)) : EvD prog w A B (compareOp .Gt a b) h' (.bool (decide (y < x))) := by
  obtain ⟨_, rfl⟩ := p.int_inv; obtain ⟨_, rfl⟩ := q.int_inv
  exact Ev.tok fun s Q E hk hq => PyProof.Rows.gt_int (hq _ s.toks (.bool _))
theorem op_le {h' : Heap} {a b : Value} {x y : Int} (p : Rep B h' a (.int x)) (q : Rep B h' b (.int y)) : EvD prog w A B (compareOp .LtE a b) h' (.bool (decide (x ≤ y))) := by
  obtain ⟨_, rfl⟩ := p.int_inv; obtain ⟨_, rfl⟩ := q.int_inv
  exact Ev.tok fun s Q E hk hq => PyProof.Rows.le_int (hq _ s.toks (.bool _))
theorem op_ge {h' : Heap} {a b : Value} {x y : Int} (p : Rep B h' a (.int x)) (q : Rep B h' b (.int y)) : EvD prog w A B (compareOp .GtE a b) h' (.bool (decide (y ≤ x))) := by
  obtain ⟨_, rfl⟩ := p.int_inv; obtain ⟨_, rfl⟩ := q.int_inv
  exact Ev.tok fun s Q E hk hq => PyProof.Rows.ge_int (hq _ s.toks (.bool _))
theorem op_eq {h' : Heap} {a b : Value} {x y : Int} (p : Rep B h' a (.int x)) (q : Rep B h' b (.int y)) : EvD prog w A B (compareOp .Eq a b) h' (.bool (x == y)) := by
  obtain ⟨_, rfl⟩ := p.int_inv; obtain ⟨_, rfl⟩ := q.int_inv
  exact Ev.tok fun s Q E hk hq => PyProof.Rows.eq_int (hq _ s.toks (.bool _))
theorem op_ne {h' : Heap} {a b : Value} {x y : Int} (p : Rep B h' a (.int x)) (q : Rep B h' b (.int y)) : EvD prog w A B (compareOp .NotEq a b) h' (.bool (x != y)) := by
  obtain ⟨_, rfl⟩ := p.int_inv; obtain ⟨_, rfl⟩ := q.int_inv
  exact Ev.tok fun s Q E hk hq => PyProof.Rows.ne_int (hq _ s.toks (.bool _))
/-- == and != over data -/
theorem op_eqD {h' : Heap} {a b : Value} {x y : PyData} (p : Rep B h' a x) (q : Rep B h' b y) (hx : PySem.SeqAt.shaped x = true) (hy : PySem.SeqAt.shaped y = true) (hu : A.units + 64 < cLine) : EvD prog w A B (compareOp .Eq a b) h' (.bool (PyData.eqv x y)) :=
  fun s Q E hk hl hq => by
    obtain ⟨_, r1⟩ := (p.keep hk).reads; obtain ⟨_, r2⟩ := (q.keep hk).reads
    exact PySem.SeqAt.compareEq_shaped r1 r2 hx hy hu (hq _ s.heap s.toks Keep.rfl' (.bool _))
theorem op_neD {h' : Heap} {a b : Value} {x y : PyData} (p : Rep B h' a x) (q : Rep B h' b y) (hx : PySem.SeqAt.shaped x = true) (hy : PySem.SeqAt.shaped y = true) (hu : A.units + 64 < cLine) : EvD prog w A B (compareOp .NotEq a b) h' (.bool (!PyData.eqv x y)) :=
  fun s Q E hk hl hq => by
    obtain ⟨_, r1⟩ := (p.keep hk).reads; obtain ⟨_, r2⟩ := (q.keep hk).reads
    exact PySem.SeqAt.compareNe_shaped r1 r2 hx hy hu (hq _ s.heap s.toks Keep.rfl' (.bool _))
end
end OpA
namespace OpA
variable [Base]
section
variable {prog : Program} {w : World} {A : Around} {B : Bad} {h : Heap} {env : Env}

theorem sizeLine_big {n : Nat} (hn : n ≤ 1000000) : n ≤ sizeLine := Nat.le_trans hn (by rw [sizeLine_eq]; decide)

theorem evA_nil {pos : Pos} : Ev prog w A B (spliced (backTo pos (starEach [] env))) h (fun h' vs => RepAll B h' vs []) :=
  fun s Q E hk hl hq => args_nil (hq [] s.heap s.toks Keep.rfl' .nil)
theorem evA_cons {pos : Pos} {e : Expr} {rest : List Expr} {d : PyData} {ds : List PyData} (x : EvD prog w A B (eval e env) h d) (y : Ev prog w A B (spliced (backTo pos (starEach rest env))) h (fun h' vs => RepAll B h' vs ds))
    (he : starEach (e :: rest) env = (false, eval e env) :: starEach rest env := by rfl) : Ev prog w A B (spliced (backTo pos (starEach (e :: rest) env))) h (fun h' vs => RepAll B h' vs (d :: ds)) :=
  fun s Q E hk hl hq => args_cons (x s _ E hk hl fun v h₁ tk₁ k₁ p₁ => y _ _ E (hk.tr k₁) (hl.keep k₁) fun vs h₂ tk₂ k₂ p₂ => hq _ h₂ tk₂ (k₁.tr k₂) (.cons (p₁.keep k₂) p₂)) he

/-- a new list -/
theorem rep_new {hp : Heap} {vs : List Value} {ds : List PyData} (hl : Live B hp) (r : RepAll B hp vs ds) : Rep B (hp.push { cls := .type "list", data := .seq vs.toArray }) (.ref hp.objs.size) (.list ds) :=
  .list hl.size (vg_new rfl fun _ _ q => by cases q) (r.keep (Keep.push _))
theorem rep_newT {hp : Heap} {vs : List Value} {ds : List PyData} (hl : Live B hp) (r : RepAll B hp vs ds) : Rep B (hp.push { cls := .type "tuple", data := .seq vs.toArray }) (.ref hp.objs.size) (.tuple ds) :=
  .tuple hl.size (vg_new rfl fun _ _ q => by cases q) (r.keep (Keep.push _))

theorem ev_list {elts : List Expr} {pos : Pos} {ds : List PyData} (x : Ev prog w A B (spliced (backTo pos (starEach elts env))) h (fun h' vs => RepAll B h' vs ds)) (hn : ds.length ≤ 1000000 := by first | decide | simp) :
    EvD prog w A B (eval (.List elts pos) env) h (.list ds) :=
  fun s Q E hk hl hq => wpAny_List (x s _ E hk hl fun vs h' tk k p => ⟨by rw [p.length]; exact sizeLine_big hn, hq _ _ _ (k.tr (Keep.push _)) (rep_new (hl.keep k) p)⟩)
theorem ev_tuple {elts : List Expr} {kk : Nat} {pos : Pos} {ds : List PyData} (x : Ev prog w A B (spliced (backTo pos (starEach elts env))) h (fun h' vs => RepAll B h' vs ds)) (hn : ds.length ≤ 1000000 := by first | decide | simp) :
    EvD prog w A B (eval (.Tuple elts kk pos) env) h (.tuple ds) :=
  fun s Q E hk hl hq => wpAny_Tuple (x s _ E hk hl fun vs h' tk k p => ⟨by rw [p.length]; exact sizeLine_big hn, hq _ _ _ (k.tr (Keep.push _)) (rep_newT (hl.keep k) p)⟩)

theorem ev_callB {f : Str} {p pos : Pos} {e : Expr} {rest : List Expr} {id : String} {ds : List PyData} {P : Heap → Value → Prop} (l : LdN env f h (.builtin id))
    (x : Ev prog w A B (spliced (backTo pos (starEach (e :: rest) env))) h (fun h' vs => RepAll B h' vs ds))
    (z : ∀ h' vs, Keep h h' → RepAll B h' vs ds → Ev prog w A B (call (.builtin id) vs) h' P)
    (hd : (f == ("__debug__" : Str)) = false := by decide)
    (he : starEach (e :: rest) env = (false, eval e env) :: starEach rest env := by rfl)
    (hplain : (backTo pos (starEach rest env)).any (·.1) = false := by rfl) :
    Ev prog w A B (eval (.Call (.Name f p) (e :: rest) [] pos) env) h P :=
  fun s Q E hk hl hq => Call_ (wpAny_Name (l _ _ s _ E hk (callWith_builtin1 (x s _ E hk hl fun vs h' tk k r => z h' vs (hk.tr k) r _ Q E Keep.rfl' (hl.keep k) fun v h'' tk' k' p' => hq v h'' tk' (k.tr k') p') he hplain)) hd)
theorem ev_callT {f : Str} {p pos : Pos} {e : Expr} {rest : List Expr} {T : String} {ds : List PyData} {P : Heap → Value → Prop} (l : LdN env f h (.type T))
    (x : Ev prog w A B (spliced (backTo pos (starEach (e :: rest) env))) h (fun h' vs => RepAll B h' vs ds))
    (z : ∀ h' vs, Keep h h' → RepAll B h' vs ds → Ev prog w A B (call (.type T) vs) h' P)
    (hd : (f == ("__debug__" : Str)) = false := by decide)
    (he : starEach (e :: rest) env = (false, eval e env) :: starEach rest env := by rfl)
    (hplain : (backTo pos (starEach rest env)).any (·.1) = false := by rfl) :
    Ev prog w A B (eval (.Call (.Name f p) (e :: rest) [] pos) env) h P :=
  fun s Q E hk hl hq => Call_ (wpAny_Name (l _ _ s _ E hk (PyProof.Rows.callWith_type1 (x s _ E hk hl fun vs h' tk k r => z h' vs (hk.tr k) r _ Q E Keep.rfl' (hl.keep k) fun v h'' tk' k' p' => hq v h'' tk' (k.tr k') p') he hplain)) hd)
theorem ev_callF {f : Str} {p pos : Pos} {e : Expr} {rest : List Expr} {a : Addr} {o : Obj} {fd : FuncData} {ds : List PyData} {P : Heap → Value → Prop} (l : LdN env f h (.ref a)) (ho : vg h a = some o) (hf : o.data = .func fd)
    (x : Ev prog w A B (spliced (backTo pos (starEach (e :: rest) env))) h (fun h' vs => RepAll B h' vs ds))
    (z : ∀ h' vs, Keep h h' → RepAll B h' vs ds → Ev prog w A B (call (.ref a) vs) h' P)
    (hd : (f == ("__debug__" : Str)) = false := by decide)
    (he : starEach (e :: rest) env = (false, eval e env) :: starEach rest env := by rfl) :
    Ev prog w A B (eval (.Call (.Name f p) (e :: rest) [] pos) env) h P :=
  fun s Q E hk hl hq => Call_ (wpAny_Name (l _ _ s _ E hk (callWith_def hf (x s _ E hk hl fun vs h' tk k r => ⟨vg_get (k _ _ (hk _ _ ho)) (fun _ _ q => by rw [hf] at q; cases q), z h' vs (hk.tr k) r _ Q E Keep.rfl' (hl.keep k) fun v h'' tk' k' p' => hq v h'' tk' (k.tr k') p'⟩) he)) hd)

/-- built-ins -/
theorem bi_len {vs : List Value} {ds : List PyData} (r : RepAll B h vs [.list ds]) (hn : ds.length ≤ 1000000) : EvD prog w A B (call (.builtin "len") vs) h (.int (ds.length : Int)) := by
  cases r with
  | cons r1 r2 =>
    cases r2
    obtain ⟨a, vs, n, rfl, _, e, q⟩ := r1.list_inv
    refine fun s Q E hk hl hq => call_len_list (isList_obj (hk _ _ e)) ?_ ?_
    · simp only [List.size_toArray, q.length]; omega
    · refine hq _ s.heap _ Keep.rfl' ?_
      simp only [List.size_toArray, q.length]
      exact .int _ _
theorem bi_abs {vs : List Value} {x : Int} (r : RepAll B h vs [.int x]) : EvD prog w A B (call (.builtin "abs") vs) h (.int (if x < 0 then -x else x)) := by
  cases r with
  | cons r1 r2 =>
    cases r2
    obtain ⟨t, rfl⟩ := r1.int_inv
    exact fun s Q E hk hl hq => call_abs_int fun u tk => hq _ s.heap tk Keep.rfl' (.int _ _)
theorem bi_sum {vs : List Value} {ns : List Int} (hh : A.handled = none) (r : RepAll B h vs [.list (ns.map .int)]) : EvD prog w A B (call (.builtin "sum") vs) h (.int ns.sum) := by
  cases r with
  | cons r1 r2 =>
    cases r2
    obtain ⟨a, vs, n, rfl, _, e, q⟩ := r1.list_inv
    intro s Q E hk hl hq
    have hI := q.ints
    have hl' := isList_obj (hk _ _ e)
    obtain ⟨xs, hxs⟩ := hI.allInts.items
    rw [hxs] at hl'
    refine sum_intListG hh hl' fun h' tk t' k => ?_
    have e1 : ns.sum = preSum (numAt xs) xs.size := by
      have := hI.numsOf
      rw [show vs = vs.toArray.toList from rfl, hxs, nums_intItems] at this
      rw [← this, preSum_eq, List.take_of_length_le (by simp)]
    rw [← e1]
    exact hq _ h' tk (Keep.of k) (.int _ _)
theorem bi_sorted {vs : List Value} {ns : List Int} (r : RepAll B h vs [.list (ns.map .int)]) (hn : ns.length < 64) :
    EvD prog w A B (call (.builtin "sorted") vs) h (.list ((ns.mergeSort (fun a b => decide (a ≤ b))).map .int)) := by
  cases r with
  | cons r1 r2 =>
    cases r2
    obtain ⟨a, vs, n, rfl, _, e, q⟩ := r1.list_inv
    intro s Q E hk hl hq
    have hI := q.ints
    refine sorted_ints (isList_obj (hk _ _ e)) hI (by rw [hI.length]; exact hn) fun out ns' hI' hp hs => ?_
    have e1 : ns' = ns.mergeSort (fun a b => decide (a ≤ b)) := by
      refine List.Perm.eq_of_pairwise (le := fun a b => a ≤ b) ?_ ?_ ?_ ?_
      · intro a b _ _ h1 h2; omega
      · exact hs
      · have := List.pairwise_mergeSort (le := fun (a b : Int) => decide (a ≤ b)) (by intro a b c h1 h2; simp at *; omega) (by intro a b; simp; omega) ns
        exact this.imp fun h => by simpa using h
      · exact hp.trans (List.mergeSort_perm ns _).symm
    obtain ⟨k, he⟩ := sortedAll_at s.heap vs out
    refine hq _ _ _ (Keep.of fun _ _ => sortedAll_old) ?_
    rw [← e1]
    refine .list (vs := out.toList) ?_ (get_vg he nd_lst) (RepAll.ofInts hI')
    intro hb
    have h9 : s.heap.objs.size + 1 < s.heap.objs.size := hl.lt hb
    exact absurd h9 (by omega)

/-- operations of lists -/
theorem op_addL {h' : Heap} {a b : Value} {xs ys : List PyData} (p : Rep B h' a (.list xs)) (q : Rep B h' b (.list ys)) (hn : xs.length + ys.length ≤ 1000000) : EvD prog w A B (binaryOp .Add a b) h' (.list (xs ++ ys)) := by
  obtain ⟨l, vs, n, rfl, _, e, r⟩ := p.list_inv
  obtain ⟨l2, vs2, n2, rfl, _, e2, r2⟩ := q.list_inv
  intro s Q E hk hl hq
  refine PySem.P.add_list (gl (hk _ _ e)) (gl (hk _ _ e2)) (hq _ _ s.toks (Keep.push _) ?_) (by simp only [List.size_toArray, r.length, r2.length]; exact sizeLine_big hn)
  rw [List.append_toArray]
  exact rep_new hl ((r.append r2).keep hk)
theorem op_in {h' : Heap} {a b : Value} {x : Int} {ns : List Int} (p : Rep B h' a (.int x)) (q : Rep B h' b (.list (ns.map .int))) : EvD prog w A B (compareOp .In a b) h' (.bool (decide (x ∈ ns))) := by
  obtain ⟨t, rfl⟩ := p.int_inv
  obtain ⟨l2, vs2, n2, rfl, _, e2, r2⟩ := q.list_inv
  have hI := r2.ints
  intro s Q E hk hl hq
  refine PySem.SeqAt.in_listAt (fun y => match y with | .int i _ => i == x | _ => false) (isList_obj (hk _ _ e2)) ?_ ?_
  · intro y hy
    obtain ⟨i, hi⟩ := List.mem_iff_getElem?.mp (List.mem_toArray.mp hy)
    obtain ⟨k, t', rfl, _⟩ := hI.at i y hi
    exact PySem.SeqAt.EqAt.int_int k t' x t
  · have : (vs2.toArray.any fun y => match y with | .int i _ => i == x | _ => false) = decide (x ∈ ns) := by
      rw [List.any_toArray]
      clear e2 r2 hq hl hk q
      induction hI with
      | nil => simp
      | cons k t' _ ih => rw [List.any_cons, ih]; by_cases hkx : x = k <;> simp [hkx]; omega
    rw [this]
    exact hq _ s.heap s.toks Keep.rfl' (.bool _)
theorem foldl_two (xs : Array Value) : List.foldl (fun x1 x2 => x1 ++ x2) #[] (List.replicate (if xs.isEmpty = true then 0 else (2 : Int).toNat) xs) = xs ++ xs := by
  cases h : xs.isEmpty with
  | true =>
    have : xs = #[] := by simpa using h
    subst this; rfl
  | false => simp [List.replicate]
theorem op_mulL2 {h' : Heap} {a b : Value} {xs : List PyData} (p : Rep B h' a (.list xs)) (q : Rep B h' b (.int 2)) (hn : xs.length ≤ 1000) : EvD prog w A B (binaryOp .Mult a b) h' (.list (xs ++ xs)) := by
  obtain ⟨u, rfl⟩ := q.int_inv
  obtain ⟨l, vs, k, rfl, _, e, r⟩ := p.list_inv
  intro s Q E hk hl hq
  have he := gl (hk _ _ e)
  refine wpAny_binaryOp_repeat_ref (T := "list") (U := "int") (by decide) ⟨_, he, rfl⟩ (fun s' => typeIs_int s' 2 u) noFill_list_mul F.fills_int_mul F.slot_int_rmul repeat_list F.slot_int_index.lookup
    (call_meets F.slot_int_rmul (typeIs_int s 2 u) F.entry_int_rmul (F.args_int_rmul_2 _ _) (int___rmul___int_list 2 u l vs.toArray k)
      ⟨he, rfl, ⟨_, he, rfl⟩, call_meets F.slot_list_mul ⟨_, he, rfl⟩ F.entry_list_mul (F.args_list_mul_2 _ _)
        (AutoListH.list___mul___list_int_3 l vs.toArray k 2 u (by simp [Builtin.List.listFitsIndex]) (by simp only [List.size_toArray, r.length]; show ¬ xs.length * 2 > _; omega) (by simp only [List.size_toArray, r.length]; show ¬ Builtin.List.listTooLong (xs.length * 2) = true; simp [Builtin.List.listTooLong, sizeLine]; omega))
        ⟨he, ?_⟩⟩)
  rw [foldl_two, List.append_toArray]
  exact hq _ _ s.toks (Keep.push _) (rep_new hl ((r.append r).keep hk))

theorem ev_sub {value slice : Expr} {pos : Pos} {xs : List PyData} {d : PyData} {k : Int} (x : EvD prog w A B (eval value env) h (.list xs)) (y : EvD prog w A B (eval slice env) h (.int k))
    (h0 : 0 ≤ k) (hx : xs[k.toNat]? = some d) (hn : xs.length ≤ 1000000)
    (hs : ∀ o i, subscripted slice false o i = operate [o, i] (getItem o i) := by intro _ _; with_unfolding_all rfl) : EvD prog w A B (eval (.Subscript value slice pos) env) h d :=
  fun s Q E hk hl hq => Subscript_ (x s _ E hk hl fun o h₁ tk₁ k₁ p₁ => y _ _ E (hk.tr k₁) (hl.keep k₁) fun i h₂ tk₂ k₂ p₂ => by
    obtain ⟨l, vs, n, rfl, _, e, r⟩ := (p₁.keep k₂).list_inv
    obtain ⟨t, rfl⟩ := p₂.int_inv
    obtain ⟨v, hv, rv⟩ := r.get _ _ hx
    have hlt : k.toNat < xs.length := (List.getElem?_eq_some_iff.mp hx).1
    exact tail_any (isList_obj e).typeIs slot_list_getitem.lookup (wpAny_getItem_list (isList_obj e) h0 (by omega) (by simpa using hv) (hq _ h₂ tk₂ (k₁.tr k₂) rv)) (hs _ _))
theorem ev_subLast {value slice : Expr} {pos : Pos} {xs : List PyData} {d : PyData} (x : EvD prog w A B (eval value env) h (.list xs)) (y : EvD prog w A B (eval slice env) h (.int (-1)))
    (hx : xs[xs.length - 1]? = some d) (hn : xs.length ≤ 1000000)
    (hs : ∀ o i, subscripted slice false o i = operate [o, i] (getItem o i) := by intro _ _; with_unfolding_all rfl) : EvD prog w A B (eval (.Subscript value slice pos) env) h d :=
  fun s Q E hk hl hq => Subscript_ (x s _ E hk hl fun o h₁ tk₁ k₁ p₁ => y _ _ E (hk.tr k₁) (hl.keep k₁) fun i h₂ tk₂ k₂ p₂ => by
    obtain ⟨l, vs, n, rfl, _, e, r⟩ := (p₁.keep k₂).list_inv
    obtain ⟨t, rfl⟩ := p₂.int_inv
    obtain ⟨v, hv, rv⟩ := r.get _ _ hx
    have hlt : xs.length - 1 < xs.length := (List.getElem?_eq_some_iff.mp hx).1
    refine tail_any (isList_obj e).typeIs slot_list_getitem.lookup (wpAny_getItem_list_neg (isList_obj e) (by omega) ?_ (by omega) ?_ (hq _ h₂ tk₂ (k₁.tr k₂) rv)) (hs _ _)
    · simp only [List.size_toArray, r.length]; omega
    · simp only [List.size_toArray, r.length, List.getElem?_toArray]
      rw [show ((-1 : Int) + (xs.length : Int)).toNat = xs.length - 1 by omega]; exact hv)
theorem ev_neg1 {k : Nat} {p pos : Pos} : EvD prog w A B (eval (.UnaryOp .USub (.Constant (.int 1) k p) pos) env) h (.int (-1)) :=
  fun s Q E hk hl hq => wpAny_UnaryOp (wpAny_Constant_int (neg_int (hq _ s.heap _ Keep.rfl' (.int _ _))))

/-- a part of a slice -/
def EvP (prog : Program) (w : World) (A : Around) (B : Bad) (x : Option Expr) (env : Env) (h : Heap) (k : Option Int) : Prop := Ev prog w A B (evalPart x env) h (fun _ v => IsPart v k)
theorem evP_none : EvP prog w A B none env h none := fun s Q E hk hl hq => by rw [evalPart_none]; exact wpAny_pure (hq _ s.heap s.toks Keep.rfl' .none)
theorem evP_some {e : Expr} {k : Int} (x : EvD prog w A B (eval e env) h (.int k)) : EvP prog w A B (some e) env h (some k) := fun s Q E hk hl hq => by
  rw [evalPart_some]
  exact x s Q E hk hl fun v h' tk k' p => by obtain ⟨t, rfl⟩ := p.int_inv; exact hq _ h' tk k' (.int _ _)
/-- what a slice picks -/
def pickL {α : Type} (xs : List α) (lo hi st : Option Int) : List α :=
  (sliceRange (sliceBounds lo hi st xs.length).1 (sliceBounds lo hi st xs.length).2.1 (sliceBounds lo hi st xs.length).2.2).filterMap (xs[·]?)
theorem RepAll.filterMap {B : Bad} {h : Heap} {vs : List Value} {ds : List PyData} (r : RepAll B h vs ds) : ∀ (is : List Nat), RepAll B h (is.filterMap (vs[·]?)) (is.filterMap (ds[·]?))
  | [] => .nil
  | i :: is => by
    have ih := r.filterMap is
    by_cases hi : i < ds.length
    · have e1 : ds[i]? = some ds[i] := List.getElem?_eq_getElem hi
      obtain ⟨v, e2, rv⟩ := r.get i _ e1
      rw [List.filterMap_cons_some e2, List.filterMap_cons_some e1]
      exact .cons rv ih
    · have e1 : ds[i]? = none := List.getElem?_eq_none (by omega)
      have e2 : vs[i]? = none := List.getElem?_eq_none (by rw [r.length]; omega)
      rw [List.filterMap_cons_none e2, List.filterMap_cons_none e1]
      exact ih
theorem ev_slice {value : Expr} {lower upper step : Option Expr} {p pos : Pos} {xs : List PyData} {lo hi st : Option Int} (x : EvD prog w A B (eval value env) h (.list xs))
    (y1 : EvP prog w A B lower env h lo) (y2 : EvP prog w A B upper env h hi) (y3 : EvP prog w A B step env h st) (h0 : st ≠ some 0) (hn : xs.length ≤ 1000000)
    (hs : ∀ o i, ∃ ops, subscripted (.Slice lower upper step p) false o i = operate ops (getItem o i) := by intro o i; exact ⟨_, by with_unfolding_all rfl⟩) :
    EvD prog w A B (eval (.Subscript value (.Slice lower upper step p) pos) env) h (.list (pickL xs lo hi st)) :=
  fun s Q E hk hl hq => Subscript_ (x s _ E hk hl fun o h₁ tk₁ k₁ p₁ => wpAny_Slice (y1 _ _ E (hk.tr k₁) (hl.keep k₁) fun v1 h₂ tk₂ k₂ p₂ => y2 _ _ E ((hk.tr k₁).tr k₂) ((hl.keep k₁).keep k₂) fun v2 h₃ tk₃ k₃ p₃ =>
    y3 _ _ E (((hk.tr k₁).tr k₂).tr k₃) (((hl.keep k₁).keep k₂).keep k₃) fun v3 h₄ tk₄ k₄ p₄ => by
      obtain ⟨l, vs, n, rfl, _, e, r⟩ := (((p₁.keep k₂).keep k₃).keep k₄).list_inv
      have e' : vg (h₄.push { cls := .type "slice", data := .fields #[v1, v2, v3] }) l = some (lstObj vs n) := Keep.push _ _ _ e
      have hl4 : Live B h₄ := (((hl.keep k₁).keep k₂).keep k₃).keep k₄
      obtain ⟨ops, hso⟩ := hs (.ref l) (.ref h₄.objs.size)
      refine tail_any (isList_obj e').typeIs slot_list_getitem.lookup (wpAny_getItem_list_slice (isList_obj e') (Heap.IsSliceOf.new ..) p₂ p₃ p₄ h0 ?_ ?_) hso
      · refine hq _ _ tk₄ ((((k₁.tr k₂).tr k₃).tr k₄).tr ((Keep.push _).tr (Keep.push _))) ?_
        have : slicePick vs.toArray lo hi st = (pickL vs lo hi st).toArray := by unfold slicePick pickL; simp
        rw [this]
        refine rep_new (hl4.keep (Keep.push _)) ?_
        unfold pickL
        rw [← r.length]
        exact (r.filterMap _).keep (Keep.push _)
      · simp only [List.size_toArray, r.length]; exact sizeLine_big hn))

/-- a range -/
def RangeV (h : Heap) (v : Value) (a : Int) (n : Nat) : Prop := ∃ r b t u t', v = .ref r ∧ IsRange h r a b 1 t u t' ∧ Builtin.Range.small a b 1 = true ∧ Builtin.Range.rangeSize a b 1 = ((n : Nat) : Int)
theorem ty_range1 {vs : List Value} {k : Int} (r : RepAll B h vs [.int k]) (h0 : 0 ≤ k) (h1 : k ≤ 1000) : Ev prog w A B (call (.type "range") vs) h (fun h' v => RangeV h' v 0 k.toNat) := by
  cases r with
  | cons r1 r2 =>
    cases r2
    obtain ⟨t, rfl⟩ := r1.int_inv
    intro s Q E hk hl hq
    refine call_range_1 (hq _ _ _ (Keep.push _) ⟨_, k, _, _, _, rfl, IsRange.new .., ?_, ?_⟩)
    · exact small_one (by omega) (by omega) (by omega) (by omega)
    · rw [rangeSize_one]; split <;> omega
theorem ty_range2 {vs : List Value} {a b : Int} (r : RepAll B h vs [.int a, .int b]) (h0 : 0 ≤ a) (h1 : a ≤ b) (h2 : b ≤ 1000) : Ev prog w A B (call (.type "range") vs) h (fun h' v => RangeV h' v a (b - a).toNat) := by
  cases r with
  | cons r1 r2 =>
    cases r2 with
    | cons r3 r4 =>
      cases r4
      obtain ⟨t, rfl⟩ := r1.int_inv
      obtain ⟨u, rfl⟩ := r3.int_inv
      intro s Q E hk hl hq
      refine call_range_2 (hq _ _ _ (Keep.push _) ⟨_, b, _, _, _, rfl, IsRange.new .., ?_, ?_⟩)
      · exact small_one (by omega) (by omega) (by omega) (by omega)
      · rw [rangeSize_one]; split <;> omega
end
end OpA
namespace OpA
variable [Base]
section
variable {prog : Program} {w : World} {A : Around} {B : Bad} {h : Heap} {env : Env}

/-- what a for or a comprehension may go through -/
def SrcV (prog : Program) (w : World) (A : Around) (B : Bad) (h : Heap) (v : Value) (ds : List PyData) : Prop :=
  ∀ (s : Shared) (Q : Value → Shared → Prop) (E : Value → Shared → Prop), Keep h s.heap →
    (∀ fp P St oI, Walks prog w A s.heap.objs.size fp [s.heap.objs.size] ds.length P St → St 0 (s.heap.push oI) → oI.isFreed = false → (∀ b ∈ fp, b < s.heap.objs.size + 1) → (∀ b ∈ fp, b ≠ s.heap.objs.size → ¬ B b) →
      (∀ i hp, St i hp → ∃ o, vg hp s.heap.objs.size = some o) → (∀ i hp, St i hp → ∀ b ∈ fp, ∀ o, hp.get? b = some o → NoD o) →
      (∀ i u d, P i u → ds[i]? = some d → Rep B h u d) → Q (.ref s.heap.objs.size) { s with heap := s.heap.push oI }) → wpAny (model prog w) A (pyIter v) Q E s

theorem srcV_list {v : Value} {ds : List PyData} (hh : A.handled = none) (r : Rep B h v (.list ds)) : SrcV prog w A B h v ds := by
  obtain ⟨l, vs, n, rfl, nb, e, r⟩ := r.list_inv
  intro s Q E hk hq
  have e' := hk _ _ e
  have hlt := vg_lt e'
  refine wpAny_pyIter_list (isList_obj e') ?_
  have W := Walks.list (prog := prog) (w := w) (A := A) hh s.heap.objs.size l (Nat.ne_of_lt hlt) vs.toArray
  rw [show vs.toArray.size = ds.length by simp [r.length]] at W
  refine hq _ _ _ _ W ⟨⟨_, Heap.get?_push_size _ rfl, rfl, rfl⟩, (isList_obj e').push _⟩ rfl ?_ ?_ ?_ ?_ ?_
  · intro b hb
    simp only [List.mem_cons, List.not_mem_nil, or_false] at hb
    rcases hb with rfl | rfl
    · exact Nat.lt_succ_self _
    · exact Nat.lt_succ_of_lt hlt
  · intro b hb hne
    simp only [List.mem_cons, List.not_mem_nil, or_false] at hb
    rcases hb with rfl | rfl
    · exact absurd rfl hne
    · exact nb
  · intro i hp st; obtain ⟨o, eo, _⟩ := st.1; obtain ⟨o', e', _⟩ := vg_some eo; exact ⟨o', e'⟩
  · intro i hp st b hb o eo
    simp only [List.mem_cons, List.not_mem_nil, or_false] at hb
    rcases hb with rfl | rfl
    · obtain ⟨o', e', _, d⟩ := st.1; rw [eo] at e'; cases e'; exact fun _ _ q => by rw [d] at q; cases q
    · obtain ⟨o', e', _, _, d⟩ := st.2; rw [eo] at e'; cases e'; exact fun _ _ q => by rw [d] at q; cases q
  · intro i u d hu hd
    obtain ⟨v, hv, rv⟩ := r.get i d hd
    simp only [List.getElem?_toArray] at hu
    rw [hv] at hu; cases hu; exact rv
def rangeD (a : Int) (n : Nat) : List PyData := (List.range n).map fun (i : Nat) => .int (a + (i : Int))
theorem srcV_range {v : Value} {a : Int} {n : Nat} (hh : A.handled = none) (r : RangeV h v a n) : SrcV prog w A B h v (rangeD a n) := by
  obtain ⟨r, b, t, u, t', rfl, hr, hsm, hrs⟩ := r
  intro s Q E hk hq
  refine wpAny_pyIter_range (vg_get (hk _ _ (get_vg hr fun _ _ q => by cases q)) fun _ _ q => by cases q) hsm ?_
  rw [hrs]
  have W := LCg.range_walks (prog := prog) (w := w) (A := A) (I := s.heap.objs.size) hh a n
  have hlen : (rangeD a n).length = n := by simp [rangeD]
  refine hq _ _ _ _ (by rw [hlen]; exact W) ?_ rfl ?_ ?_ ?_ ?_ ?_
  · have : IsRangeIter (s.heap.push { cls := .type "range_iterator", data := .fields #[rawInt a, rawInt (n : Int), rawInt 1] }) s.heap.objs.size a n 1 := Heap.get?_push_size _ rfl
    simpa using this
  · intro b hb; simp only [List.mem_cons, List.not_mem_nil, or_false] at hb; subst hb; exact Nat.lt_succ_self _
  · intro b hb hne; simp only [List.mem_cons, List.not_mem_nil, or_false] at hb; exact absurd hb hne
  · intro i hp st; exact ⟨_, get_vg st fun _ _ q => by cases q⟩
  · intro i hp st b hb o eo; simp only [List.mem_cons, List.not_mem_nil, or_false] at hb; subst hb; have st' : hp.get? _ = some _ := st; rw [eo] at st'; cases st'; exact fun _ _ q => by cases q
  · intro i u d hu hd
    obtain ⟨t, rfl⟩ := hu
    simp only [rangeD, List.getElem?_map] at hd
    rcases Nat.lt_or_ge i n with hi | hi
    · simp only [List.getElem?_range hi, Option.map_some] at hd
      cases hd; exact .int _ _
    · rw [List.getElem?_eq_none (by simpa using hi)] at hd; cases hd

/-- the tests of a comprehension -/
abbrev compIfs (ifs : List Expr) (cenv : Env) : Sem Bool := forIn ifs true fun c r => if r = true then do let ok ← isTrue c cenv (eval c cenv); pure (ForInStep.yield ok) else pure (ForInStep.yield r)
theorem evIfs_nil {cenv : Env} : EvB prog w A B (compIfs [] cenv) h true := fun s Q E hk hl hq => by
  show wpAny _ _ (forIn [] true _) Q E s
  rw [List.forIn_nil]
  exact wpAny_pure (hq _ s.heap s.toks Keep.rfl' rfl)
theorem evIfs_one {cenv : Env} {c : Expr} {b : Bool} (x : EvB prog w A B (isTrue c cenv (eval c cenv)) h b) : EvB prog w A B (compIfs [c] cenv) h b := fun s Q E hk hl hq => by
  show wpAny _ _ (forIn [c] true _) Q E s
  rw [List.forIn_cons]
  simp only [if_true]
  refine wpAny_bind (wpAny_bind (x s _ E hk hl fun v h' tk k p => wpAny_pure ?_))
  show wpAny _ _ (forIn [] v _) Q E _
  rw [List.forIn_nil]
  exact wpAny_pure (hq _ h' tk k p)

theorem wframe {I : Addr} {fp wr : List Addr} {n : Nat} {P : Nat → Value → Prop} {St : Nat → Heap → Prop} (W : Walks prog w A I fp wr n P St) (hSD : ∀ i hp, St i hp → ∀ b ∈ fp, ∀ o, hp.get? b = some o → NoD o) {i : Nat} {h h' : Heap} (st : St i h)
    (k : ∀ b ∈ fp, ∀ o, vg h b = some o → vg h' b = some o) : St i h' := W.frame _ _ _ st fun b hb o e => vg_get (k b hb o (get_vg e (hSD _ _ st b hb o e))) (hSD _ _ st b hb o e)

theorem loop_core {α : Type} {elt iter : Expr} {x : Str} {px : Pos} {ifs : List Expr} {scope : Scope} {pos : Pos} {I D : Addr} {fp : List Addr} {P : Nat → Value → Prop} {St : Nat → Heap → Prop}
    {cenv : Env} {xs : List α} {s : Shared} {R : Result → Shared → Prop} {h₀ : Heap} (W : Walks prog w A I fp [I] xs.length P St) (hIo : ∀ i hp, St i hp → ∃ o, vg hp I = some o) (hSD : ∀ i hp, St i hp → ∀ b ∈ fp, ∀ o, hp.get? b = some o → NoD o)
    (Vs : Bad) (VOk : Heap → Prop) (VIs : Heap → Value → Prop)
    (hV0 : ∀ h b, VOk h → Vs b → ∃ o, vg h b = some o)
    (hV1 : ∀ h h', VOk h → (∀ b o, Vs b → vg h b = some o → vg h' b = some o) → VOk h')
    (hV2 : ∀ h h' v, VIs h v → Keep h h' → VIs h' v)
    (hassign : ∀ (s : Shared) (v : Value) (Q : Unit → Shared → Prop) (E : Value → Shared → Prop), VOk s.heap → (∀ h' tk, VOk h' → VIs h' v → KeepX Vs s.heap h' → Q () { s with heap := h', toks := tk }) → wpAny (model prog w) A (assign (.Name x px) cenv v) Q E s)
    (hDV : ¬ Vs D) (hDI : D ≠ I) (hIV : ¬ Vs I) (hDf : D ∉ fp) (hVf : ∀ b ∈ fp, ¬ Vs b)
    (hdis : ∀ b o, vg h₀ b = some o → b ≠ I ∧ b ≠ D ∧ ¬ Vs b) (hB : Live B h₀)
    (enc : α → PyData) (p : α → Bool) (f : α → PyData)
    (hel : ∀ i u a, P i u → xs[i]? = some a → Rep B h₀ u (enc a))
    (htests : ∀ a u h', a ∈ xs → Keep h₀ h' → VIs h' u → Rep (fun b => B b ∨ b = I ∨ b = D ∨ Vs b) h' u (enc a) → EvB prog w A (fun b => B b ∨ b = I ∨ b = D ∨ Vs b) (compIfs ifs cenv) h' (p a))
    (helt : ∀ a u h', a ∈ xs → p a = true → Keep h₀ h' → VIs h' u → Rep (fun b => B b ∨ b = I ∨ b = D ∨ Vs b) h' u (enc a) → EvD prog w A (fun b => B b ∨ b = I ∨ b = D ∨ Vs b) (eval elt cenv) h' (f a))
    (hst : St 0 s.heap) (hvok : VOk s.heap) (hk₀ : Keep h₀ s.heap) (hacc : s.heap.PlainList D #[]) (hsz : xs.length ≤ 1000000)
    (hR : ∀ h' tk ys n', Keep h₀ h' → VOk h' → vg h' D = some (lstObj ys n') → RepAll (fun b => B b ∨ b = I ∨ b = D ∨ Vs b) h' ys ((xs.filter p).map f) → R (.ok .next) { s with heap := h', toks := tk }) :
    codeAny (model prog w) A (.compLoop (.ListComp elt [⟨.Name x px, iter, ifs, 0⟩] scope pos) 0 (.ref I) (.ref D) cenv) R s := by
  refine codeAny_compLoop_tests
    (fun k s' => ∃ h' tk i ys n', s' = { s with heap := h', toks := tk } ∧ i ≤ xs.length ∧ k = xs.length + 1 - i ∧ St i h' ∧ VOk h' ∧ Keep h₀ h' ∧ vg h' D = some (lstObj ys n') ∧
      RepAll (fun b => B b ∨ b = I ∨ b = D ∨ Vs b) h' ys (((xs.take i).filter p).map f)) ?_ (xs.length + 1) ?_
  · rintro k s' ⟨h', tk, i, ys, n', rfl, hi, rfl, hst', hvok', hk', hD', hr'⟩
    by_cases hlt : i < xs.length
    · have ha : xs[i]? = some xs[i] := List.getElem?_eq_getElem hlt
      have hmem : xs[i] ∈ xs := List.getElem_mem hlt
      refine W.item i _ _ _ hlt hst' fun v h₁ tk₁ hPv hst₁ hk₁' => ?_
      have hk₁ : ∀ b o, b ∉ [I] → vg h' b = some o → vg h₁ b = some o := fun b o nb e => vg_pt (fun o e => hk₁' b o nb e) e
      have hvok₁ : VOk h₁ := hV1 _ _ hvok' fun b o hb e => hk₁ b o (by simp only [List.mem_singleton]; rintro rfl; exact hIV hb) e
      refine hassign _ v _ _ hvok₁ fun h₂ tk₂ hvok₂ hvis₂ hk₂ => ?_
      have hkk₁ : Keep h₀ h₁ := fun b o e => hk₁ b o (by simp only [List.mem_singleton]; exact (hdis b o e).1) (hk' b o e)
      have hkk₂ : Keep h₀ h₂ := fun b o e => hk₂ b o (hdis b o e).2.2 (hkk₁ b o e)
      have hst₂ : St (i + 1) h₂ := wframe W hSD hst₁ fun b hb o e => hk₂ b o (hVf b hb) e
      have hD₂ : vg h₂ D = some (lstObj ys n') := hk₂ D _ hDV (hk₁ D _ (by simpa using hDI) hD')
      have hrv : Rep (fun b => B b ∨ b = I ∨ b = D ∨ Vs b) h₂ v (enc xs[i]) := (hel i v _ hPv ha).lift fun b o nb e => ⟨fun q => by
        rcases q with q | q | q | q
        · exact nb q
        · exact (hdis b o e).1 q
        · exact (hdis b o e).2.1 q
        · exact (hdis b o e).2.2 q, hkk₂ b o e⟩
      have hr₂ : RepAll (fun b => B b ∨ b = I ∨ b = D ∨ Vs b) h₂ ys (((xs.take i).filter p).map f) := hr'.keepX fun b o nb e =>
        hk₂ b o (fun q => nb (.inr (.inr (.inr q)))) (hk₁ b o (by simp only [List.mem_singleton]; exact fun q => nb (.inr (.inl q))) e)
      have hlive : ∀ hp, Keep h₀ hp → St (i + 1) hp → (∃ o, vg hp D = some o) → VOk hp → Live (fun b => B b ∨ b = I ∨ b = D ∨ Vs b) hp := fun hp q1 q2 q3 q4 b hb => by
        rcases hb with q | rfl | rfl | q
        · exact (hB.keep q1) b q
        · exact hIo _ _ q2
        · exact q3
        · exact hV0 _ _ q4 q
      have hl₂ := hlive h₂ hkk₂ hst₂ ⟨_, hD₂⟩ hvok₂
      have take1 : xs.take (i + 1) = xs.take i ++ [xs[i]] := by rw [List.take_add_one, ha]; rfl
      refine htests _ v h₂ hmem hkk₂ hvis₂ hrv _ _ _ Keep.rfl' hl₂ fun ok h₃ tk₃ k₃ hok => ?_
      subst hok
      have hst₃ : St (i + 1) h₃ := wframe W hSD hst₂ fun b hb o e => k₃ b o e
      have hvok₃ : VOk h₃ := hV1 _ _ hvok₂ fun b o _ e => k₃ b o e
      cases hpa : p xs[i] with
      | false =>
        simp only [Bool.false_eq_true, if_false]
        refine ⟨xs.length + 1 - (i + 1), by omega, h₃, tk₃, i + 1, ys, n', rfl, hlt, rfl, hst₃, hvok₃, hkk₂.tr k₃, k₃ _ _ hD₂, ?_⟩
        rw [take1, List.filter_append]
        simpa [hpa] using hr₂.keep k₃
      | true =>
        simp only [if_true]
        refine helt _ v h₃ hmem hpa (hkk₂.tr k₃) (hV2 _ _ _ hvis₂ k₃) (hrv.keep k₃) _ _ _ Keep.rfl' (hl₂.keep k₃) fun y h₄ tk₄ k₄ hy => ?_
        have hys : ys.length ≤ xs.length := by
          rw [hr'.length, List.length_map]
          exact Nat.le_trans (List.length_filter_le _ _) (by rw [List.length_take]; exact Nat.min_le_right _ _)
        refine wpAny_list_append_plain (items := ys.toArray) (hsz := by simp only [List.size_toArray]; exact sizeLine_big (by omega)) ⟨_, gl ((k₃.tr k₄) _ _ hD₂)⟩ fun h₅ hl₅ hs₅ => ?_
        obtain ⟨n₅, e₅⟩ := hl₅
        have k5 : KeepX (fun b => B b ∨ b = I ∨ b = D ∨ Vs b) h₄ h₅ := fun b o nb e => sbut hs₅ b o (fun q => nb (.inr (.inr (.inl q)))) e
        refine ⟨xs.length + 1 - (i + 1), by omega, h₅, tk₄, i + 1, ys ++ [y], n₅, rfl, hlt, rfl, ?_, ?_, ?_, ?_, ?_⟩
        · exact wframe W hSD hst₃ fun b hb o e => sbut hs₅ b o (fun q => hDf (q ▸ hb)) (k₄ b o e)
        · exact hV1 _ _ hvok₃ fun b o hb e => sbut hs₅ b o (fun q => hDV (q ▸ hb)) (k₄ b o e)
        · exact fun b o e => sbut hs₅ b o (hdis b o e).2.1 (k₄ b o (k₃ b o (hkk₂ b o e)))
        · refine lg ?_; rw [e₅]; simp
        · rw [take1, List.filter_append]
          simp only [List.filter_cons, hpa, if_true, List.filter_nil, List.map_append, List.map_cons, List.map_nil]
          exact ((hr₂.keep (k₃.tr k₄)).keepX k5).snoc (hy.keepX k5)
    · have hin : i = xs.length := by omega
      subst hin
      refine W.done _ _ _ hst' fun h₁ tk₁ hk₁ => ?_
      have hkI : ∀ b o, b ≠ I → vg h' b = some o → vg h₁ b = some o := fun b o hb e => vg_pt (fun o e => hk₁ b o (by simpa using hb) e) e
      refine hR h₁ tk₁ ys n' (fun b o e => hkI b o (hdis b o e).1 (hk' b o e)) (hV1 _ _ hvok' fun b o hb e => hkI b o (by rintro rfl; exact hIV hb) e) (hkI _ _ hDI hD') ?_
      rw [List.take_length] at hr'
      exact hr'.keepX fun b o nb e => hkI b o (fun q => nb (.inr (.inl q))) e
  · obtain ⟨n', e⟩ := hacc
    exact ⟨s.heap, s.toks, 0, [], n', rfl, Nat.zero_le _, rfl, hst, hvok, hk₀, lg (vs := []) e, by simpa using RepAll.nil⟩
end
end OpA
namespace OpA
variable [Base]

/-- a map over rows that keeps their names, and keeps the rows of the kind that was found, keeps what is found -/
theorem lookup_map_keep {f : Str × NameKind → Str × NameKind} {kd : NameKind} (hn : ∀ p, (f p).1 = p.1) (hkeep : ∀ p : Str × NameKind, p.2 = kd → f p = p) {x : Str} (names : List (Str × NameKind)) (h : names.lookup x = some kd) :
    (names.map f).lookup x = some kd := by
  induction names with
  | nil => exact h
  | cons p rest ih =>
    have e : f p = (p.1, (f p).2) := Prod.ext (hn p) rfl
    rw [List.map_cons, e, List.lookup_cons]
    have h' : (match x == p.1 with | true => some p.2 | false => rest.lookup x) = some kd := h
    split
    · next hx =>
      rw [hx] at h'
      rw [hkeep p (Option.some.inj h')]
      exact h'
    · next hx =>
      rw [hx] at h'
      exact ih h'

theorem lookup_relabel_cell {env : Env} {names : List (Str × NameKind)} {x : Str} (h : names.lookup x = some .cell) :
    (names.map fun (n, k) => if (k == NameKind.free && env.scope.kind == .function && env.kindOf n == some .cell) then (n, NameKind.cell) else (n, k)).lookup x = some .cell := by
  refine lookup_map_keep (fun p => ?_) (fun p hp => ?_) names h
  · dsimp only; split <;> rfl
  · obtain ⟨n, k⟩ := p
    cases hp
    rfl

theorem newEnv_cell1 {M : Model} {A : Around} {E : Value → Shared → Prop} {s : Shared} {scope : Scope} {globals : Addr} {cl : List (Str × Addr)} {qual : Str} {outer : Env} {x : Str} {Q : Env → Shared → Prop}
    (hc : ∀ n, cellsFrom n scope.names cl = (x, n) :: cl) (hp : ∀ hp : Heap, pushCells hp scope.names = hp.push { cls := .type "cell", data := .cell none })
    (hQ : Q (newEnv scope s.heap.objs.size globals ((x, s.heap.objs.size + 1) :: cl) qual none .none (some outer) builtinsNs)
      { s with heap := (s.heap.push { cls := .type "dict", data := .dict #[] }).push { cls := .type "cell", data := .cell none } }) :
    wpAny M A (newFunctionEnv scope globals cl [] qual none .none (some outer)) Q E s := by
  simp only [newFunctionEnv, Option.isSome_some, if_true]
  refine wpAny_bind (wpAny_alloc ?_)
  refine wpAny_bind (wpAny_layCells _ (fun name kind cells => by cases hkc : kind == NameKind.cell <;> simp [hkc]) _ _ _ _ ?_)
  rw [hp, hc]
  rw [show ({ s with heap := s.heap.push { cls := .type "dict", data := .dict #[] } } : Shared).heap.objs.size = s.heap.objs.size + 1 from Heap.size_push ..]
  exact wpAny_bind (wpAny_pure (wpAny_pure hQ))

section
variable {prog : Program} {w : World} {A : Around} {B : Bad} {h : Heap} {env : Env}

/-- what is known behind a comprehension's loop -/
structure CompDone (B : Bad) (h₀ : Heap) (out : List PyData) (acc : Value) (C : Addr) (h' : Heap) : Prop where
  keep : Keep h₀ h'
  fresh : vg h₀ C = none
  ns : ∃ m, h'.Ns C m
  rep : Rep (fun b => B b ∨ b = C) h' acc (.list out)
  live : Live (fun b => B b ∨ b = C) h'

theorem comp_blockL {α : Type} {E : Value → Shared → Prop} {elt iter : Expr} {x : Str} {px : Pos} {ifs : List Expr} {scope : Scope} {cl : List (Str × Addr)} {pos : Pos} {xs : List α} {v : Value} {s₁ : Shared} {RR : Value → Addr → Result → Shared → Prop}
    (enc : α → PyData) (p : α → Bool) (f : α → PyData)
    (hcell : ∀ y ∈ scope.names, y.2 ≠ .cell) (hkind : scope.kind = .function) (hx : scope.names.lookup x = some .local)
    (hsrc : SrcV prog w A B s₁.heap v (xs.map enc)) (hB : Live B s₁.heap) (hsz : xs.length ≤ 1000000)
    (body : ∀ a C u B' h', a ∈ xs → Keep s₁.heap h' → Ext B s₁.heap B' h' → (∀ b, B b → B' b) → LdN (compEnvC scope cl C env) x h' u → Rep B' h' u (enc a) →
      EvB prog w A B' (compIfs ifs (compEnvC scope cl C env)) h' (p a) ∧ (p a = true → EvD prog w A B' (eval elt (compEnvC scope cl C env)) h' (f a)))
    (hRR : ∀ acc C h' tk, CompDone B s₁.heap ((xs.filter p).map f) acc C h' → RR acc C (.ok .next) { s₁ with heap := h', toks := tk }) :
    wpAny (model prog w) A (pyIter v) (fun it s₂ => wpAny (model prog w) A (newList []) (fun acc s₃ => wpAny (model prog w) A (newFunctionEnv scope env.globals cl [] env.qual none .none (some env)) (fun cenv s₄ =>
      codeAny (model prog w) A (.compStart (.ListComp elt [⟨.Name x px, iter, ifs, 0⟩] scope pos) 0 it acc { cenv with scope := relabel scope env }) (RR acc cenv.locals) s₄) E s₃) E s₂) E s₁ := by
  refine hsrc s₁ _ E Keep.rfl' fun fp P St oI W hst hfr hfp _ hIo hSD hel => ?_
  refine wpAny_newObj_type (wpAny_newFunctionEnv hcell (by intro y hy; simp at hy) (fun h₁ hns₁ hsb₁ => ?_) hkind)
  dsimp only at hns₁ hsb₁ ⊢
  generalize hH2 : (s₁.heap.push oI).push { cls := .type "list", dict := none, data := .seq ([] : List Value).toArray } = H2 at hns₁ hsb₁ ⊢
  have hsI : (s₁.heap.push oI).objs.size = s₁.heap.objs.size + 1 := Heap.size_push ..
  have hC : H2.objs.size = s₁.heap.objs.size + 2 := by rw [← hH2, Heap.size_push, hsI]
  rw [hsI]
  have old2 : Keep (s₁.heap.push oI) h₁ := Keep.of fun b o e =>
    hsb₁.extBut b o (Nat.ne_of_lt (by have := Heap.lt_size e; rw [hsI] at this; rw [hC]; exact Nat.lt_succ_of_lt this)) (Heap.get?_push_of_some _ (hH2 ▸ Heap.get?_push_of_some _ e))
  have old : Keep s₁.heap h₁ := (Keep.push _).tr old2
  have hD : h₁.PlainList (s₁.heap.objs.size + 1) #[] := ⟨0, hsb₁.extBut _ _ (by rw [hC]; exact Nat.ne_of_lt (Nat.lt_succ_self _)) (Heap.get?_push_of_some _ (by rw [← hH2, ← hsI]; exact Heap.get?_push_size _ rfl))⟩
  have hst₁ : St 0 h₁ := wframe W hSD hst fun b _ o e => old2 b o e
  have loop : ∀ s₃ : Shared, s₃ = { s₁ with heap := h₁, toks := s₁.toks + ([] : List (Str × Value)).length } →
      codeAny (model prog w) A (.compLoop (.ListComp elt [⟨.Name x px, iter, ifs, 0⟩] scope pos) 0 (.ref s₁.heap.objs.size) (.ref (s₁.heap.objs.size + 1)) (compEnvC scope cl H2.objs.size env))
        (RR (.ref (s₁.heap.objs.size + 1)) H2.objs.size) s₃ := by
    rintro s₃ rfl
    have W' : Walks prog w A s₁.heap.objs.size fp [s₁.heap.objs.size] xs.length P St := by rw [List.length_map] at W; exact W
    refine loop_core (h₀ := s₁.heap) (xs := xs) W' hIo hSD (fun b => b = H2.objs.size) (fun hp => ∃ m, hp.Ns H2.objs.size m) (fun hp u => ∃ m, hp.Ns H2.objs.size m ∧ m x = some u)
      ?_ ?_ ?_ ?_ ?_ ?_ ?_ ?_ ?_ ?_ hB enc p f ?_ ?_ ?_ hst₁ ⟨_, hns₁⟩ old hD hsz ?_
    · rintro hp b ⟨m, o, es, ep, e, _⟩ rfl; obtain ⟨o', e', _⟩ := vg_some e; exact ⟨o', e'⟩
    · rintro hp hp' ⟨m, hn⟩ k; exact ⟨m, nsA hn fun o e => k _ o rfl e⟩
    · rintro hp hp' u ⟨m, hn, e⟩ k; exact ⟨m, nsK hn k, e⟩
    · rintro s v Q E ⟨m, hn⟩ hq
      refine wpAny_assign_Name (wpAny_storeName_local (env := compEnvC scope cl H2.objs.size env) (lookup_relabel_local hx) hn (fun h' hn' hs' => ?_) (by simp [compEnvC, relabel, hkind]))
      exact hq h' _ ⟨_, hn'⟩ ⟨_, hn', by simp⟩ fun b o nb e => sbut hs' b o nb e
    · rw [hC]; exact Nat.ne_of_lt (Nat.lt_succ_self _)
    · exact Nat.succ_ne_self _
    · rw [hC]; exact Nat.ne_of_lt (by dsimp only [Addr] at *; omega)
    · intro hm; exact absurd (hfp _ hm) (Nat.lt_irrefl _)
    · intro b hb q; have := hfp b hb; subst q; rw [hC] at this; exact absurd this (by dsimp only [Addr] at *; omega)
    · intro b o e; have := vg_lt e; exact ⟨Nat.ne_of_lt this, Nat.ne_of_lt (Nat.lt_succ_of_lt this), by rw [hC]; exact Nat.ne_of_lt (by dsimp only [Addr] at *; omega)⟩
    · intro i u a hu ha; exact hel i u (enc a) hu (by rw [List.getElem?_map, ha]; rfl)
    · rintro a u h' ha k ⟨m, hn, e⟩ r
      refine (body a H2.objs.size u _ h' ha k (fun b o nb e => ⟨fun q => ?_, k b o e⟩) (fun b q => .inl q) (ldn_local (env := compEnvC scope cl H2.objs.size env) (by simp [compEnvC, relabel, hkind]) (lookup_relabel_local hx) hn e) r).1
      have := vg_lt e
      rcases q with q | q | q | q
      · exact nb q
      · exact Nat.ne_of_lt this q
      · exact Nat.ne_of_lt (Nat.lt_succ_of_lt this) q
      · rw [hC] at q; subst q; exact absurd this (by dsimp only [Addr] at *; omega)
    · rintro a u h' ha hpa k ⟨m, hn, e⟩ r
      refine (body a H2.objs.size u _ h' ha k (fun b o nb e => ⟨fun q => ?_, k b o e⟩) (fun b q => .inl q) (ldn_local (env := compEnvC scope cl H2.objs.size env) (by simp [compEnvC, relabel, hkind]) (lookup_relabel_local hx) hn e) r).2 hpa
      have := vg_lt e
      rcases q with q | q | q | q
      · exact nb q
      · exact Nat.ne_of_lt this q
      · exact Nat.ne_of_lt (Nat.lt_succ_of_lt this) q
      · rw [hC] at q; subst q; exact absurd this (by dsimp only [Addr] at *; omega)
    · rintro h' tk ys n' k ⟨m, hn⟩ e r
      refine hRR _ _ h' tk ⟨k, ?_, ⟨m, hn⟩, .list ?_ e (r.sub fun b q => ?_), ?_⟩
      · exact vg_ge (by rw [hC]; omega)
      · rintro (q | q)
        · have := hB.lt q; exact absurd this (by dsimp only [Addr] at *; omega)
        · rw [hC] at q; exact absurd q (by dsimp only [Addr] at *; omega)
      · rcases q with q | q
        · exact .inl q
        · exact .inr (.inr (.inr q))
      · rintro b (q | rfl)
        · exact (hB.keep k) b q
        · obtain ⟨o, es, ep, e, _⟩ := hn; obtain ⟨o', e', _⟩ := vg_some e; exact ⟨o', e'⟩
  exact codeAny_compStart_list (loop _ rfl) (W.self 0 _ _ _ hst₁ (loop _ rfl))

theorem comp_blockC {α : Type} {E : Value → Shared → Prop} {elt iter : Expr} {x : Str} {px : Pos} {ifs : List Expr} {scope : Scope} {cl : List (Str × Addr)} {pos : Pos} {xs : List α} {v : Value} {s₁ : Shared} {RR : Value → Addr → Result → Shared → Prop}
    (enc : α → PyData) (p : α → Bool) (f : α → PyData)
    (hc : ∀ n, cellsFrom n scope.names cl = (x, n) :: cl) (hp : ∀ hp : Heap, pushCells hp scope.names = hp.push { cls := .type "cell", data := .cell none })
    (hkind : scope.kind = .function) (hx : scope.names.lookup x = some .cell)
    (hsrc : SrcV prog w A B s₁.heap v (xs.map enc)) (hB : Live B s₁.heap) (hsz : xs.length ≤ 1000000)
    (body : ∀ a C c u B' h', a ∈ xs → Keep s₁.heap h' → Ext B s₁.heap B' h' → (∀ b, B b → B' b) → h'.IsCell c (some u) → Rep B' h' u (enc a) →
      EvB prog w A B' (compIfs ifs (compEnvC scope ((x, c) :: cl) C env)) h' (p a) ∧ (p a = true → EvD prog w A B' (eval elt (compEnvC scope ((x, c) :: cl) C env)) h' (f a)))
    (hRR : ∀ acc C h' tk, CompDone B s₁.heap ((xs.filter p).map f) acc C h' → RR acc C (.ok .next) { s₁ with heap := h', toks := tk }) :
    wpAny (model prog w) A (pyIter v) (fun it s₂ => wpAny (model prog w) A (newList []) (fun acc s₃ => wpAny (model prog w) A (newFunctionEnv scope env.globals cl [] env.qual none .none (some env)) (fun cenv s₄ =>
      codeAny (model prog w) A (.compStart (.ListComp elt [⟨.Name x px, iter, ifs, 0⟩] scope pos) 0 it acc { cenv with scope := relabel scope env }) (RR acc cenv.locals) s₄) E s₃) E s₂) E s₁ := by
  refine hsrc s₁ _ E Keep.rfl' fun fp P St oI W hst hfr hfp _ hIo hSD hel => ?_
  refine wpAny_newObj_type (newEnv_cell1 hc hp ?_)
  dsimp only
  have hsI : (s₁.heap.push oI).objs.size = s₁.heap.objs.size + 1 := Heap.size_push ..
  generalize hH2 : (s₁.heap.push oI).push { cls := .type "list", dict := none, data := .seq ([] : List Value).toArray } = H2
  have hC : H2.objs.size = s₁.heap.objs.size + 2 := by rw [← hH2, Heap.size_push, hsI]
  generalize hh₁ : (H2.push { cls := .type "dict", data := .dict #[] }).push { cls := .type "cell", data := .cell none } = h₁
  have hsz3 : (H2.push { cls := .type "dict", data := .dict #[] }).objs.size = s₁.heap.objs.size + 3 := by rw [Heap.size_push, hC]
  rw [hsI]
  have old2 : Keep (s₁.heap.push oI) h₁ := by rw [← hh₁, ← hH2]; exact ((Keep.push _).tr (Keep.push _)).tr (Keep.push _)
  have old : Keep s₁.heap h₁ := (Keep.push _).tr old2
  have hD : h₁.PlainList (s₁.heap.objs.size + 1) #[] := ⟨0, by rw [← hh₁]; exact Heap.get?_push_of_some _ (Heap.get?_push_of_some _ (by rw [← hH2, ← hsI]; exact Heap.get?_push_size _ rfl))⟩
  have hns₁ : h₁.Ns H2.objs.size (fun _ => none) := by rw [← hh₁]; exact nsK (Heap.Ns.new H2 (.type "dict")) (Keep.push _)
  have hcl₁ : h₁.IsCell (H2.objs.size + 1) none := by rw [← hh₁, show H2.objs.size + 1 = (H2.push { cls := .type "dict", data := .dict #[] }).objs.size from (Heap.size_push ..).symm]; exact ⟨_, Heap.get?_push_size _ rfl, rfl⟩
  have hst₁ : St 0 h₁ := wframe W hSD hst fun b _ o e => old2 b o e
  have loop : codeAny (model prog w) A (.compLoop (.ListComp elt [⟨.Name x px, iter, ifs, 0⟩] scope pos) 0 (.ref s₁.heap.objs.size) (.ref (s₁.heap.objs.size + 1)) (compEnvC scope ((x, H2.objs.size + 1) :: cl) H2.objs.size env))
        (RR (.ref (s₁.heap.objs.size + 1)) H2.objs.size) { s₁ with heap := h₁ } := by
    have W' : Walks prog w A s₁.heap.objs.size fp [s₁.heap.objs.size] xs.length P St := by rw [List.length_map] at W; exact W
    refine loop_core (h₀ := s₁.heap) (xs := xs) W' hIo hSD (fun b => b = H2.objs.size ∨ b = H2.objs.size + 1) (fun hp => (∃ m, hp.Ns H2.objs.size m) ∧ ∃ u, hp.IsCell (H2.objs.size + 1) u) (fun hp u => hp.IsCell (H2.objs.size + 1) (some u))
      ?_ ?_ ?_ ?_ ?_ ?_ ?_ ?_ ?_ ?_ hB enc p f ?_ ?_ ?_ hst₁ ⟨⟨_, hns₁⟩, _, hcl₁⟩ old hD hsz ?_
    · rintro hp b ⟨⟨m, o, es, ep, e, _⟩, u, o', e', _⟩ (rfl | rfl)
      · obtain ⟨o', e', _⟩ := vg_some e; exact ⟨o', e'⟩
      · obtain ⟨o', e', _⟩ := vg_some e'; exact ⟨o', e'⟩
    · rintro hp hp' ⟨⟨m, hn⟩, u, hc⟩ k; exact ⟨⟨m, nsA hn fun o e => k _ o (.inl rfl) e⟩, u, cellA hc fun o e => k _ o (.inr rfl) e⟩
    · rintro hp hp' u hc k; exact cellK hc k
    · rintro s v Q E ⟨⟨m, hn⟩, u, hc⟩ hq
      refine wpAny_assign_Name (wpAny_storeName_cell (env := compEnvC scope ((x, H2.objs.size + 1) :: cl) H2.objs.size env) (c := H2.objs.size + 1) (by simp [compEnvC, relabel, hkind]) (lookup_relabel_cell hx) (by simp [compEnvC]) hc (fun h' hn' hs' => ?_))
      exact hq h' s.toks ⟨⟨m, hn.sameBut hs' (Nat.ne_of_lt (Nat.lt_succ_self _))⟩, _, hn'⟩ hn' fun b o nb e => sbut hs' b o (fun q => nb (.inr q)) e
    · rw [hC]; intro q; rcases q with q | q <;> exact absurd q (by dsimp only [Addr] at *; omega)
    · exact Nat.succ_ne_self _
    · rw [hC]; intro q; rcases q with q | q <;> exact absurd q (by dsimp only [Addr] at *; omega)
    · intro hm; exact absurd (hfp _ hm) (Nat.lt_irrefl _)
    · intro b hb q; have := hfp b hb; rw [hC] at q; rcases q with q | q <;> subst q <;> exact absurd this (by dsimp only [Addr] at *; omega)
    · intro b o e; have := vg_lt e; exact ⟨Nat.ne_of_lt this, Nat.ne_of_lt (Nat.lt_succ_of_lt this), by rw [hC]; intro q; rcases q with q | q <;> subst q <;> exact absurd this (by dsimp only [Addr] at *; omega)⟩
    · intro i u a hu ha; exact hel i u (enc a) hu (by rw [List.getElem?_map, ha]; rfl)
    · rintro a u h' ha k hcu r
      refine (body a H2.objs.size (H2.objs.size + 1) u _ h' ha k (fun b o nb e => ⟨fun q => ?_, k b o e⟩) (fun b q => .inl q) hcu r).1
      have := vg_lt e
      rcases q with q | q | q | q | q
      · exact nb q
      · exact Nat.ne_of_lt this q
      · exact Nat.ne_of_lt (Nat.lt_succ_of_lt this) q
      · rw [hC] at q; subst q; exact absurd this (by dsimp only [Addr] at *; omega)
      · rw [hC] at q; subst q; exact absurd this (by dsimp only [Addr] at *; omega)
    · rintro a u h' ha hpa k hcu r
      refine (body a H2.objs.size (H2.objs.size + 1) u _ h' ha k (fun b o nb e => ⟨fun q => ?_, k b o e⟩) (fun b q => .inl q) hcu r).2 hpa
      have := vg_lt e
      rcases q with q | q | q | q | q
      · exact nb q
      · exact Nat.ne_of_lt this q
      · exact Nat.ne_of_lt (Nat.lt_succ_of_lt this) q
      · rw [hC] at q; subst q; exact absurd this (by dsimp only [Addr] at *; omega)
      · rw [hC] at q; subst q; exact absurd this (by dsimp only [Addr] at *; omega)
    · rintro h' tk ys n' k ⟨⟨m, hn⟩, _⟩ e r
      refine hRR _ _ h' tk ⟨k, ?_, ⟨m, hn⟩, .list ?_ e (r.sub fun b q => ?_), ?_⟩
      · exact vg_ge (by rw [hC]; omega)
      · rintro (q | q)
        · have := hB.lt q; exact absurd this (by dsimp only [Addr] at *; omega)
        · rw [hC] at q; exact absurd q (by dsimp only [Addr] at *; omega)
      · rcases q with q | q
        · exact .inl q
        · exact .inr (.inr (.inr (.inl q)))
      · rintro b (q | rfl)
        · exact (hB.keep k) b q
        · obtain ⟨o, es, ep, e, _⟩ := hn; obtain ⟨o', e', _⟩ := vg_some e; exact ⟨o', e'⟩
  exact codeAny_compStart_list loop (W.self 0 _ _ _ hst₁ loop)
end
end OpA
namespace OpA
variable [Base]
section
variable {prog : Program} {w : World} {A : Around} {B : Bad} {h : Heap} {env : Env}

/-- comprehensions as values -/
theorem ev_compL {α : Type} {elt iter : Expr} {x : Str} {px : Pos} {ifs : List Expr} {scope : Scope} {cl : List (Str × Addr)} {pos : Pos} {xs : List α} (enc : α → PyData) (p : α → Bool) (f : α → PyData)
    (hclos : closureFor scope env = pure cl) (hcell : ∀ y ∈ scope.names, y.2 ≠ .cell) (hkind : scope.kind = .function) (hnames : ∀ y ∈ scope.names, y.2 = .local → scope.names.lookup y.1 = some .local) (hx : scope.names.lookup x = some .local)
    (hit : Ev prog w A B (eval iter env) h (fun h' v => SrcV prog w A B h' v (xs.map enc))) (hsz : xs.length ≤ 1000000)
    (body : ∀ a C u B' h', a ∈ xs → Keep h h' → Ext B h B' h' → (∀ b, B b → B' b) → LdN (compEnvC scope cl C env) x h' u → Rep B' h' u (enc a) →
      EvB prog w A B' (compIfs ifs (compEnvC scope cl C env)) h' (p a) ∧ (p a = true → EvD prog w A B' (eval elt (compEnvC scope cl C env)) h' (f a)))
    (hs : ∀ x, foldedSetIterable iter env x = pure x := by intro _; rfl) :
    EvD prog w A B (eval (.ListComp elt [⟨.Name x px, iter, ifs, 0⟩] scope pos) env) h (.list ((xs.filter p).map f)) := by
  intro s Q E hk hl hq
  rw [eval_ListComp]
  refine wpAny_comprehension_free (use := none) rfl hs hclos hkind hnames (hit s _ E hk hl fun v h₁ tk₁ k₁ hsrc => ?_)
  refine comp_blockL enc p f hcell hkind hx hsrc (hl.keep k₁) hsz (fun a C u B' h' ha k kx kb l r => body a C u B' h' ha ((hk.tr k₁).tr k) (fun b o nb e => kx b o nb (k₁ _ _ (hk _ _ e))) kb l r) fun acc C h' tk d => ?_
  obtain ⟨m, hn⟩ := d.ns
  refine ⟨m, hn, fun h'' hs'' => hq acc h'' tk (fun b o e => sbut hs'' b o (by rintro rfl; have q := k₁ _ _ e; exact nomatch d.fresh.symm.trans q) (d.keep _ _ (k₁ _ _ e))) ?_⟩
  exact d.rep.lift fun b o nb e => ⟨fun q => nb (.inl q), sbut hs'' b o (fun q => nb (.inr q)) e⟩
theorem ev_compC {α : Type} {elt iter : Expr} {x : Str} {px : Pos} {ifs : List Expr} {scope : Scope} {cl : List (Str × Addr)} {pos : Pos} {xs : List α} (enc : α → PyData) (p : α → Bool) (f : α → PyData)
    (hclos : closureFor scope env = pure cl) (hc : ∀ n, cellsFrom n scope.names cl = (x, n) :: cl) (hp : ∀ hp : Heap, pushCells hp scope.names = hp.push { cls := .type "cell", data := .cell none })
    (hkind : scope.kind = .function) (hnames : ∀ y ∈ scope.names, y.2 = .local → scope.names.lookup y.1 = some .local) (hx : scope.names.lookup x = some .cell)
    (hit : Ev prog w A B (eval iter env) h (fun h' v => SrcV prog w A B h' v (xs.map enc))) (hsz : xs.length ≤ 1000000)
    (body : ∀ a C c u B' h', a ∈ xs → Keep h h' → Ext B h B' h' → (∀ b, B b → B' b) → h'.IsCell c (some u) → Rep B' h' u (enc a) →
      EvB prog w A B' (compIfs ifs (compEnvC scope ((x, c) :: cl) C env)) h' (p a) ∧ (p a = true → EvD prog w A B' (eval elt (compEnvC scope ((x, c) :: cl) C env)) h' (f a)))
    (hs : ∀ x, foldedSetIterable iter env x = pure x := by intro _; rfl) :
    EvD prog w A B (eval (.ListComp elt [⟨.Name x px, iter, ifs, 0⟩] scope pos) env) h (.list ((xs.filter p).map f)) := by
  intro s Q E hk hl hq
  rw [eval_ListComp]
  refine wpAny_comprehension_free (use := none) rfl hs hclos hkind hnames (hit s _ E hk hl fun v h₁ tk₁ k₁ hsrc => ?_)
  refine comp_blockC enc p f hc hp hkind hx hsrc (hl.keep k₁) hsz (fun a C c u B' h' ha k kx kb l r => body a C c u B' h' ha ((hk.tr k₁).tr k) (fun b o nb e => kx b o nb (k₁ _ _ (hk _ _ e))) kb l r) fun acc C h' tk d => ?_
  obtain ⟨m, hn⟩ := d.ns
  refine ⟨m, hn, fun h'' hs'' => hq acc h'' tk (fun b o e => sbut hs'' b o (by rintro rfl; have q := k₁ _ _ e; exact nomatch d.fresh.symm.trans q) (d.keep _ _ (k₁ _ _ e))) ?_⟩
  exact d.rep.lift fun b o nb e => ⟨fun q => nb (.inl q), sbut hs'' b o (fun q => nb (.inr q)) e⟩

/-- sources -/
theorem ev_srcL {e : Expr} {ds : List PyData} (hh : A.handled = none) (x : EvD prog w A B (eval e env) h (.list ds)) : Ev prog w A B (eval e env) h (fun h' v => SrcV prog w A B h' v ds) :=
  x.mono fun h' v _ r => srcV_list hh r
theorem ev_srcR {t : Sem Value} {a : Int} {n : Nat} (hh : A.handled = none) (x : Ev prog w A B t h (fun h' v => RangeV h' v a n)) : Ev prog w A B t h (fun h' v => SrcV prog w A B h' v (rangeD a n)) :=
  x.mono fun h' v _ r => srcV_range hh r

/-- names -/
theorem ldn_global {x : Str} {mg : Str → Option Value} {v : Value} (hk : env.scope.kind = .function) (hx : env.kindOf x = some .globalImplicit) (hg : h.Ns env.globals mg) (hv : mg x = some v) : LdN env x h v :=
  fun M A s Q E k hq => by
    unfold loadName
    simp only [Env.blockKind, hk, hx, ScopeKind.isAnnotationScope, Bool.false_and, Bool.false_eq_true, if_false]
    exact loadGlobal_global (nsK hg k) hv hq
theorem ldn_builtin {x : Str} {mg mb : Str → Option Value} {v : Value} (hk : env.scope.kind = .function) (hx : env.kindOf x = some .globalImplicit) (hg : h.Ns env.globals mg) (hm : mg x = none) (hb : h.Ns env.builtins mb) (hv : mb x = some v) : LdN env x h v :=
  fun M A s Q E k hq => by
    unfold loadName
    simp only [Env.blockKind, hk, hx, ScopeKind.isAnnotationScope, Bool.false_and, Bool.false_eq_true, if_false]
    exact loadGlobal_builtin (nsK hg k) hm (nsK hb k) hv hq

/-- a def's frame -/
structure Fm (env : Env) (m cm : Str → Option Value) (h : Heap) : Prop where
  kind : env.scope.kind = .function
  ns : h.Ns env.locals m
  cell : ∀ n c, env.cells.lookup n = some c → h.IsCell c (cm n)
  apart : env.cells.Pairwise fun x y => x.2 ≠ y.2
  above : ∀ n c, (n, c) ∈ env.cells → env.locals < c
/-- what a def's frame may turn -/
def FB (env : Env) : Bad := fun b => b = env.locals ∨ ∃ n, env.cells.lookup n = some b
theorem Fm.alive {m cm : Str → Option Value} (F : Fm env m cm h) : Live (FB env) h := fun b hb => by
  rcases hb with rfl | ⟨n, hn⟩
  · obtain ⟨o, _, _, e, _⟩ := F.ns; obtain ⟨o', e', _⟩ := vg_some e; exact ⟨o', e'⟩
  · obtain ⟨o, e, _⟩ := F.cell n b hn; obtain ⟨o', e', _⟩ := vg_some e; exact ⟨o', e'⟩
theorem Fm.keep {m cm : Str → Option Value} {h' : Heap} (F : Fm env m cm h) (k : Keep h h') : Fm env m cm h' :=
  ⟨F.kind, nsK F.ns k, fun n c e => cellK (F.cell n c e) k, F.apart, F.above⟩
theorem Fm.keepB {m cm : Str → Option Value} {h' : Heap} (F : Fm env m cm h) (k : ∀ b o, FB env b → vg h b = some o → vg h' b = some o) : Fm env m cm h' :=
  ⟨F.kind, nsA F.ns fun o e => k _ o (.inl rfl) e, fun n c e => cellA (F.cell n c e) fun o q => k _ o (.inr ⟨n, e⟩) q, F.apart, F.above⟩
theorem Fm.ld {m cm : Str → Option Value} {x : Str} {v : Value} (F : Fm env m cm h) (hl : env.kindOf x = some .local) (hv : m x = some v) : LdN env x h v := ldn_local F.kind hl F.ns hv
theorem Fm.ldc {m cm : Str → Option Value} {x : Str} {v : Value} {c : Addr} (F : Fm env m cm h) (hl : env.kindOf x = some .cell) (hc : env.cells.lookup x = some c) (hv : cm x = some v) : LdN env x h v := ldn_cell F.kind hl hc (hv ▸ F.cell x c hc)

abbrev upd (m : Str → Option Value) (x : Str) (v : Value) : Str → Option Value := fun y => if y = x then some v else m y

theorem fm_store {M : Model} {s : Shared} {m cm : Str → Option Value} {x : Str} {v : Value} {Q : Unit → Shared → Prop} {E : Value → Shared → Prop} (F : Fm env m cm s.heap) (hl : env.kindOf x = some .local)
    (hq : ∀ h' tk, Fm env (upd m x v) cm h' → KeepX (FB env) s.heap h' → Q () { s with heap := h', toks := tk }) : wpAny M A (storeName env x v) Q E s := by
  refine wpAny_storeName_local hl F.ns (fun h' hn' hs' => hq h' _ ⟨F.kind, hn', fun n c e => (F.cell n c e).sameBut hs' (Nat.ne_of_gt (F.above n c (mem_of_lookup e))), F.apart, F.above⟩ fun b o nb e => sbut hs' b o (fun q => nb (.inl q)) e) (by rw [F.kind]; rfl)
theorem fm_storeC {M : Model} {s : Shared} {m cm : Str → Option Value} {x : Str} {v : Value} {c : Addr} {Q : Unit → Shared → Prop} {E : Value → Shared → Prop} (F : Fm env m cm s.heap) (hl : env.kindOf x = some .cell) (hc : env.cells.lookup x = some c)
    (hq : ∀ h' tk, Fm env m (upd cm x v) h' → KeepX (FB env) s.heap h' → Q () { s with heap := h', toks := tk }) : wpAny M A (storeName env x v) Q E s := by
  have hLc := F.above x c (mem_of_lookup hc)
  refine wpAny_storeName_cell F.kind hl hc (F.cell x c hc) (fun h' hc' hs' => hq h' s.toks ⟨F.kind, F.ns.sameBut hs' (Nat.ne_of_lt hLc), fun k c' hk' => ?_, F.apart, F.above⟩ fun b o nb e => sbut hs' b o (fun q => nb (.inr ⟨x, q ▸ hc⟩)) e)
  · by_cases hkn : k = x
    · subst hkn
      rw [hc] at hk'; cases hk'
      simpa [upd] using hc'
    · show h'.IsCell c' (if k = x then some v else cm k)
      rw [if_neg hkn]
      exact (F.cell k c' hk').sameBut hs' fun e => hkn (name_of_addr F.apart (mem_of_lookup hk') (e ▸ mem_of_lookup hc))

/-- a block: from this very heap -/
def Blk (prog : Program) (w : World) (A : Around) (t : Sem Flow) (h : Heap) (R : Flow → Heap → Prop) : Prop :=
  ∀ (s : Shared) (Q : Flow → Shared → Prop) (E : Value → Shared → Prop), s.heap = h → (∀ fl h' tk, R fl h' → Q fl { s with heap := h', toks := tk }) → wpAny (model prog w) A t Q E s

theorem ev_fn {a : Addr} {o : Obj} {fd : FuncData} {body : List Stmt} {vals : List Value} {binds : List (Str × Value)} {d : PyData} (hB : Live B h)
    (ho : vg h a = some o) (hdata : o.data = .func fd) (hlim : h.NoLimit) (hcd : h.CodeRec fd.code fd.qualname) (hroom : A.depth < recursionLimit)
    (hbody : fd.body = .stmts body) (hbind : ∀ s : Shared, Keep h s.heap → BindsTo s fd ⟨vals, []⟩ binds) (hclo : fd.closure = [])
    (hkind : ∀ n, ∀ x ∈ binds, fd.scope.names.lookup x.1 = some .local ∨ (fd.scope.names.lookup x.1 = some .cell ∧ ((cellsFrom n fd.scope.names []).lookup x.1).isSome = true))
    (hb : ∀ (L : Addr) (h₁ : Heap), Keep h h₁ → Fm (callEnvC fd L a) (bindL (callEnvC fd L a).kindOf binds fun _ => none) (bindC (callEnvC fd L a).kindOf binds fun _ => none) h₁ →
      Ext B h (fun b => B b ∨ FB (callEnvC fd L a) b) h₁ → (∀ b o, vg h b = some o → ¬ FB (callEnvC fd L a) b) → (∀ b o, vg h b = some o → b < L) → Live (fun b => B b ∨ FB (callEnvC fd L a) b) h₁ →
      Blk prog w (A.deeper (callEnvC fd L a)) (execs body (callEnvC fd L a)) h₁ (fun fl h' => KeepX (FB (callEnvC fd L a)) h₁ h' ∧ ∃ v, fl = .ret v ∧ Rep (fun b => B b ∨ FB (callEnvC fd L a) b) h' v d))
    (hco : fd.scope.isCoroutine = false := by rfl) (hgen : fd.scope.isGenerator = false := by rfl) (hk : fd.scope.kind = .function := by rfl) :
    EvD prog w A B (call (.ref a) vals) h d := by
  intro s Q E hk' hl hq
  have hnd : NoD o := fun _ _ q => by rw [hdata] at q; cases q
  refine wpAny_call (codeAny_call_function hroom (vg_get (hk' _ _ ho) hnd) hdata hco hgen hbody (codeK hcd hk') (hbind s hk' _ _ _ _ ?_))
  rw [hclo]
  refine wpAny_newFunctionEnv_cells hk (hkind _) fun env₁ he₁ s₁ x => ⟨(limK hlim hk').keeps x.toInCall.keep, ?_⟩
  subst he₁
  refine codeAny_func ?_
  have hlocals : (callEnvC fd s.heap.objs.size a).locals = s.heap.objs.size := rfl
  have hge : ∀ b, FB (callEnvC fd s.heap.objs.size a) b → s.heap.objs.size ≤ b := by
    rintro b (rfl | ⟨n, hn⟩)
    · exact Nat.le_refl _
    · exact Nat.le_of_lt (x.above n b (mem_of_lookup hn))
  obtain ⟨h₁, tk₁, rfl⟩ := x.toInCall.same
  have kx : Keep s.heap h₁ := Keep.of x.toInCall.keep
  have hF : Fm (callEnvC fd s.heap.objs.size a) (bindL (callEnvC fd s.heap.objs.size a).kindOf binds fun _ => none) (bindC (callEnvC fd s.heap.objs.size a).kindOf binds fun _ => none) h₁ := by
    exact ⟨hk, x.toInCall.ns, x.cell, x.apart, x.above⟩
  refine hb _ h₁ (hk'.tr kx) hF (fun b o nb e => ⟨?_, kx _ _ (hk' _ _ e)⟩) (fun b o e q => absurd (vg_lt (hk' _ _ e)) (Nat.not_lt.mpr (hge b q))) (fun b o e => vg_lt (hk' _ _ e)) ?_ _ _ _ rfl fun fl h' tk ⟨kx', v, hfl, r⟩ => ?_
  · rintro (q | q)
    · exact nb q
    · have := hge b q
      have h2 := vg_lt (hk' _ _ e)
      exact absurd h2 (Nat.not_lt.mpr this)
  · rintro b (q | q)
    · exact ((hB.keep hk').keep kx) b q
    · exact hF.alive b q
  · subst hfl
    exact hq v h' tk (fun b o e => kx' b o (fun q => absurd (vg_lt e) (Nat.not_lt.mpr (hge b q))) (kx _ _ e)) (r.sub fun b q => .inl q)

-- statements
variable {R : Flow → Heap → Prop}
theorem blk_nil (x : R .next h) : Blk prog w A (execs [] env) h R := fun s Q E e hq => wpAny_execs_nil (by have := hq .next h s.toks x; rw [← e] at this; exact this)
theorem blk_cons {st : Stmt} {rest : List Stmt} (x : Blk prog w A (exec st env) h (fun fl h' => match fl with | .next => Blk prog w A (execs rest env) h' R | fl => R fl h')) : Blk prog w A (execs (st :: rest) env) h R :=
  fun s Q E e hq => wpAny_execs_cons (x s _ E e fun fl h' tk r => by
    cases fl with
    | next => exact r _ Q E rfl fun fl h'' tk' r' => hq fl h'' tk' r'
    | brk => exact hq _ h' tk r
    | cont => exact hq _ h' tk r
    | ret v => exact hq _ h' tk r)
theorem blk_assign {x : Str} {p pos : Pos} {value : Expr} {m cm : Str → Option Value} {P₀ : Heap → Value → Prop} (F : Fm env m cm h) (hB : Live B h) (hl : env.kindOf x = some .local) (y : Ev prog w A B (eval value env) h P₀)
    (z : ∀ h₁ v h', Keep h h₁ → P₀ h₁ v → Fm env (upd m x v) cm h' → KeepX (FB env) h₁ h' → R .next h') (hs : swapsWith value (some (.Name x p)) pos.line env = pure false := by rfl) : Blk prog w A (exec (.Assign [.Name x p] value pos) env) h R :=
  fun s Q E e hq => by
    subst e
    exact wpAny_Assign_Name (y s _ E Keep.rfl' hB fun v h₁ tk₁ k₁ p₁ => fm_store (F.keep k₁) hl fun h' tk F' kx => hq _ h' tk (z h₁ v h' k₁ p₁ F' kx)) hs
theorem blk_assignC {x : Str} {p pos : Pos} {value : Expr} {m cm : Str → Option Value} {c : Addr} {P₀ : Heap → Value → Prop} (F : Fm env m cm h) (hB : Live B h) (hl : env.kindOf x = some .cell) (hc : env.cells.lookup x = some c) (y : Ev prog w A B (eval value env) h P₀)
    (z : ∀ h₁ v h', Keep h h₁ → P₀ h₁ v → Fm env m (upd cm x v) h' → KeepX (FB env) h₁ h' → R .next h') (hs : swapsWith value (some (.Name x p)) pos.line env = pure false := by rfl) : Blk prog w A (exec (.Assign [.Name x p] value pos) env) h R :=
  fun s Q E e hq => by
    subst e
    exact wpAny_Assign_Name (y s _ E Keep.rfl' hB fun v h₁ tk₁ k₁ p₁ => fm_storeC (F.keep k₁) hl hc fun h' tk F' kx => hq _ h' tk (z h₁ v h' k₁ p₁ F' kx)) hs
theorem blk_if {test : Expr} {body orelse : List Stmt} {pos : Pos} {b : Bool} (hB : Live B h) (y : EvB prog w A B (isTrue test env (eval test env)) h b)
    (z1 : b = true → ∀ h', Keep h h' → Blk prog w A (execs body env) h' R) (z2 : b = false → ∀ h', Keep h h' → Blk prog w A (execs orelse env) h' R) : Blk prog w A (exec (.If test body orelse pos) env) h R :=
  fun s Q E e hq => by
    subst e
    refine wpAny_If (y s _ E Keep.rfl' hB fun v h' tk k p => ?_)
    subst p
    cases v with
    | true => exact z1 rfl h' k _ Q E rfl fun fl h'' tk' r => hq fl h'' tk' r
    | false => exact z2 rfl h' k _ Q E rfl fun fl h'' tk' r => hq fl h'' tk' r
theorem blk_ret {e : Expr} {pos : Pos} {P₀ : Heap → Value → Prop} (hB : Live B h) (y : Ev prog w A B (eval e env) h P₀) (z : ∀ h' v, Keep h h' → P₀ h' v → R (.ret v) h') : Blk prog w A (exec (.Return (some e) pos) env) h R :=
  fun s Q E e' hq => by
    subst e'
    exact wpAny_Return_some (y s _ E Keep.rfl' hB fun v h' tk k p => hq _ h' tk (z h' v k p))
end
end OpA
namespace OpA
variable [Base]

/-- the i-th statement of the text -/
def st (i : Nat) : Stmt := PySem.Challenge.pw_op0042_01.main.body.getD i (.Pass ⟨0, 0, 0, 0⟩)
def nameOf : Stmt → Str
  | .FunctionDef n .. => n
  | _ => Str.ofString ""
def paramsOf : Stmt → Arguments
  | .FunctionDef _ a .. => a
  | _ => ⟨[], [], none, [], [], none, []⟩
def bodyOf : Stmt → List Stmt
  | .FunctionDef _ _ b .. => b
  | _ => []
def scopeOf : Stmt → Scope
  | .FunctionDef _ _ _ _ _ _ s _ _ _ => s
  | _ => ⟨.function, [], false, false, []⟩
/-- the def of the i-th statement, its defaults dV -/
def fdOf (i : Nat) (dV pm cd doc : Value) : FuncData := { docDef (nameOf (st i)) (paramsOf (st i)) (bodyOf (st i)) (scopeOf (st i)) pm cd doc with defaults := dV }

structure FnAt (h : Heap) (i : Nat) (dV : Value) (a : Addr) : Prop where
  is : ∃ o pm cd doc, vg h a = some o ∧ o.data = .func (fdOf i dV pm cd doc) ∧ h.CodeRec cd (nameOf (st i))
theorem FnAt.keep {h h' : Heap} {i : Nat} {dV : Value} {a : Addr} (x : FnAt h i dV a) (k : Keep h h') : FnAt h' i dV a := by
  obtain ⟨o, pm, cd, doc, e, d, c⟩ := x.is
  exact ⟨o, pm, cd, doc, k _ _ e, d, codeK c k⟩

/-- a name of the built-ins -/
def Bin (mg mb : Str → Option Value) (x : String) (v : Value) : Prop := mg (Str.ofString x) = none ∧ mb (Str.ofString x) = some v
/-- the names of the top -/
structure Gx (mg mb : Str → Option Value) (h : Heap) : Prop where
  lim : h.NoLimit
  ng : h.Ns mainGlobals mg
  nb : h.Ns builtinsNs mb
  bLen : Bin mg mb "len" (.builtin "len")
  bSum : Bin mg mb "sum" (.builtin "sum")
  bAbs : Bin mg mb "abs" (.builtin "abs")
  bSorted : Bin mg mb "sorted" (.builtin "sorted")
  bRange : Bin mg mb "range" (.type "range")
  bType : Bin mg mb "type" (.type "type")
  bInt : Bin mg mb "int" (.type "int")
  bIter : Bin mg mb "iter" (.builtin "iter")
  bIndex : Bin mg mb "IndexError" (.type "IndexError")
/-- a name of the top that is a def of the text -/
def GFn (mg : Str → Option Value) (h : Heap) (x : String) (i : Nat) : Prop := ∃ a, mg (Str.ofString x) = some (.ref a) ∧ FnAt h i .none a
theorem GFn.keep {mg : Str → Option Value} {h h' : Heap} {x : String} {i : Nat} (g : GFn mg h x i) (k : Keep h h') : GFn mg h' x i := let ⟨a, e, f⟩ := g; ⟨a, e, f.keep k⟩
theorem Gx.keep {mg mb : Str → Option Value} {h h' : Heap} (x : Gx mg mb h) (k : Keep h h') : Gx mg mb h' := { x with lim := limK x.lim k, ng := nsK x.ng k, nb := nsK x.nb k }

section
variable {prog : Program} {w : World} {A : Around} {B : Bad} {h : Heap} {env : Env} {mg mb : Str → Option Value}
theorem Gx.bin (G : Gx mg mb h) {x : String} {v : Value} (b : Bin mg mb x v) (hg : env.globals = mainGlobals) (hb : env.builtins = builtinsNs) (hk : env.scope.kind = .function) (hx : env.kindOf (Str.ofString x) = some .globalImplicit) : LdN env (Str.ofString x) h v :=
  ldn_builtin hk hx (hg ▸ G.ng) b.1 (hb ▸ G.nb) b.2
theorem Gx.fn (G : Gx mg mb h) {x : String} {a : Addr} (e : mg (Str.ofString x) = some (.ref a)) (hg : env.globals = mainGlobals) (hk : env.scope.kind = .function) (hx : env.kindOf (Str.ofString x) = some .globalImplicit) : LdN env (Str.ofString x) h (.ref a) :=
  ldn_global hk hx (hg ▸ G.ng) e

abbrev fEnv (i : Nat) (dV pm cd doc : Value) (L a : Addr) : Env := callEnvC (fdOf i dV pm cd doc) L a

/-- what may turn while a def runs -/
abbrev BF (B : Bad) (env : Env) : Bad := fun b => B b ∨ FB env b
theorem keepX_of {B : Bad} {h h' : Heap} (k : Keep h h') : KeepX B h h' := fun b o _ e => k b o e
theorem KeepX.tr {B : Bad} {a b c : Heap} (x : KeepX B a b) (y : KeepX B b c) : KeepX B a c := fun p o n e => y p o n (x p o n e)

/-- within a def: h the heap of the call, h₁ of its start, hc the one at hand -/
structure At (B : Bad) (env : Env) (h h₁ : Heap) (m cm : Str → Option Value) (hc : Heap) : Prop where
  F : Fm env m cm hc
  K : Keep h hc
  X : KeepX (FB env) h₁ hc
  live : Live (BF B env) hc
  fresh : ∀ b o, vg h b = some o → ¬ FB env b
  above : ∀ b o, vg h b = some o → b < env.locals
theorem At.more {h₁ hc h₂ : Heap} {m cm : Str → Option Value} (a : At B env h h₁ m cm hc) (k : Keep hc h₂) : At B env h h₁ m cm h₂ :=
  ⟨a.F.keep k, a.K.tr k, a.X.tr (keepX_of k), a.live.keep k, a.fresh, a.above⟩
theorem At.turn {h₁ hc h₂ : Heap} {m cm m' cm' : Str → Option Value} (a : At B env h h₁ m cm hc) (F : Fm env m' cm' h₂) (k : KeepX (FB env) hc h₂) : At B env h h₁ m' cm' h₂ :=
  ⟨F, fun b o e => k b o (a.fresh b o e) (a.K b o e), a.X.tr k, fun b hb => by
    by_cases hf : FB env b
    · exact F.alive b hf
    · obtain ⟨o, e⟩ := a.live b hb; exact ⟨o, k b o hf e⟩, a.fresh, a.above⟩
theorem At.old {h₁ hc : Heap} {m cm : Str → Option Value} (a : At B env h h₁ m cm hc) {v : Value} {d : PyData} (r : Rep B h v d) : Rep (BF B env) hc v d :=
  r.lift fun b o nb e => ⟨fun q => q.elim nb (a.fresh b o e), a.K b o e⟩
theorem rep_turn {hc h₂ : Heap} (k : KeepX (FB env) hc h₂) {v : Value} {d : PyData} (r : Rep (BF B env) hc v d) : Rep (BF B env) h₂ v d :=
  r.keepX fun b o nb e => k b o (fun q => nb (.inr q)) e
/-- a def's end: a return of d -/
def RetD (B : Bad) (env : Env) (h₁ : Heap) (d : PyData) : Flow → Heap → Prop := fun fl h' => KeepX (FB env) h₁ h' ∧ ∃ v, fl = .ret v ∧ Rep (BF B env) h' v d

theorem at_assign {R : Flow → Heap → Prop} {h₁ hc : Heap} {m cm : Str → Option Value} {x : Str} {p pos : Pos} {value : Expr} {d : PyData} (a : At B env h h₁ m cm hc) (hl : env.kindOf x = some .local) (y : EvD prog w A (BF B env) (eval value env) hc d)
    (z : ∀ v h', At B env h h₁ (upd m x v) cm h' → Rep (BF B env) h' v d → (∀ u d', Rep (BF B env) hc u d' → Rep (BF B env) h' u d') → R .next h') (hs : swapsWith value (some (.Name x p)) pos.line env = pure false := by rfl) : Blk prog w A (exec (.Assign [.Name x p] value pos) env) hc R :=
  blk_assign a.F a.live hl y (fun h₂ v h' k₂ p₂ F' kx => z v h' ((a.more k₂).turn F' kx) (rep_turn kx p₂) fun u d' r => rep_turn kx (r.keep k₂)) hs
theorem at_assignC {R : Flow → Heap → Prop} {h₁ hc : Heap} {m cm : Str → Option Value} {x : Str} {c : Addr} {p pos : Pos} {value : Expr} {d : PyData} (a : At B env h h₁ m cm hc) (hl : env.kindOf x = some .cell) (hcl : env.cells.lookup x = some c) (y : EvD prog w A (BF B env) (eval value env) hc d)
    (z : ∀ v h', At B env h h₁ m (upd cm x v) h' → Rep (BF B env) h' v d → (∀ u d', Rep (BF B env) hc u d' → Rep (BF B env) h' u d') → R .next h') (hs : swapsWith value (some (.Name x p)) pos.line env = pure false := by rfl) : Blk prog w A (exec (.Assign [.Name x p] value pos) env) hc R :=
  blk_assignC a.F a.live hl hcl y (fun h₂ v h' k₂ p₂ F' kx => z v h' ((a.more k₂).turn F' kx) (rep_turn kx p₂) fun u d' r => rep_turn kx (r.keep k₂)) hs
theorem at_ret {h₁ hc : Heap} {m cm : Str → Option Value} {pos : Pos} {e : Expr} {d : PyData} (a : At B env h h₁ m cm hc) (y : EvD prog w A (BF B env) (eval e env) hc d) : Blk prog w A (exec (.Return (some e) pos) env) hc (RetD B env h₁ d) :=
  blk_ret a.live y fun h' v k p => ⟨a.X.tr (keepX_of k), v, rfl, p⟩
theorem at_ret1 {h₁ hc : Heap} {m cm : Str → Option Value} {pos : Pos} {e : Expr} {rest : List Stmt} {d : PyData} (a : At B env h h₁ m cm hc) (y : EvD prog w A (BF B env) (eval e env) hc d) : Blk prog w A (execs (.Return (some e) pos :: rest) env) hc (RetD B env h₁ d) :=
  blk_cons (blk_ret a.live y fun h' v k p => ⟨a.X.tr (keepX_of k), v, rfl, p⟩)

/-- a call of a def of the text -/
theorem call_fn {i : Nat} {dV : Value} {a : Addr} {vals : List Value} {d : PyData} {binds : List (Str × Value)} (hB : Live B h) (G : Gx mg mb h) (f : FnAt h i dV a) (hroom : A.depth < recursionLimit)
    (hbind : ∀ pm cd doc (s : Shared), Keep h s.heap → BindsTo s (fdOf i dV pm cd doc) ⟨vals, []⟩ binds)
    (hkind : ∀ n, ∀ x ∈ binds, (scopeOf (st i)).names.lookup x.1 = some .local ∨ ((scopeOf (st i)).names.lookup x.1 = some .cell ∧ ((cellsFrom n (scopeOf (st i)).names []).lookup x.1).isSome = true))
    (hb : ∀ (pm cd doc : Value) (L : Addr) (h₁ : Heap), At B (fEnv i dV pm cd doc L a) h h₁ (bindL (fEnv i dV pm cd doc L a).kindOf binds fun _ => none) (bindC (fEnv i dV pm cd doc L a).kindOf binds fun _ => none) h₁ →
      Blk prog w (A.deeper (fEnv i dV pm cd doc L a)) (execs (bodyOf (st i)) (fEnv i dV pm cd doc L a)) h₁ (RetD B (fEnv i dV pm cd doc L a) h₁ d))
    (hco : (scopeOf (st i)).isCoroutine = false := by rfl) (hgen : (scopeOf (st i)).isGenerator = false := by rfl) (hk : (scopeOf (st i)).kind = .function := by rfl) :
    EvD prog w A B (call (.ref a) vals) h d := by
  obtain ⟨o, pm, cd, doc, e, hd, hc⟩ := f.is
  exact ev_fn hB e hd G.lim hc hroom rfl (hbind pm cd doc) rfl hkind (fun L h₁ k F kx hf hL kl => hb pm cd doc L h₁ ⟨F, k, fun _ _ _ e => e, kl, hf, hL⟩) hco hgen hk
end
end OpA
namespace OpA
variable [Base]
section
variable {prog : Program} {w : World} {A : Around} {B : Bad} {h : Heap} {env : Env} {mg mb : Str → Option Value}

theorem one_local {nm : List (Str × NameKind)} {x : Str} {v : Value} {n : Nat} (h : nm.lookup x = some .local) : ∀ y ∈ [(x, v)], nm.lookup y.1 = some .local ∨ (nm.lookup y.1 = some .cell ∧ ((cellsFrom n nm []).lookup y.1).isSome = true) := fun y hy => by
  cases List.mem_singleton.mp hy; exact .inl h
theorem two_local {nm : List (Str × NameKind)} {x x' : Str} {v v' : Value} {n : Nat} (h : nm.lookup x = some .local) (h' : nm.lookup x' = some .local) : ∀ y ∈ [(x, v), (x', v')], nm.lookup y.1 = some .local ∨ (nm.lookup y.1 = some .cell ∧ ((cellsFrom n nm []).lookup y.1).isSome = true) := fun y hy => by
  rcases List.mem_cons.mp hy with rfl | hy
  · exact .inl h
  · exact one_local h' y hy

theorem op_addLI {h' : Heap} {a b : Value} {xs ys : List Int} (p : Rep B h' a (.list (xs.map .int))) (q : Rep B h' b (.list (ys.map .int))) (hn : xs.length + ys.length ≤ 1000000) : EvD prog w A B (binaryOp .Add a b) h' (.list ((xs ++ ys).map .int)) := by
  rw [List.map_append]; exact op_addL p q (by simpa using hn)
theorem Blk.mono {t : Sem Flow} {R R' : Flow → Heap → Prop} (x : Blk prog w A t h R) (f : ∀ fl h', R fl h' → R' fl h') : Blk prog w A t h R' :=
  fun s Q E e hq => x s Q E e fun fl h' tk r => hq fl h' tk (f fl h' r)
theorem blk_retThen {t : Sem Flow} {h₁ : Heap} {d : PyData} {N : Heap → Prop} (x : Blk prog w A t h (RetD B env h₁ d)) : Blk prog w A t h (fun fl h' => match fl with | .next => N h' | fl => RetD B env h₁ d fl h') :=
  x.mono fun fl h' r => by obtain ⟨v, rfl, _⟩ := r.2; exact r

theorem three_way {a : Addr} {v1 v2 : Value} {x y : Int} (hB : Live B h) (G : Gx mg mb h) (f : FnAt h 2 .none a) (hroom : A.depth < recursionLimit) (r1 : Rep B h v1 (.int x)) (r2 : Rep B h v2 (.int y)) :
    EvD prog w A B (call (.ref a) [v1, v2]) h (.int (b2i (decide (y < x)) - b2i (decide (x < y)))) := by
  refine call_fn (binds := [(Str.ofString "x", v1), (Str.ofString "y", v2)]) hB G f hroom (fun _ _ _ _ _ => BindsTo.of_eq rfl) (fun n => two_local rfl rfl) (fun pm cd doc L h₁ s => ?_)
  conv in (bodyOf _) => whnf
  have l1 : LdN (fEnv 2 .none pm cd doc L a) (Str.ofString "x") h₁ v1 := s.F.ld rfl rfl
  have l2 : LdN (fEnv 2 .none pm cd doc L a) (Str.ofString "y") h₁ v2 := s.F.ld rfl rfl
  exact at_ret1 s (ev_bin (ev_cmp (ev_name l1 (s.old r1)) (ev_name l2 (s.old r2)) fun h' a b _ p q => op_gt p q) (ev_cmp (ev_name l1 (s.old r1)) (ev_name l2 (s.old r2)) fun h' a b _ p q => op_lt p q) fun h' a b _ p q => op_subB p q)

abbrev sortI (ns : List Int) : List Int := ns.mergeSort (fun a b => decide (a ≤ b))
def medLow (ns : List Int) : Int := (sortI ns).getD ((ns.length - 1) / 2) 0
def medHigh (ns : List Int) : Int := (sortI ns).getD (ns.length / 2) 0
theorem len_sortI (ns : List Int) : (sortI ns).length = ns.length := List.length_mergeSort ns
abbrev dL (ns : List Int) : PyData := .list (ns.map .int)
theorem dL_get {ns : List Int} {i : Nat} (h : i < ns.length) : (ns.map PyData.int)[i]? = some (.int (ns.getD i 0)) := by
  rw [List.getElem?_map, List.getElem?_eq_getElem h, List.getD_eq_getElem?_getD, List.getElem?_eq_getElem h]; rfl

theorem median_high {a : Addr} {v : Value} {ns : List Int} (hB : Live B h) (G : Gx mg mb h) (f : FnAt h 9 .none a) (hroom : A.depth < recursionLimit) (r : Rep B h v (dL ns)) (h0 : 0 < ns.length) (h1 : ns.length < 64) :
    EvD prog w A B (call (.ref a) [v]) h (.int (medHigh ns)) := by
  refine call_fn (binds := [(Str.ofString "data", v)]) hB G f hroom (fun _ _ _ _ _ => BindsTo.of_eq rfl) (fun n => one_local rfl) (fun pm cd doc L h₁ s => ?_)
  conv in (bodyOf _) => whnf
  have l1 : LdN (fEnv 9 .none pm cd doc L a) (Str.ofString "data") h₁ v := s.F.ld rfl rfl
  have G₁ := G.keep s.K
  refine blk_cons (at_assign s rfl (ev_callB (G₁.bin G₁.bSorted rfl rfl rfl rfl) (evA_cons (ev_name l1 (s.old r)) evA_nil) fun h' vs k' rs => bi_sorted rs h1) fun v₂ h₂ s₂ r₂ _ => ?_)
  have G₂ := G.keep s₂.K
  have l2 : LdN (fEnv 9 .none pm cd doc L a) (Str.ofString "data") h₂ v₂ := s₂.F.ld rfl rfl
  refine blk_cons (at_assign s₂ rfl (ev_callB (G₂.bin G₂.bLen rfl rfl rfl rfl) (evA_cons (ev_name l2 r₂) evA_nil) fun h' vs k' rs => bi_len rs (by simp; omega)) fun v₃ h₃ s₃ r₃ up => ?_)
  have l3 : LdN (fEnv 9 .none pm cd doc L a) (Str.ofString "n") h₃ v₃ := s₃.F.ld rfl rfl
  have l4 : LdN (fEnv 9 .none pm cd doc L a) (Str.ofString "data") h₃ v₂ := s₃.F.ld rfl rfl
  have r₄ := up _ _ r₂
  simp only [List.length_map, len_sortI] at r₃
  refine blk_cons (blk_if s₃.live (evB_cmp (ev_name l3 r₃) ev_const_int fun h' a b _ p q => op_eq p q) (fun e => ?_) fun e h₅ k₅ => blk_nil ?_)
  · have := eq_of_beq e; omega
  · have s₅ := s₃.more k₅
    refine at_ret1 s₅ (ev_sub (k := ((ns.length : Int).fdiv 2)) (ev_name (l4.up k₅) (r₄.keep k₅)) (ev_bin (ev_name (l3.up k₅) (r₃.keep k₅)) ev_const_int fun h' a b _ p q => op_fdiv p q (by decide) (by decide)) ?_ ?_ (by simp; omega))
    · rw [Int.fdiv_eq_ediv_of_nonneg _ (by decide)]; omega
    · rw [Int.fdiv_eq_ediv_of_nonneg _ (by decide), show ((ns.length : Int) / 2).toNat = ns.length / 2 by omega]
      exact dL_get (by rw [len_sortI]; omega)

theorem median_low {a : Addr} {v : Value} {ns : List Int} (hB : Live B h) (G : Gx mg mb h) (f : FnAt h 8 .none a) (hroom : A.depth < recursionLimit) (r : Rep B h v (dL ns)) (h0 : 0 < ns.length) (h1 : ns.length < 64) :
    EvD prog w A B (call (.ref a) [v]) h (.int (medLow ns)) := by
  refine call_fn (binds := [(Str.ofString "data", v)]) hB G f hroom (fun _ _ _ _ _ => BindsTo.of_eq rfl) (fun n => one_local rfl) (fun pm cd doc L h₁ s => ?_)
  conv in (bodyOf _) => whnf
  have l1 : LdN (fEnv 8 .none pm cd doc L a) (Str.ofString "data") h₁ v := s.F.ld rfl rfl
  have G₁ := G.keep s.K
  refine blk_cons (at_assign s rfl (ev_callB (G₁.bin G₁.bSorted rfl rfl rfl rfl) (evA_cons (ev_name l1 (s.old r)) evA_nil) fun h' vs k' rs => bi_sorted rs h1) fun v₂ h₂ s₂ r₂ _ => ?_)
  have G₂ := G.keep s₂.K
  have l2 : LdN (fEnv 8 .none pm cd doc L a) (Str.ofString "data") h₂ v₂ := s₂.F.ld rfl rfl
  refine blk_cons (at_assign s₂ rfl (ev_callB (G₂.bin G₂.bLen rfl rfl rfl rfl) (evA_cons (ev_name l2 r₂) evA_nil) fun h' vs k' rs => bi_len rs (by simp; omega)) fun v₃ h₃ s₃ r₃ up => ?_)
  have l3 : LdN (fEnv 8 .none pm cd doc L a) (Str.ofString "n") h₃ v₃ := s₃.F.ld rfl rfl
  have l4 : LdN (fEnv 8 .none pm cd doc L a) (Str.ofString "data") h₃ v₂ := s₃.F.ld rfl rfl
  have r₄ := up _ _ r₂
  simp only [List.length_map, len_sortI] at r₃
  refine blk_cons (blk_if s₃.live (evB_cmp (ev_name l3 r₃) ev_const_int fun h' a b _ p q => op_eq p q) (fun e => ?_) fun e h₅ k₅ => blk_nil ?_)
  · have := eq_of_beq e; omega
  · have s₅ := s₃.more k₅
    refine blk_cons (blk_if s₅.live (evB_cmp (ev_bin (ev_name (l3.up k₅) (r₃.keep k₅)) ev_const_int fun h' a b _ p q => op_mod p q (by decide)) ev_const_int fun h' a b _ p q => op_eq p q) (fun e h₆ k₆ => ?_) fun e h₆ k₆ => ?_)
    · have e' := eq_of_beq e
      rw [Int.fmod_eq_emod_of_nonneg _ (by decide)] at e'
      refine blk_retThen (at_ret1 (s₅.more k₆) (ev_sub (k := ((ns.length : Int).fdiv 2)) (ev_name ((l4.up k₅).up k₆) ((r₄.keep k₅).keep k₆)) (ev_bin (ev_name ((l3.up k₅).up k₆) ((r₃.keep k₅).keep k₆)) ev_const_int fun h' a b _ p q => op_fdiv p q (by decide) (by decide)) ?_ ?_ (by simp; omega)))
      · rw [Int.fdiv_eq_ediv_of_nonneg _ (by decide)]; omega
      · rw [Int.fdiv_eq_ediv_of_nonneg _ (by decide), show ((ns.length : Int) / 2).toNat = (ns.length - 1) / 2 by omega]
        exact dL_get (by rw [len_sortI]; omega)
    · have e' : ¬ ((ns.length : Int).fmod 2 = 1) := fun q => by rw [q] at e; exact absurd e (by decide)
      rw [Int.fmod_eq_emod_of_nonneg _ (by decide)] at e'
      refine blk_retThen (at_ret1 (s₅.more k₆) (ev_sub (k := ((ns.length : Int).fdiv 2) - 1) (ev_name ((l4.up k₅).up k₆) ((r₄.keep k₅).keep k₆)) (ev_bin (ev_bin (ev_name ((l3.up k₅).up k₆) ((r₃.keep k₅).keep k₆)) ev_const_int fun h' a b _ p q => op_fdiv p q (by decide) (by decide)) ev_const_int fun h' a b _ p q => op_sub p q) ?_ ?_ (by simp; omega)))
      · rw [Int.fdiv_eq_ediv_of_nonneg _ (by decide)]; omega
      · rw [Int.fdiv_eq_ediv_of_nonneg _ (by decide), show ((ns.length : Int) / 2 - 1).toNat = (ns.length - 1) / 2 by omega]
        exact dL_get (by rw [len_sortI]; omega)

/-- one more stair -/
theorem one_more {a : Addr} {v1 v2 : Value} {xss : List (List Int)} {x : Int} (hB : Live B h) (G : Gx mg mb h) (f : FnAt h 12 .none a) (hroom : A.depth < recursionLimit) (r1 : Rep B h v1 (.list (xss.map dL))) (r2 : Rep B h v2 (.int x))
    {last : List Int} (hlast : xss[xss.length - 1]? = some last) (hn : xss.length < 1000) (hn2 : last.length < 60) :
    EvD prog w A B (call (.ref a) [v1, v2]) h (.list ((xss ++ [sortI (last ++ [x])]).map dL)) := by
  refine call_fn (binds := [(Str.ofString "stair", v1), (Str.ofString "name", v2)]) hB G f hroom (fun _ _ _ _ _ => BindsTo.of_eq rfl) (fun n => two_local rfl rfl) (fun pm cd doc L h₁ s => ?_)
  conv in (bodyOf _) => whnf
  have l1 : LdN (fEnv 12 .none pm cd doc L a) (Str.ofString "stair") h₁ v1 := s.F.ld rfl rfl
  have l2 : LdN (fEnv 12 .none pm cd doc L a) (Str.ofString "name") h₁ v2 := s.F.ld rfl rfl
  have G₁ := G.keep s.K
  rw [List.map_append]
  exact at_ret1 s (ev_bin (ev_name l1 (s.old r1)) (ev_list (ds := [dL (sortI (last ++ [x]))]) (evA_cons (ev_callB (G₁.bin G₁.bSorted rfl rfl rfl rfl) (evA_cons (d := dL (last ++ [x])) (ev_bin (d₁ := dL last) (d₂ := dL [x]) (ev_subLast (ev_name l1 (s.old r1)) ev_neg1 (by rw [List.length_map, List.getElem?_map, hlast]; rfl) (by simp; omega)) (ev_list (evA_cons (ev_name l2 (s.old r2)) evA_nil)) fun h' a b _ p q => op_addLI p q (by simp; omega)) evA_nil) fun h' vs k' rs => bi_sorted rs (by simp; omega)) evA_nil)) fun h' a b _ p q => op_addL p q (by simp; omega))
end
end OpA
namespace OpA
variable [Base]
section
variable {prog : Program} {w : World} {A : Around} {B : Bad} {h : Heap} {env : Env} {mg mb : Str → Option Value}

theorem at_assignK {R : Flow → Heap → Prop} {h₁ hc : Heap} {m cm : Str → Option Value} {x : Str} {p pos : Pos} {value : Expr} {d : PyData} (a : At B env h h₁ m cm hc) (hl : env.kindOf x = some .local) (y : EvD prog w A (BF B env) (eval value env) hc d)
    (z : ∀ v h', At B env h h₁ (upd m x v) cm h' → Rep (BF B env) h' v d → KeepX (FB env) hc h' → R .next h') (hs : swapsWith value (some (.Name x p)) pos.line env = pure false := by rfl) : Blk prog w A (exec (.Assign [.Name x p] value pos) env) hc R :=
  blk_assign a.F a.live hl y (fun h₂ v h' k₂ p₂ F' kx => z v h' ((a.more k₂).turn F' kx) (rep_turn kx p₂) ((keepX_of k₂).tr kx)) hs
theorem at_assignCK {R : Flow → Heap → Prop} {h₁ hc : Heap} {m cm : Str → Option Value} {x : Str} {c : Addr} {p pos : Pos} {value : Expr} {d : PyData} (a : At B env h h₁ m cm hc) (hl : env.kindOf x = some .cell) (hcl : env.cells.lookup x = some c) (y : EvD prog w A (BF B env) (eval value env) hc d)
    (z : ∀ v h', At B env h h₁ m (upd cm x v) h' → Rep (BF B env) h' v d → KeepX (FB env) hc h' → R .next h') (hs : swapsWith value (some (.Name x p)) pos.line env = pure false := by rfl) : Blk prog w A (exec (.Assign [.Name x p] value pos) env) hc R :=
  blk_assignC a.F a.live hl hcl y (fun h₂ v h' k₂ p₂ F' kx => z v h' ((a.more k₂).turn F' kx) (rep_turn kx p₂) ((keepX_of k₂).tr kx)) hs

theorem comp_used {R : Flow → Heap → Prop} {h₁ hc : Heap} {m cm : Str → Option Value} {y : Str} {py spos : Pos} {e : Expr} {scope : Scope} {pos : Pos} {d : List PyData} {elt : Expr} {gens : List Comprehension} {g : Comprehension} {gs : List Comprehension} {cl : List (Str × Addr)} {iter : Expr}
    (he : e = .ListComp elt gens scope pos) (hg : gens = g :: gs) (hga : g.is_async = 0) (hgi : g.iter = iter)
    (a : At B env h h₁ m cm hc) (hl : env.kindOf y = some .local)
    (hclos : closureFor scope env = pure cl) (hkind : scope.kind = .function) (hnames : ∀ y ∈ scope.names, y.2 = .local → scope.names.lookup y.1 = some .local)
    (hs : ∀ x, foldedSetIterable iter env x = pure x)
    (hsw : swapsWith e (some (.Name y py)) spos.line env = pure true)
    (core : ∀ (s : Shared) (E : Value → Shared → Prop) (RR : Value → Addr → Result → Shared → Prop), s.heap = hc →
      (∀ acc C h' tk, CompDone (BF B env) hc d acc C h' → RR acc C (.ok .next) { s with heap := h', toks := tk }) →
      wpAny (model prog w) A (eval iter env) (fun x s₁ => wpAny (model prog w) A (pyIter x) (fun it s₂ => wpAny (model prog w) A (newList []) (fun acc s₃ => wpAny (model prog w) A (newFunctionEnv scope env.globals cl [] env.qual none .none (some env)) (fun cenv s₄ =>
        codeAny (model prog w) A (.compStart e 0 it acc { cenv with scope := relabel scope env }) (RR acc cenv.locals) s₄) E s₃) E s₂) E s₁) E s)
    (z : ∀ v h', At B env h h₁ (upd m y v) cm h' → Rep (BF B env) h' v (.list d) → KeepX (FB env) hc h' → R .next h') :
    Blk prog w A (exec (.Assign [.Name y py] e spos) env) hc R := by
  intro s Q E hse hq
  rw [exec_Assign_Name_used _ _ _ _ hsw]
  refine wpAny_bind (wpAny_standAt (wpAny_bind ?_))
  subst he hg
  have hev : evalThenUse (.ListComp elt (g :: gs) scope pos) env (assign (.Name y py) env) = (comprehension (.ListComp elt (g :: gs) scope pos) scope env (firstIterPos (g :: gs) pos) (newList []) false (firstIter (g :: gs) env) (some (assign (.Name y py) env)) >>= fun _ => pure ()) := by
    obtain ⟨t, it, ifs, as⟩ := g
    cases hga
    rfl
  rw [hev]
  refine wpAny_bind ?_
  refine wpAny_comprehension_free (use := some (assign (.Name y py) env)) (g := g) (gs := gs) rfl (by rw [hgi]; exact hs) hclos hkind hnames ?_
  have hfi : firstIter (g :: gs) env = eval iter env := by
    obtain ⟨t, it, ifs, as⟩ := g
    cases hgi
    rfl
  rw [hfi]
  refine core s E _ hse fun acc C h' tk dn => ?_
  show wpAny (model prog w) A (assign (.Name y py) env acc) _ E _
  refine wpAny_assign_Name (fm_store (a.F.keep dn.keep) hl fun h₂ tk₂ F₂ kx₂ => ?_)
  have hCF : ¬ FB env C := fun q => by obtain ⟨o, e⟩ := a.F.alive C q; exact nomatch dn.fresh.symm.trans e
  obtain ⟨mC, hnC⟩ := dn.ns
  refine ⟨mC, nsA hnC fun o e => kx₂ C o hCF e, fun h₃ hs₃ => wpAny_pure (wpAny_pure (hq _ h₃ tk₂ ?_))⟩
  have kx₃ : KeepX (fun b => b = C) h₂ h₃ := fun b o nb e => sbut hs₃ b o nb e
  have F₃ : Fm env (upd m y acc) cm h₃ := F₂.keepB fun b o hb e => kx₃ b o (fun q => hCF (q ▸ hb)) e
  have kall : KeepX (FB env) hc h₃ := fun b o nb e => kx₃ b o (fun q => by subst q; exact nomatch dn.fresh.symm.trans e) (kx₂ b o nb (dn.keep b o e))
  refine z acc h₃ (a.turn F₃ kall) ?_ kall
  exact dn.rep.lift fun b o nb e => ⟨fun q => nb (.inl q), kx₃ b o (fun q => nb (.inr q)) (kx₂ b o (fun q => nb (.inl (.inr q))) e)⟩

theorem at_assignCompL {α : Type} {R : Flow → Heap → Prop} {h₁ hc : Heap} {m cm : Str → Option Value} {y : Str} {py spos : Pos} {elt iter : Expr} {x : Str} {px : Pos} {ifs : List Expr} {scope : Scope} {cl : List (Str × Addr)} {pos : Pos} {xs : List α} (enc : α → PyData) (p : α → Bool) (f : α → PyData)
    (a : At B env h h₁ m cm hc) (hl : env.kindOf y = some .local)
    (hclos : closureFor scope env = pure cl) (hcell : ∀ y ∈ scope.names, y.2 ≠ .cell) (hkind : scope.kind = .function) (hnames : ∀ y ∈ scope.names, y.2 = .local → scope.names.lookup y.1 = some .local) (hx : scope.names.lookup x = some .local)
    (hit : Ev prog w A (BF B env) (eval iter env) hc (fun h' v => SrcV prog w A (BF B env) h' v (xs.map enc))) (hsz : xs.length ≤ 1000000)
    (body : ∀ a C u B' h', a ∈ xs → Keep hc h' → Ext (BF B env) hc B' h' → (∀ b, BF B env b → B' b) → LdN (compEnvC scope cl C env) x h' u → Rep B' h' u (enc a) →
      EvB prog w A B' (compIfs ifs (compEnvC scope cl C env)) h' (p a) ∧ (p a = true → EvD prog w A B' (eval elt (compEnvC scope cl C env)) h' (f a)))
    (z : ∀ v h', At B env h h₁ (upd m y v) cm h' → Rep (BF B env) h' v (.list ((xs.filter p).map f)) → KeepX (FB env) hc h' → R .next h')
    (hs : ∀ x, foldedSetIterable iter env x = pure x := by intro _; rfl)
    (hsw : swapsWith (.ListComp elt [⟨.Name x px, iter, ifs, 0⟩] scope pos) (some (.Name y py)) spos.line env = pure true := by rfl) :
    Blk prog w A (exec (.Assign [.Name y py] (.ListComp elt [⟨.Name x px, iter, ifs, 0⟩] scope pos) spos) env) hc R := by
  refine comp_used (d := (xs.filter p).map f) rfl rfl rfl rfl a hl hclos hkind hnames hs hsw (fun s E RR hse hRR => ?_) z
  subst hse
  refine hit s _ E Keep.rfl' a.live fun v h₁ tk₁ k₁ hsrc => ?_
  refine comp_blockL enc p f hcell hkind hx hsrc (a.live.keep k₁) hsz (fun a C u B' h' ha k kx kb l r => body a C u B' h' ha (k₁.tr k) (fun b o nb e => kx b o nb (k₁ _ _ e)) kb l r) fun acc C h' tk dn => ?_
  have hf : vg s.heap C = none := by
    cases e : vg s.heap C with
    | none => rfl
    | some o => exact nomatch dn.fresh.symm.trans (k₁ _ _ e)
  exact hRR acc C h' tk ⟨k₁.tr dn.keep, hf, dn.ns, dn.rep, dn.live⟩
theorem at_assignCompC {α : Type} {R : Flow → Heap → Prop} {h₁ hc : Heap} {m cm : Str → Option Value} {y : Str} {py spos : Pos} {elt iter : Expr} {x : Str} {px : Pos} {ifs : List Expr} {scope : Scope} {cl : List (Str × Addr)} {pos : Pos} {xs : List α} (enc : α → PyData) (p : α → Bool) (f : α → PyData)
    (a : At B env h h₁ m cm hc) (hl : env.kindOf y = some .local)
    (hclos : closureFor scope env = pure cl) (hc' : ∀ n, cellsFrom n scope.names cl = (x, n) :: cl) (hp : ∀ hp : Heap, pushCells hp scope.names = hp.push { cls := .type "cell", data := .cell none }) (hkind : scope.kind = .function) (hnames : ∀ y ∈ scope.names, y.2 = .local → scope.names.lookup y.1 = some .local) (hx : scope.names.lookup x = some .cell)
    (hit : Ev prog w A (BF B env) (eval iter env) hc (fun h' v => SrcV prog w A (BF B env) h' v (xs.map enc))) (hsz : xs.length ≤ 1000000)
    (body : ∀ a C c u B' h', a ∈ xs → Keep hc h' → Ext (BF B env) hc B' h' → (∀ b, BF B env b → B' b) → h'.IsCell c (some u) → Rep B' h' u (enc a) →
      EvB prog w A B' (compIfs ifs (compEnvC scope ((x, c) :: cl) C env)) h' (p a) ∧ (p a = true → EvD prog w A B' (eval elt (compEnvC scope ((x, c) :: cl) C env)) h' (f a)))
    (z : ∀ v h', At B env h h₁ (upd m y v) cm h' → Rep (BF B env) h' v (.list ((xs.filter p).map f)) → KeepX (FB env) hc h' → R .next h')
    (hs : ∀ x, foldedSetIterable iter env x = pure x := by intro _; rfl)
    (hsw : swapsWith (.ListComp elt [⟨.Name x px, iter, ifs, 0⟩] scope pos) (some (.Name y py)) spos.line env = pure true := by rfl) :
    Blk prog w A (exec (.Assign [.Name y py] (.ListComp elt [⟨.Name x px, iter, ifs, 0⟩] scope pos) spos) env) hc R := by
  refine comp_used (d := (xs.filter p).map f) rfl rfl rfl rfl a hl hclos hkind hnames hs hsw (fun s E RR hse hRR => ?_) z
  subst hse
  refine hit s _ E Keep.rfl' a.live fun v h₁ tk₁ k₁ hsrc => ?_
  refine comp_blockC enc p f hc' hp hkind hx hsrc (a.live.keep k₁) hsz (fun a C c u B' h' ha k kx kb l r => body a C c u B' h' ha (k₁.tr k) (fun b o nb e => kx b o nb (k₁ _ _ e)) kb l r) fun acc C h' tk dn => ?_
  have hf : vg s.heap C = none := by
    cases e : vg s.heap C with
    | none => rfl
    | some o => exact nomatch dn.fresh.symm.trans (k₁ _ _ e)
  exact hRR acc C h' tk ⟨k₁.tr dn.keep, hf, dn.ns, dn.rep, dn.live⟩
end
end OpA
namespace OpA
variable [Base]
section
variable {prog : Program} {w : World} {A : Around} {B : Bad} {h : Heap} {env : Env} {mg mb : Str → Option Value}

theorem eqv_ints : ∀ ns ms : List Int, PyData.eqvAll (ns.map PyData.int) (ms.map PyData.int) = decide (ns = ms) := ked_eqvAll
theorem canLay_ints : ∀ ns : List Int, PyData.canLayAll0 (ns.map PyData.int) = true
  | [] => rfl
  | n :: ns => by simp only [List.map_cons, PyData.canLayAll0, PyData.canLay0, canLay_ints ns, Bool.and_self]
theorem depth_ints : ∀ ns : List Int, PyData.depthAll (ns.map PyData.int) ≤ 1
  | [] => by simp [PyData.depthAll]
  | n :: ns => by
    have := depth_ints ns
    simp only [List.map_cons, PyData.depthAll, PyData.depth]
    omega
theorem shaped_ints (ns : List Int) : PySem.SeqAt.shaped (dL ns) = true := by
  have := depth_ints ns
  have h2 : PyData.depth (dL ns) ≤ 64 := by show PyData.depthAll (ns.map PyData.int) + 1 ≤ 64; omega
  have h3 : PyData.canLay0 (dL ns) = true := canLay_ints ns
  unfold PySem.SeqAt.shaped
  rw [h3, decide_eq_true h2]; rfl

def byTurns (marks : List Int) : Bool :=
  let kept := marks.filter (· != 0)
  decide (kept.length % 2 = 1) && decide (kept = (List.range kept.length).map fun (k : Nat) => 1 - 2 * ((k : Int) % 2))

theorem EvD.cast {t : Sem Value} {d d' : PyData} (x : EvD prog w A B t h d) (e : d = d') : EvD prog w A B t h d' := e ▸ x

theorem by_turns {a : Addr} {v : Value} {ns : List Int} (hB : Live B h) (G : Gx mg mb h) (f : FnAt h 13 .none a) (hh : A.handled = none) (hroom : A.depth < recursionLimit) (hu : A.units + 100 < cLine) (r : Rep B h v (dL ns)) (h1 : ns.length < 64) :
    EvD prog w A B (call (.ref a) [v]) h (.bool (byTurns ns)) := by
  refine call_fn (binds := [(Str.ofString "marks", v)]) hB G f hroom (fun _ _ _ _ _ => BindsTo.of_eq rfl) (fun n => one_local rfl) (fun pm cd doc L h₁ s => ?_)
  conv in (bodyOf _) => whnf
  have l1 : LdN (fEnv 13 .none pm cd doc L a) (Str.ofString "marks") h₁ v := s.F.ld rfl rfl
  refine blk_cons (at_assignCompL (cl := []) (xs := ns) PyData.int (· != 0) PyData.int s rfl rfl (by decide) rfl (by decide) rfl (ev_srcL hh (ev_name l1 (s.old r))) (by omega) (fun x C u B' h' hx k kx kb l rx => ⟨evIfs_one (evB_cmp (ev_name l rx) ev_const_int fun h' a b _ p q => op_ne p q), fun _ => ev_name l rx⟩) fun v₂ h₂ s₂ r₂ up => ?_)
  have l2 : LdN (fEnv 13 .none pm cd doc L a) (Str.ofString "kept") h₂ v₂ := s₂.F.ld rfl rfl
  have hlen : (ns.filter (· != 0)).length ≤ ns.length := List.length_filter_le _ _
  generalize hkept : ns.filter (· != 0) = kept at *
  have G₂ := G.keep s₂.K
  have e1 : byTurns ns = (((kept.length : Int).fmod 2 == 1) && decide (kept = (List.range kept.length).map fun (k : Nat) => 1 - 2 * ((k : Int).fmod 2))) := by
    unfold byTurns
    simp only [hkept]
    congr 1
    · rw [Int.fmod_eq_emod_of_nonneg _ (by decide)]
      by_cases hq : kept.length % 2 = 1
      · have : (kept.length : Int) % 2 = 1 := by omega
        simp [hq, this]
      · have : ¬ (kept.length : Int) % 2 = 1 := by omega
        simp [hq, this]
    · simp only [Int.fmod_eq_emod_of_nonneg _ (show (0 : Int) ≤ 2 by decide)]
  rw [e1]
  refine at_ret1 s₂ (ev_and2 (ev_cmp (ev_bin (ev_callB (G₂.bin G₂.bLen rfl rfl rfl rfl) (evA_cons (ev_name l2 r₂) evA_nil) fun h' vs k' rs => bi_len rs (by simp; omega)) ev_const_int fun h' a b _ p q => op_mod p q (by decide)) ev_const_int fun h' a b _ p q => ?_) fun _ => ev_cmp (ev_name l2 r₂) (ev_compL (cl := []) (xs := List.range kept.length) (fun (i : Nat) => .int (0 + (i : Int))) (fun _ => true) (fun (i : Nat) => .int (1 - 2 * ((i : Int).fmod 2))) rfl (by decide) rfl (by decide) rfl (ev_srcR hh (ev_callT (G₂.bin G₂.bRange rfl rfl rfl rfl) (evA_cons (ev_callB (G₂.bin G₂.bLen rfl rfl rfl rfl) (evA_cons (ev_name l2 r₂) evA_nil) fun h' vs k' rs => bi_len rs (by simp; omega)) evA_nil) fun h' vs k' rs => ?_)) (by simp; omega) fun x C u B' h' hx k kx kb l rx => ⟨evIfs_nil, fun _ => ev_bin ev_const_int (ev_bin ev_const_int (ev_bin (ev_name l rx) ev_const_int fun h' a b _ p q => op_mod p q (by decide)) fun h' a b _ p q => op_mul p q (IntMulOk.of_left (by decide))) fun h' a b _ p q => ?_⟩) fun h' a b _ p q => ?_)
  · exact (op_eq p q).cast (by simp)
  · refine (ty_range1 rs (by omega) (by simp; omega)).mono fun h' v _ p => ?_
    simpa using p
  · exact (op_sub p q).cast (by simp)
  · have e2 : (List.filter (fun _ => true) (List.range kept.length)).map (fun (i : Nat) => PyData.int (1 - 2 * ((i : Int).fmod 2))) = ((List.range kept.length).map fun (k : Nat) => (1 - 2 * ((k : Int).fmod 2))).map PyData.int := by
      rw [List.filter_eq_self.mpr (fun _ _ => rfl), List.map_map]; rfl
    rw [e2] at q
    exact (op_eqD p q (shaped_ints _) (shaped_ints _) (by show A.units + 3 + 64 < cLine; omega)).cast (congrArg PyData.bool (eqv_ints _ _))
end
end OpA
namespace OpA
variable [Base]
section
variable {prog : Program} {w : World} {A : Around} {B : Bad} {h : Heap} {env : Env} {mg mb : Str → Option Value}

def reached (ns : List Int) (more : Int) : Int :=
  (((List.range 4).filter fun (i : Nat) => decide ((ns.length : Int) + more ≤ 2 * ((ns.filter fun x => decide (1 + (i : Int) ≤ x)).length : Int))).length : Int)

theorem two_cell {nm : List (Str × NameKind)} {x x' : Str} {v v' : Value} {n : Nat} (h : nm.lookup x = some .cell) (h' : nm.lookup x' = some .cell) (hc : ((cellsFrom n nm []).lookup x).isSome = true) (hc' : ((cellsFrom n nm []).lookup x').isSome = true) :
    ∀ y ∈ [(x, v), (x', v')], nm.lookup y.1 = some .local ∨ (nm.lookup y.1 = some .cell ∧ ((cellsFrom n nm []).lookup y.1).isSome = true) := fun y hy => by
  rcases List.mem_cons.mp hy with rfl | hy
  · exact .inr ⟨h, hc⟩
  · cases List.mem_singleton.mp hy; exact .inr ⟨h', hc'⟩

theorem law_reached {a : Addr} {v1 v2 : Value} {ns : List Int} {more : Int} (hB : Live B h) (G : Gx mg mb h) (f : FnAt h 14 .none a) (hh : A.handled = none) (hroom : A.depth < recursionLimit) (r1 : Rep B h v1 (dL ns)) (r2 : Rep B h v2 (.int more)) (h1 : ns.length < 64) :
    EvD prog w A B (call (.ref a) [v1, v2]) h (.int (reached ns more)) := by
  refine call_fn (binds := [(Str.ofString "cell", v1), (Str.ofString "more", v2)]) hB G f hroom (fun _ _ _ _ _ => BindsTo.of_eq rfl) (fun n => two_cell rfl rfl rfl rfl) (fun pm cd doc L h₁ s => ?_)
  conv in (bodyOf _) => whnf
  have c1 : h₁.IsCell (L + 1) (some v1) := s.F.cell (Str.ofString "cell") (L + 1) rfl
  have c2 : h₁.IsCell (L + 2) (some v2) := s.F.cell (Str.ofString "more") (L + 2) rfl
  have G₁ := G.keep s.K
  have q1 := s.old r1
  have q2 := s.old r2
  refine at_ret1 s (ev_callB (G₁.bin G₁.bLen rfl rfl rfl rfl) (evA_cons (ev_compC (cl := [(Str.ofString "more", L + 2), (Str.ofString "cell", L + 1)]) (xs := List.range 4) (fun (i : Nat) => .int (1 + (i : Int))) (fun (i : Nat) => decide ((ns.length : Int) + more ≤ 2 * ((ns.filter fun x => decide (1 + (i : Int) ≤ x)).length : Int))) (fun (i : Nat) => .int (1 + (i : Int)))
    rfl (fun _ => rfl) (fun _ => rfl) rfl (by decide) rfl (ev_srcR hh (ev_callT (G₁.bin G₁.bRange rfl rfl rfl rfl) (evA_cons ev_const_int (evA_cons ev_const_int evA_nil)) fun h' vs k' rs => ty_range2 rs (by decide) (by decide) (by decide))) (by simp) fun i C c u B' h' hx k kx kb hc rx => ?_) evA_nil) fun h' vs k' rs => (bi_len rs (Nat.le_trans (by rw [List.length_map]; exact List.length_filter_le _ _) (by simp))).cast (by simp [reached]))
  have G' := G₁.keep k
  have p1 := q1.lift kx
  have p2 := q2.lift kx
  refine ⟨evIfs_one (evB_cmp (ev_bin ev_const_int (ev_callB (G'.bin G'.bLen rfl rfl rfl rfl) (evA_cons (ev_compL (cl := [(Str.ofString "s", c)]) (xs := ns) PyData.int (fun x => decide (1 + (i : Int) ≤ x)) PyData.int rfl (by decide) rfl (by decide) rfl (ev_srcL hh (ev_name (ldn_cell rfl rfl rfl (cellK c1 k)) p1)) (by omega) fun x C2 u2 B2 h2 hx2 k2 kx2 kb2 l2 rx2 => ?_) evA_nil) fun h' vs k' rs => bi_len rs (Nat.le_trans (by rw [List.length_map]; exact List.length_filter_le _ _) (by omega))) fun h' a b _ p q => op_mul p q (IntMulOk.of_left (by decide))) (ev_bin (ev_callB (G'.bin G'.bLen rfl rfl rfl rfl) (evA_cons (ev_name (ldn_cell rfl rfl rfl (cellK c1 k)) p1) evA_nil) fun h' vs k' rs => bi_len rs (by simp; omega)) (ev_name (ldn_cell rfl rfl rfl (cellK c2 k)) p2) fun h' a b _ p q => op_add p q) fun h' a b _ p q => (op_ge p q).cast (by simp)), fun _ => ev_name (ldn_cell rfl rfl rfl hc) rx⟩
  exact ⟨evIfs_one (evB_cmp (ev_name l2 rx2) (ev_name (ldn_cell rfl rfl rfl (cellK hc k2)) (rx.lift kx2)) fun h' a b _ p q => op_ge p q), fun _ => ev_name l2 rx2⟩
end
end OpA
namespace OpA
variable [Base]
section
variable {prog : Program} {w : World} {A : Around} {B : Bad} {h : Heap} {env : Env} {mg mb : Str → Option Value}

abbrev plus (B : Bad) (I : Addr) : Bad := fun b => B b ∨ b = I
theorem At.withI {h₁ hc h₂ : Heap} {m cm : Str → Option Value} {I : Addr} (a : At B env h h₁ m cm hc) (k : Keep hc h₂) (hI : ∃ o, vg h₂ I = some o) : At (plus B I) env h h₁ m cm h₂ :=
  ⟨a.F.keep k, a.K.tr k, a.X.tr (keepX_of k), fun b hb => by
    rcases hb with (q | rfl) | q
    · exact (a.live.keep k) b (.inl q)
    · exact hI
    · exact (a.live.keep k) b (.inr q), a.fresh, a.above⟩
theorem At.off {h₁ hc h₂ : Heap} {m cm : Str → Option Value} {I : Addr} (a : At B env h h₁ m cm hc) (hF : ¬ FB env I) (hh : vg h I = none) (hh1 : vg h₁ I = none) (k : KeepX (fun b => b = I) hc h₂) (hl : ∃ o, vg h₂ I = some o) : At B env h h₁ m cm h₂ :=
  ⟨a.F.keepB fun b o hb e => k b o (fun q => hF (q ▸ hb)) e, fun b o e => k b o (fun q => by subst q; exact nomatch hh.symm.trans e) (a.K b o e), fun b o nb e => k b o (fun q => by subst q; exact nomatch hh1.symm.trans e) (a.X b o nb e),
    fun b hb => by
      by_cases hbi : b = I
      · subst hbi; exact hl
      · obtain ⟨o, e⟩ := a.live b hb; exact ⟨o, k b o hbi e⟩, a.fresh, a.above⟩
theorem At.offB {h₁ hc h₂ : Heap} {m cm : Str → Option Value} {I : Addr} (a : At B env h h₁ m cm hc) (hF : ¬ BF B env I) (hh : vg h I = none) (hh1 : vg h₁ I = none) (k : KeepX (fun b => b = I) hc h₂) : At B env h h₁ m cm h₂ :=
  ⟨a.F.keepB fun b o hb e => k b o (fun q => hF (q ▸ .inr hb)) e, fun b o e => k b o (fun q => by subst q; exact nomatch hh.symm.trans e) (a.K b o e), fun b o nb e => k b o (fun q => by subst q; exact nomatch hh1.symm.trans e) (a.X b o nb e),
    fun b hb => by
      obtain ⟨o, e⟩ := a.live b hb; exact ⟨o, k b o (fun q => hF (q ▸ hb)) e⟩, a.fresh, a.above⟩
theorem At.back {h₁ hc : Heap} {m cm : Str → Option Value} {I : Addr} (a : At (plus B I) env h h₁ m cm hc) : At B env h h₁ m cm hc :=
  ⟨a.F, a.K, a.X, fun b hb => a.live b (hb.elim (fun q => .inl (.inl q)) .inr), a.fresh, a.above⟩

theorem At.h1 {h₁ hc : Heap} {m cm : Str → Option Value} (a : At B env h h₁ m cm hc) : Live (fun b => ∃ o, vg h₁ b = some o) hc := fun b ⟨o, e⟩ => by
  by_cases hf : FB env b
  · exact a.F.alive b hf
  · exact ⟨o, a.X b o hf e⟩

theorem for_core {α : Type} {s : Shared} {RR : Result → Shared → Prop} {R : Flow → Heap → Prop} {h₁ h₂ hs : Heap} {tk₂ : Nat} {m cm : Str → Option Value} {x : Str} {px : Pos} {body : List Stmt} {xs : List α} (enc : α → PyData) {I : Addr} {fp : List Addr} {PP : Nat → Value → Prop} {St : Nat → Heap → Prop}
    (um uc : (Str → Option Value) → Value → (Str → Option Value)) (X : Bad) (P : Addr → Nat → (Str → Option Value) → (Str → Option Value) → Heap → Prop)
    (a₂ : At (plus B I) env h h₁ m cm hs) (W' : Walks prog w A I fp [I] xs.length PP St) (hst : St 0 hs) (hIo : ∀ i hp, St i hp → ∃ o, vg hp I = some o) (hSD : ∀ i hp, St i hp → ∀ b ∈ fp, ∀ o, hp.get? b = some o → NoD o)
    (hIF : ¬ FB env I) (hIX : ¬ X I) (hIB : ¬ BF B env I) (hIh : vg h I = none) (hIh1 : vg h₁ I = none) (hfX : ∀ b ∈ fp, ¬ X b)
    (hX : ∀ b, X b → BF B env b) (hFX : ∀ b, FB env b → X b) (hks : KeepX (fun b => X b ∨ b = I) h₂ hs)
    (hel : ∀ i u e hcur, PP i u → xs[i]? = some e → KeepX (fun b => X b ∨ b = I) h₂ hcur → Rep (BF (plus B I) env) hcur u (enc e))
    (hstore : ∀ (s : Shared) (m cm : Str → Option Value) (v : Value) (Q : Unit → Shared → Prop) (E : Value → Shared → Prop), Fm env m cm s.heap →
      (∀ h' tk, Fm env (um m v) (uc cm v) h' → KeepX (FB env) s.heap h' → Q () { s with heap := h', toks := tk }) → wpAny (model prog w) A (storeName env x v) Q E s)
    (stab : ∀ I i m cm h' h'', P I i m cm h' → KeepX (fun b => b = I ∨ FB env b) h' h'' → P I i m cm h'')
    (start : P I 0 m cm hs)
    (turn : ∀ i e v m cm h', xs[i]? = some e → At (plus B I) env h h₁ (um m v) (uc cm v) h' → P I i m cm h' → Rep (BF (plus B I) env) h' v (enc e) →
      Blk prog w A (execs body env) h' (fun fl h'' => match fl with
        | .next | .cont => KeepX X h' h'' ∧ ∃ m' cm', At (plus B I) env h h₁ m' cm' h'' ∧ P I (i + 1) m' cm' h''
        | .brk => False
        | .ret v => R (.ret v) h''))
    (fin : ∀ m' cm' h', At B env h h₁ m' cm' h' → P I xs.length m' cm' h' → R .next h')
    (hq : ∀ fl h' tk, R fl h' → RR (.ok fl) { s with heap := h', toks := tk }) :
    codeAny (model prog w) A (.forLoop (.Name x px) (.ref I) body [] env) RR { s with heap := hs, toks := tk₂ } := by
  refine codeAny_forLoop (fun k s' => ∃ h' tk i m' cm', s' = { s with heap := h', toks := tk } ∧ i ≤ xs.length ∧ k = xs.length + 1 - i ∧ St i h' ∧ At (plus B I) env h h₁ m' cm' h' ∧ P I i m' cm' h' ∧
      KeepX (fun b => X b ∨ b = I) h₂ h') ?_ (xs.length + 1)
    ⟨hs, tk₂, 0, m, cm, rfl, Nat.zero_le _, rfl, hst, a₂, start, hks⟩
  rintro k s' ⟨h', tk, i, m', cm', rfl, hi, rfl, hst', a', hP', kx'⟩
  by_cases hlt : i < xs.length
  · have ha : xs[i]? = some xs[i] := List.getElem?_eq_getElem hlt
    refine W'.item i _ _ _ hlt hst' fun v h₃ tk₃ hPv hst₃ hk₃ => ?_
    have k₃ : KeepX (fun b => b = I) h' h₃ := fun b o nb e => vg_pt (fun o e => hk₃ b o (by simpa using nb) e) e
    have a₃ := a'.off hIF hIh hIh1 k₃ (hIo _ _ hst₃)
    have hP₃ := stab _ _ _ _ _ _ hP' (fun b o nb e => k₃ b o (fun q => nb (.inl q)) e)
    refine wpAny_assign_Name (hstore _ m' cm' v _ _ a₃.F fun h₄ tk₄ F₄ k₄ => ?_)
    have a₄ := a₃.turn F₄ k₄
    have hP₄ := stab _ _ _ _ _ _ hP₃ (fun b o nb e => k₄ b o (fun q => nb (.inr q)) e)
    have hrv : Rep (BF (plus B I) env) h₄ v (enc xs[i]) := hel i v xs[i] h₄ hPv ha fun b o nb e => k₄ b o (fun q => nb (.inl (hFX b q))) (k₃ b o (fun q => nb (.inr q)) (kx' b o nb e))
    refine turn i xs[i] v m' cm' h₄ ha a₄ hP₄ hrv _ _ _ rfl fun fl h₅ tk₅ r => ?_
    have hnext : (KeepX X h₄ h₅ ∧ ∃ m' cm', At (plus B I) env h h₁ m' cm' h₅ ∧ P I (i + 1) m' cm' h₅) → ∃ k', k' < xs.length + 1 - i ∧ ∃ h' tk j m' cm', ({ s with heap := h₅, toks := tk₅ } : Shared) = { s with heap := h', toks := tk } ∧ j ≤ xs.length ∧ k' = xs.length + 1 - j ∧ St j h' ∧ At (plus B I) env h h₁ m' cm' h' ∧ P I j m' cm' h' ∧
        KeepX (fun b => X b ∨ b = I) h₂ h' := by
      rintro ⟨k₅, m₅, cm₅, a₅, hP₅⟩
      refine ⟨xs.length + 1 - (i + 1), by omega, h₅, tk₅, i + 1, m₅, cm₅, rfl, hlt, rfl, ?_, a₅, hP₅, ?_⟩
      · refine wframe W' hSD hst₃ fun b hb o e => k₅ b o (hfX b hb) (k₄ b o (fun q => hfX b hb (hFX b q)) e)
      · exact fun b o nb e => k₅ b o (fun q => nb (.inl q)) (k₄ b o (fun q => nb (.inl (hFX b q))) (k₃ b o (fun q => nb (.inr q)) (kx' b o nb e)))
    cases fl with
    | next => exact hnext r
    | cont => exact hnext r
    | brk => exact r.elim
    | ret v => exact hq _ h₅ tk₅ r
  · have hin : i = xs.length := by omega
    subst hin
    refine W'.done _ _ _ hst' fun h₃ tk₃ hk₃ => ?_
    have k₃ : KeepX (fun b => b = I) h' h₃ := fun b o nb e => vg_pt (fun o e => hk₃ b o (by simpa using nb) e) e
    exact wpAny_execs_nil (hq _ h₃ tk₃ (fin m' cm' h₃ (a'.back.offB hIB hIh hIh1 k₃) (stab _ _ _ _ _ _ hP' fun b o nb e => k₃ b o (fun q => nb (.inl q)) e)))

theorem at_for {α : Type} {R : Flow → Heap → Prop} {h₁ hc : Heap} {m cm : Str → Option Value} {x : Str} {px pos : Pos} {iter : Expr} {body : List Stmt} {xs : List α} (enc : α → PyData)
    (um uc : (Str → Option Value) → Value → (Str → Option Value)) (X : Bad) (P : Addr → Nat → (Str → Option Value) → (Str → Option Value) → Heap → Prop)
    (a : At B env h h₁ m cm hc)
    (hX : ∀ b, X b → BF B env b) (hFX : ∀ b, FB env b → X b)
    (hstore : ∀ (s : Shared) (m cm : Str → Option Value) (v : Value) (Q : Unit → Shared → Prop) (E : Value → Shared → Prop), Fm env m cm s.heap →
      (∀ h' tk, Fm env (um m v) (uc cm v) h' → KeepX (FB env) s.heap h' → Q () { s with heap := h', toks := tk }) → wpAny (model prog w) A (storeName env x v) Q E s)
    (hit : Ev prog w A (BF B env) (eval iter env) hc (fun h' v => SrcV prog w A (BF B env) h' v (xs.map enc)))
    (stab : ∀ I i m cm h' h'', P I i m cm h' → KeepX (fun b => b = I ∨ FB env b) h' h'' → P I i m cm h'')
    (start : ∀ I h₂, vg hc I = none → Keep hc h₂ → At (plus B I) env h h₁ m cm h₂ → P I 0 m cm h₂)
    (turn : ∀ I i e v m cm h', xs[i]? = some e → ¬ X I → At (plus B I) env h h₁ (um m v) (uc cm v) h' → P I i m cm h' → Rep (BF (plus B I) env) h' v (enc e) →
      Blk prog w A (execs body env) h' (fun fl h'' => match fl with
        | .next | .cont => KeepX X h' h'' ∧ ∃ m' cm', At (plus B I) env h h₁ m' cm' h'' ∧ P I (i + 1) m' cm' h''
        | .brk => False
        | .ret v => R (.ret v) h''))
    (fin : ∀ I m' cm' h', At B env h h₁ m' cm' h' → P I xs.length m' cm' h' → R .next h')
    (hs : ∀ x, foldedSetIterable iter env x = pure x := by intro _; rfl) :
    Blk prog w A (exec (.For (.Name x px) iter body [] pos) env) hc R := by
  intro s Q E hse hq
  subst hse
  have hh1 := a.h1
  refine wpAny_For (hit s _ E Keep.rfl' a.live fun v h₂ tk₂ k₂ hsrc => ?_) hs
  refine hsrc _ _ E Keep.rfl' fun fp PP St oI W hst hfr hfp hfB hIo hSD hel => ?_
  dsimp only
  have hIn : vg h₂ h₂.objs.size = none := vg_ge (Nat.le_refl _)
  have hI0 : vg s.heap h₂.objs.size = none := by
    cases e : vg s.heap h₂.objs.size with
    | none => rfl
    | some o => exact nomatch hIn.symm.trans (k₂ _ _ e)
  have hIF : ¬ FB env h₂.objs.size := fun q => by obtain ⟨o, e⟩ := a.F.alive _ q; exact nomatch hI0.symm.trans e
  have hIX : ¬ X h₂.objs.size := fun q => by obtain ⟨o, e⟩ := a.live _ (hX _ q); exact nomatch hI0.symm.trans e
  have hIB : ¬ BF B env h₂.objs.size := fun q => by obtain ⟨o, e⟩ := a.live _ q; exact nomatch hI0.symm.trans e
  have hIh1 : vg h₁ h₂.objs.size = none := by
    cases e : vg h₁ h₂.objs.size with
    | none => rfl
    | some o => obtain ⟨o', e'⟩ := hh1 _ ⟨o, e⟩; exact nomatch hI0.symm.trans e'
  have hIh : vg h h₂.objs.size = none := by
    cases e : vg h h₂.objs.size with
    | none => rfl
    | some o => exact nomatch hI0.symm.trans (a.K _ _ e)
  have W' : Walks prog w A h₂.objs.size fp [h₂.objs.size] xs.length PP St := by rw [List.length_map] at W; exact W
  have hfX : ∀ b ∈ fp, ¬ X b := fun b hb q => by
    by_cases hbi : b = h₂.objs.size
    · subst hbi; exact hIX q
    · exact hfB b hb hbi (hX b q)
  have a₂ : At (plus B h₂.objs.size) env h h₁ m cm (h₂.push oI) := a.withI (k₂.tr (Keep.push _)) ⟨_, (vg_some (Heap.get?_push_size _ hfr)).choose_spec.1⟩
  refine for_core (h₂ := h₂) enc um uc X P a₂ W' hst hIo hSD hIF hIX hIB hIh hIh1 hfX hX hFX (keepX_of (Keep.push _)) (fun i u e hcur hu he kx => ?_) hstore stab (start _ _ hI0 (k₂.tr (Keep.push _)) a₂)
    (fun i e v m cm h' he => turn _ i e v m cm h' he hIX) (fun m' cm' h' => fin _ m' cm' h') hq
  refine (hel i u (enc e) hu (by rw [List.getElem?_map, he]; rfl)).lift fun b o nb e => ?_
  have hbI : b ≠ h₂.objs.size := fun q => by subst q; exact nomatch hIn.symm.trans e
  refine ⟨fun q => ?_, kx b o (fun q => ?_) e⟩
  · rcases q with (q | q) | q
    · exact nb (.inl q)
    · exact hbI q
    · exact nb (.inr q)
  · rcases q with q | q
    · exact nb (hX b q)
    · exact hbI q
end
end OpA
namespace OpA
variable [Base]
section
variable {prog : Program} {w : World} {A : Around} {B : Bad} {h : Heap} {env : Env} {mg mb : Str → Option Value}

theorem mth1 {s : Shared} {Q E : Value → Shared → Prop} {x name : Str} {e : Expr} {p apos pos : Pos} {l : Addr} {vs : List Value} {n : Nat} {id : String} (hx : LdN env x s.heap (.ref l)) (hl : vg s.heap l = some (lstObj vs n))
    (slot : Slot "list" name id) (hty : typeOf (.builtin id) = pure (.type "method_descriptor"))
    (h : wpAny (model prog w) A (callWith pos (.builtin id) [.ref l] [(false, eval e env)] []) Q E s)
    (hd : (x == ("__debug__" : Str)) = false := by decide)
    (hbase : attributeBase (.Name x p) name env (eval (.Name x p) env) = eval (.Name x p) env := by rfl) (hs : starEach [e] env = [(false, eval e env)] := by rfl) (hline : (apos.endLine == pos.line) = true := by rfl) :
    wpAny (model prog w) A (eval (.Call (.Attribute (.Name x p) name apos) [e] [] pos) env) Q E s :=
  Call_method1 hbase hs hline (wpAny_Name (hx _ _ s _ E Keep.rfl' ⟨"list", id, F.plainAttrs_list, slot, hty, ⟨_, gl hl, rfl⟩, fun a ha => by cases ha; exact ⟨_, gl hl, rfl⟩, h⟩) hd)

theorem wp_append {s : Shared} {Q E : Value → Shared → Prop} {x : Str} {e : Expr} {p apos pos : Pos} {l : Addr} {vs : List Value} {n : Nat} (hx : LdN env x s.heap (.ref l)) (hl : vg s.heap l = some (lstObj vs n))
    (h : wpAny (model prog w) A (eval e env) (fun v s₁ => ∃ vs n, vs.length ≤ 1000000 ∧ vg s₁.heap l = some (lstObj vs n) ∧ ∀ h' n', vg h' l = some (lstObj (vs ++ [v]) n') → KeepX (fun b => b = l) s₁.heap h' → Q .none { s₁ with heap := h' }) E s)
    (hd : (x == ("__debug__" : Str)) = false := by decide)
    (hbase : attributeBase (.Name x p) (Str.ofString "append") env (eval (.Name x p) env) = eval (.Name x p) env := by rfl) (hs : starEach [e] env = [(false, eval e env)] := by rfl) (hline : (apos.endLine == pos.line) = true := by rfl) :
    wpAny (model prog w) A (eval (.Call (.Attribute (.Name x p) (Str.ofString "append") apos) [e] [] pos) env) Q E s := by
  refine mth1 hx hl F.slot_list_append F.type_list_append (PySem.P.append_list (wpAny_mono h (fun v s₁ h₁ => ?_) fun _ _ e => e)) hd hbase hs hline
  obtain ⟨vs, n, hn, e, hq⟩ := h₁
  refine ⟨vs.toArray, n, by simpa using sizeLine_big hn, gl e, ?_⟩
  have u := IsL.update (gl e) (fun xs => xs.push v)
  refine hq _ _ (lg (by rw [u]; simp; rfl)) fun b o nb e => sbut (Heap.SameBut.update ..) b o nb e
theorem wp_pop {s : Shared} {Q E : Value → Shared → Prop} {x : Str} {e : Expr} {p apos pos : Pos} {l : Addr} {vs : List Value} {n : Nat} (hx : LdN env x s.heap (.ref l)) (hl : vg s.heap l = some (lstObj vs n))
    (h : wpAny (model prog w) A (eval e env) (fun v s₁ => ∃ vs n i t y, v = .int i t ∧ 0 ≤ i ∧ vs.length ≤ 1000000 ∧ vs[i.toNat]? = some y ∧ vg s₁.heap l = some (lstObj vs n) ∧ ∀ h' n', vg h' l = some (lstObj (vs.eraseIdx i.toNat) n') → KeepX (fun b => b = l) s₁.heap h' → Q y { s₁ with heap := h' }) E s)
    (hd : (x == ("__debug__" : Str)) = false := by decide)
    (hbase : attributeBase (.Name x p) (Str.ofString "pop") env (eval (.Name x p) env) = eval (.Name x p) env := by rfl) (hs : starEach [e] env = [(false, eval e env)] := by rfl) (hline : (apos.endLine == pos.line) = true := by rfl) :
    wpAny (model prog w) A (eval (.Call (.Attribute (.Name x p) (Str.ofString "pop") apos) [e] [] pos) env) Q E s := by
  refine mth1 hx hl F.slot_list_pop F.type_list_pop (PySem.P.pop_at_list (wpAny_mono h (fun v s₁ h₁ => ?_) fun _ _ e => e)) hd hbase hs hline
  obtain ⟨vs, n, i, t, y, rfl, hi, hn, hy, e, hq⟩ := h₁
  have hlt : i.toNat < vs.length := (List.getElem?_eq_some_iff.mp hy).1
  refine ⟨vs.toArray, n, i, t, i.toNat, y, by simpa using sizeLine_big hn, rfl, gl e, fitsIndex_of hi (by omega), seqIndex_of hi (by simp; omega), by simpa using hy, ?_⟩
  have u := IsL.update (gl e) (fun xs => xs.eraseIdxIfInBounds i.toNat)
  refine hq _ _ (lg (by rw [u]; simp; rfl)) fun b o nb e => sbut (Heap.SameBut.update ..) b o nb e
theorem wp_extend {s : Shared} {Q E : Value → Shared → Prop} {x : Str} {e : Expr} {p apos pos : Pos} {l : Addr} {vs : List Value} {n : Nat} (hx : LdN env x s.heap (.ref l)) (hl : vg s.heap l = some (lstObj vs n))
    (h : wpAny (model prog w) A (eval e env) (fun v s₁ => ∃ b vs ws n n2, v = .ref b ∧ vs.length + ws.length ≤ 1000 ∧ vg s₁.heap l = some (lstObj vs n) ∧ vg s₁.heap b = some (lstObj ws n2) ∧ ∀ h' n', vg h' l = some (lstObj (vs ++ ws) n') → KeepX (fun b => b = l) s₁.heap h' → Q .none { s₁ with heap := h' }) E s)
    (hd : (x == ("__debug__" : Str)) = false := by decide)
    (hbase : attributeBase (.Name x p) (Str.ofString "extend") env (eval (.Name x p) env) = eval (.Name x p) env := by rfl) (hs : starEach [e] env = [(false, eval e env)] := by rfl) (hline : (apos.endLine == pos.line) = true := by rfl) :
    wpAny (model prog w) A (eval (.Call (.Attribute (.Name x p) (Str.ofString "extend") apos) [e] [] pos) env) Q E s := by
  refine mth1 hx hl F.slot_list_extend F.type_list_extend (PySem.P.extend_list (wpAny_mono h (fun v s₁ h₁ => ?_) fun _ _ e => e)) hd hbase hs hline
  obtain ⟨b, vs, ws, n, n2, rfl, hn, e, e2, hq⟩ := h₁
  have h1 : vs.length + ws.length ≤ sizeLine := sizeLine_big (by omega)
  refine ⟨b, vs.toArray, ws.toArray, n, n2, by simp only [List.size_toArray]; omega, by simp only [List.size_toArray]; omega, ?_, rfl, gl e, gl e2, ?_⟩
  · simp [Builtin.List.listTooLong]; intro _; omega
  · have u := IsL.update (gl e) (fun xs => xs ++ ws.toArray)
    refine hq _ _ (lg (by rw [u]; simp; rfl)) fun b o nb e => sbut (Heap.SameBut.update ..) b o nb e
end
end OpA
namespace OpA
variable [Base]

theorem none_some {α : Type} {a : Option α} {x : α} (h1 : a = none) (h2 : a = some x) : False := by rw [h1] at h2; cases h2

structure Arr where
  left : List Int
  order : List Int
  x : Int
def arrStep (s : Arr) (size : Int) : Arr := ⟨s.left.eraseIdx (s.x.fmod size).toNat, s.order ++ [s.left.getD (s.x.fmod size).toNat 0], s.x.fdiv size⟩
def arrAt (x : Int) (i : Nat) : Arr := (([4, 3, 2, 1] : List Int).take i).foldl arrStep ⟨[0, 1, 2, 3], [], x⟩
def arranged (x : Int) : List Int := (arrAt x 4).order
theorem arrAt_succ (x : Int) (i : Nat) (e : Int) (he : ([4, 3, 2, 1] : List Int)[i]? = some e) : arrAt x (i + 1) = arrStep (arrAt x i) e := by
  unfold arrAt
  rw [List.take_add_one, he]
  simp
theorem fmod_lt (x : Int) {k : Int} (hk : 0 < k) : 0 ≤ x.fmod k ∧ x.fmod k < k := by
  rw [Int.fmod_eq_emod_of_nonneg _ (Int.le_of_lt hk)]
  exact ⟨Int.emod_nonneg _ (by omega), Int.emod_lt_of_pos _ hk⟩
theorem arrAt_len (x : Int) : ∀ i, i ≤ 4 → (arrAt x i).left.length = 4 - i
  | 0, _ => rfl
  | i + 1, hi => by
    have ih := arrAt_len x i (by omega)
    have he : ([4, 3, 2, 1] : List Int)[i]? = some ((4 : Int) - i) := by
      match i, hi with
      | 0, _ => rfl
      | 1, _ => rfl
      | 2, _ => rfl
      | 3, _ => rfl
    rw [arrAt_succ x i _ he]
    have hm := fmod_lt (arrAt x i).x (k := (4 : Int) - i) (by omega)
    show ((arrAt x i).left.eraseIdx _).length = _
    rw [List.length_eraseIdx_of_lt (by omega)]
    omega
theorem arrAt_olen (x : Int) : ∀ i, i ≤ 4 → (arrAt x i).order.length ≤ 4
  | 0, _ => by show 0 ≤ 4; decide
  | 1, _ => by show 1 ≤ 4; decide
  | 2, _ => by show 2 ≤ 4; decide
  | 3, _ => by show 3 ≤ 4; decide
  | 4, _ => by show 4 ≤ 4; decide
  | _ + 5, h => absurd h (by omega)
theorem size_at {i : Nat} {e : Int} (he : ([4, 3, 2, 1] : List Int)[i]? = some e) : i < 4 ∧ e = (4 : Int) - i := by
  have hi : i < 4 := by have := (List.getElem?_eq_some_iff.mp he).1; simpa using this
  refine ⟨hi, ?_⟩
  match i, hi with
  | 0, _ => cases he; rfl
  | 1, _ => cases he; rfl
  | 2, _ => cases he; rfl
  | 3, _ => cases he; rfl

theorem ints_eraseIdx : ∀ {vs : List Value} {ns : List Int} (i : Nat), IntsAre vs ns → IntsAre (vs.eraseIdx i) (ns.eraseIdx i)
  | _, _, _, .nil => by simpa using IntsAre.nil
  | _, _, 0, .cons _ _ h => by simpa using h
  | _, _, i + 1, .cons n t h => by simpa using IntsAre.cons n t (ints_eraseIdx i h)
theorem ints_get {vs : List Value} {ns : List Int} (h : IntsAre vs ns) {i : Nat} (hi : i < ns.length) : ∃ t, vs[i]? = some (.int (ns.getD i 0) t) := by
  have hv : i < vs.length := by rw [h.length]; exact hi
  obtain ⟨n, t, e1, e2⟩ := h.at i vs[i] (List.getElem?_eq_getElem hv)
  refine ⟨t, ?_⟩
  rw [List.getElem?_eq_getElem hv, e1, List.getD_eq_getElem?_getD, e2]; rfl

section
variable {prog : Program} {w : World} {A : Around} {B : Bad} {h : Heap} {env : Env} {mg mb : Str → Option Value}

theorem ev_listF {elts : List Expr} {pos : Pos} {ds : List PyData} (x : Ev prog w A B (spliced (backTo pos (starEach elts env))) h (fun h' vs => RepAll B h' vs ds)) (hn : ds.length ≤ 1000000 := by first | decide | simp) :
    Ev prog w A B (eval (.List elts pos) env) h (fun h' v => ∃ l vs, v = .ref l ∧ vg h l = none ∧ ¬ B l ∧ vg h' l = some (lstObj vs 0) ∧ RepAll B h' vs ds) :=
  fun s Q E hk hl hq => wpAny_List (x s _ E hk hl fun vs h' tk k p => ⟨by rw [p.length]; exact sizeLine_big hn, hq _ _ _ (k.tr (Keep.push _)) ⟨_, vs, rfl, by
    cases e : vg h h'.objs.size with
    | none => rfl
    | some o => exact absurd (vg_lt (k _ _ (hk _ _ e))) (Nat.lt_irrefl _), (hl.keep k).size, vg_new rfl nd_lst, p.keep (Keep.push _)⟩⟩)
/-- x op= e on a local int -/
theorem blk_aug {R : Flow → Heap → Prop} {m cm : Str → Option Value} {x : Str} {p pos : Pos} {value : Expr} {op : Operator} {v : Value} {d e r : PyData} (F : Fm env m cm h) (hB : Live B h) (hl : env.kindOf x = some .local) (hv : m x = some v) (rv : Rep B h v d)
    (y : EvD prog w A B (eval value env) h e) (z : ∀ h' a b, Keep h h' → Rep B h' a d → Rep B h' b e → EvD prog w A B (inplaceOp op a b) h' r)
    (q : ∀ h₁ u h', Keep h h₁ → Rep B h₁ u r → Fm env (upd m x u) cm h' → KeepX (FB env) h₁ h' → R .next h') :
    Blk prog w A (exec (.AugAssign (.Name x p) op value pos) env) h R := by
  intro s Q E hse hq
  subst hse
  refine wpAny_AugAssign_Name (F.ld hl hv _ _ s _ E Keep.rfl' (y s _ E Keep.rfl' hB fun b h₁ tk₁ k₁ p₁ => z h₁ v b k₁ (rv.keep k₁) p₁ _ _ E Keep.rfl' (hB.keep k₁) fun u h₂ tk₂ k₂ p₂ => fm_store ((F.keep k₁).keep k₂) hl fun h' tk F' kx => hq _ h' tk (q h₂ u h' (k₁.tr k₂) p₂ F' kx)))
theorem op_ifdiv {h' : Heap} {a b : Value} {x y : Int} (p : Rep B h' a (.int x)) (q : Rep B h' b (.int y)) (h0 : y ≠ 0) (hs : y.natAbs < 1073741824) : EvD prog w A B (inplaceOp .FloorDiv a b) h' (.int (x.fdiv y)) := by
  obtain ⟨_, rfl⟩ := p.int_inv; obtain ⟨_, rfl⟩ := q.int_inv
  exact Ev.tok fun s Q E hk hq => ifloordiv_int h0 (hq _ _ (.int _ _)) (Or.inl (PyProof.noPylong_small hs))
theorem op_iadd {h' : Heap} {a b : Value} {x y : Int} (p : Rep B h' a (.int x)) (q : Rep B h' b (.int y)) : EvD prog w A B (inplaceOp .Add a b) h' (.int (x + y)) := by
  obtain ⟨_, rfl⟩ := p.int_inv; obtain ⟨_, rfl⟩ := q.int_inv
  exact Ev.tok fun s Q E hk hq => iadd_int (hq _ _ (.int _ _))

theorem law_arranged {a : Addr} {v : Value} {x : Int} (hB : Live B h) (G : Gx mg mb h) (f : FnAt h 11 .none a) (hh : A.handled = none) (hroom : A.depth < recursionLimit) (r : Rep B h v (.int x)) :
    EvD prog w A B (call (.ref a) [v]) h (dL (arranged x)) := by
  refine call_fn (binds := [(Str.ofString "x", v)]) hB G f hroom (fun _ _ _ _ _ => BindsTo.of_eq rfl) (fun n => one_local rfl) (fun pm cd doc L h₁ s => ?_)
  conv in (bodyOf _) => whnf
  generalize henv : fEnv 11 .none pm cd doc L a = env at *
  have kl : ∀ y : String, y = "x" ∨ y = "left" ∨ y = "order" ∨ y = "size" → env.kindOf (Str.ofString y) = some .local := by
    subst henv; rintro y (rfl | rfl | rfl | rfl) <;> rfl
  obtain ⟨t, rfl⟩ := r.int_inv
  have hx0 : (bindL env.kindOf [(Str.ofString "x", Value.int x t)] fun _ => none) (Str.ofString "x") = some (Value.int x t) := by subst henv; rfl
  generalize hM : (bindL env.kindOf [(Str.ofString "x", Value.int x t)] fun _ => none) = M at *
  generalize hN : (bindC env.kindOf [(Str.ofString "x", Value.int x t)] fun _ => none) = N at *
  have hi : interactive env = false := by subst henv; rfl
  clear henv hM hN
  -- left
  refine blk_cons (blk_assign s.F s.live (kl _ (by simp)) (ev_listF (evA_cons ev_const_int (evA_cons ev_const_int (evA_cons ev_const_int (evA_cons ev_const_int evA_nil))))) fun h₂ v₂ h₃ k₂ p₂ F₃ kx₃ => ?_)
  obtain ⟨l, vl, rfl, hlf, hlB, hl₂, rl⟩ := p₂
  have hlF : ¬ FB env l := fun q => by obtain ⟨o, e⟩ := s.F.alive l q; exact nomatch hlf.symm.trans e
  have hl₃ := kx₃ l _ hlF hl₂
  have s₃ : At (plus B l) env h h₁ _ N h₃ := ((s.more k₂).turn F₃ kx₃).withI Keep.rfl' ⟨_, hl₃⟩
  have il : IntsAre vl [0, 1, 2, 3] := RepAll.ints (ns := [0, 1, 2, 3]) rl
  have hlh : vg h l = none := by
    cases e : vg h l with
    | none => rfl
    | some o => exact nomatch hlf.symm.trans (s.K _ _ e)
  have hlh1 : vg h₁ l = none := hlf
  -- order
  refine blk_cons (blk_assign s₃.F s₃.live (kl _ (by simp)) (ev_listF evA_nil) fun h₄ v₄ h₅ k₄ p₄ F₅ kx₅ => ?_)
  obtain ⟨q, vq, rfl, hqf, hqB, hq₄, rq⟩ := p₄
  have hqF : ¬ FB env q := fun z => by obtain ⟨o, e⟩ := s₃.F.alive q z; exact nomatch hqf.symm.trans e
  have hql : q ≠ l := fun z => by subst z; exact nomatch hqf.symm.trans hl₃
  have hq₅ := kx₅ q _ hqF hq₄
  have hl₅ := kx₅ l _ hlF (k₄ _ _ hl₃)
  have s₅ : At (plus (plus B l) q) env h h₁ _ N h₅ := ((s₃.more k₄).turn F₅ kx₅).withI Keep.rfl' ⟨_, hq₅⟩
  cases rq
  have hqh : vg h q = none := by
    cases e : vg h q with
    | none => rfl
    | some o => exact nomatch hqf.symm.trans (s₃.K _ _ e)
  have hqh1 : vg h₁ q = none := by
    cases e : vg h₁ q with
    | none => rfl
    | some o => obtain ⟨o', e'⟩ := s₃.h1 _ ⟨o, e⟩; exact nomatch hqf.symm.trans e'
  -- the loop
  refine blk_cons (at_for (xs := ([4, 3, 2, 1] : List Int)) PyData.int (fun m v => upd m (Str.ofString "size") v) (fun cm _ => cm) (fun b => FB env b ∨ b = l ∨ b = q)
    (fun I i m cm h' => l ≠ I ∧ q ≠ I ∧ (∃ t, m (Str.ofString "x") = some (.int (arrAt x i).x t)) ∧ m (Str.ofString "left") = some (.ref l) ∧ m (Str.ofString "order") = some (.ref q) ∧
      (∃ vs n, vg h' l = some (lstObj vs n) ∧ IntsAre vs (arrAt x i).left) ∧ (∃ vs n, vg h' q = some (lstObj vs n) ∧ IntsAre vs (arrAt x i).order))
    s₅ ?_ ?_ ?_ (ev_srcL hh (ev_list (evA_cons ev_const_int (evA_cons ev_const_int (evA_cons ev_const_int (evA_cons ev_const_int evA_nil)))))) ?_ ?_ ?_ ?_)
  · rintro b (z | rfl | rfl)
    · exact .inr z
    · exact .inl (.inl (.inr rfl))
    · exact .inl (.inr rfl)
  · exact fun b z => .inl z
  · exact fun s m cm v Q E F hq => fm_store F (kl _ (by simp)) hq
  · rintro I i m cm h' h'' ⟨h1, h2, h3, h4, h5, ⟨vs, n, e, r⟩, vs', n', e', r'⟩ k
    exact ⟨h1, h2, h3, h4, h5, ⟨vs, n, k _ _ (fun z => z.elim h1 hlF) e, r⟩, vs', n', k _ _ (fun z => z.elim h2 hqF) e', r'⟩
  · intro I h₆ hI k₆ s₆
    refine ⟨(fun z => by subst z; exact none_some hI hl₅), (fun z => by subst z; exact none_some hI hq₅), ⟨t, hx0⟩, rfl, rfl, ⟨_, _, k₆ _ _ hl₅, il⟩, ⟨_, _, k₆ _ _ hq₅, .nil⟩⟩
  · rintro I i e v m cm h₆ he hIX s₆ ⟨h1, h2, ⟨tx, h3⟩, h4, h5, ⟨vs, n, el, rl⟩, vs', n', eq, rq⟩ rv
    obtain ⟨hi4, rfl⟩ := size_at he
    obtain ⟨tv, rfl⟩ := rv.int_inv
    have hlen := arrAt_len x i (by omega)
    have hm := fmod_lt (arrAt x i).x (k := (4 : Int) - i) (by omega)
    have lx : LdN env (Str.ofString "x") h₆ (.int (arrAt x i).x tx) := s₆.F.ld (kl _ (by simp)) h3
    have ll : LdN env (Str.ofString "left") h₆ (.ref l) := s₆.F.ld (kl _ (by simp)) h4
    have lq : LdN env (Str.ofString "order") h₆ (.ref q) := s₆.F.ld (kl _ (by simp)) h5
    have lz : LdN env (Str.ofString "size") h₆ (.int ((4 : Int) - i) tv) := s₆.F.ld (kl _ (by simp)) rfl
    obtain ⟨ty, hy⟩ := ints_get rl (i := ((arrAt x i).x.fmod ((4 : Int) - i)).toNat) (by omega)
    refine blk_cons ?_
    intro s Q E hse hq
    subst hse
    refine wpAny_Expr (wp_append lq eq (wp_pop ll el (ev_bin (ev_name lx (.int _ _)) (ev_name lz (.int _ _)) (fun h' a b _ p q => op_mod p q (by omega)) s _ E Keep.rfl' s₆.live fun u h₇ tk₇ k₇ p₇ => ?_))) hi
    obtain ⟨tu, rfl⟩ := p₇.int_inv
    refine ⟨vs, n, _, tu, _, rfl, hm.1, ?_, hy, k₇ _ _ el, fun h₈ n₈ el₈ k₈ => ?_⟩
    · rw [rl.length, hlen]; omega
    · have eq₈ := k₈ q _ hql (k₇ _ _ eq)
      refine ⟨vs', n', ?_, eq₈, fun h₉ n₉ eq₉ k₉ => ?_⟩
      · have : vs'.length ≤ 4 := by rw [rq.length]; exact arrAt_olen x i (by omega)
        omega
      · have s₇ := s₆.more k₇
        have s₈ := s₇.off hlF hlh hlh1 k₈ ⟨_, el₈⟩
        have s₉ := s₈.off hqF hqh hqh1 k₉ ⟨_, eq₉⟩
        refine hq .next h₉ tk₇ ?_
        have kx₉ : KeepX (fun b => FB env b ∨ b = l ∨ b = q) s.heap h₉ := fun b o nb e => k₉ b o (fun z => nb (.inr (.inr z))) (k₈ b o (fun z => nb (.inr (.inl z))) (k₇ b o e))
        have he₉ := k₉ l _ (Ne.symm hql) el₈
        refine blk_cons (blk_aug s₉.F s₉.live (kl _ (by simp)) h3 (.int _ _) (ev_name (s₉.F.ld (kl "size" (by simp)) rfl) (.int ((4 : Int) - i) tv)) (fun h' a b _ p q => op_ifdiv p q (by omega) (by omega)) fun h₁₀ u h₁₁ k₁₀ p₁₀ F₁₁ k₁₁ => blk_nil ?_)
        obtain ⟨tu, rfl⟩ := p₁₀.int_inv
        refine ⟨fun b o nb e => k₁₁ b o (fun z => nb (.inl z)) (k₁₀ b o (kx₉ b o nb e)), _, _, (s₉.more k₁₀).turn F₁₁ k₁₁, h1, h2, ?_⟩
        rw [arrAt_succ x i _ he]
        refine ⟨⟨tu, rfl⟩, h4, h5, ⟨_, _, k₁₁ l _ hlF (k₁₀ _ _ he₉), ints_eraseIdx _ rl⟩, _, _, k₁₁ q _ hqF (k₁₀ _ _ eq₉), ?_⟩
        exact rq.append (.cons _ _ .nil)
  · rintro I m cm h₆ s₆ ⟨_, _, _, _, h5, _, vs', n', eq, rq⟩
    have lq : LdN env (Str.ofString "order") h₆ (.ref q) := s₆.F.ld (kl _ (by simp)) h5
    refine blk_cons (blk_ret s₆.live (ev_nameV lq) fun h' v k e => ⟨s₆.X.tr (keepX_of k), v, rfl, ?_⟩)
    subst e
    refine .list (fun z => ?_) (k _ _ eq) (RepAll.ofInts rq)
    rcases z with z | z
    · obtain ⟨o, e⟩ := hB _ z
      exact none_some hqh e
    · exact hqF z
end
end OpA
namespace OpA
variable [Base]

def stepStair (xss : List (List Int)) (x : Int) : List (List Int) := xss ++ [sortI (xss.getD (xss.length - 1) [] ++ [x])]
def stairAt (ns : List Int) (i : Nat) : List (List Int) := (ns.take i).foldl stepStair [[]]
def stairOf (ns : List Int) : List (List Int) := ns.foldl stepStair [[]]
theorem stairAt_succ (ns : List Int) (i : Nat) (e : Int) (he : ns[i]? = some e) : stairAt ns (i + 1) = stepStair (stairAt ns i) e := by
  unfold stairAt
  rw [List.take_add_one, he]
  simp
theorem stairAt_len (ns : List Int) : ∀ i, i ≤ ns.length → (stairAt ns i).length = i + 1 ∧ ((stairAt ns i).getD i []).length = i
  | 0, _ => ⟨rfl, rfl⟩
  | i + 1, hi => by
    obtain ⟨h1, h2⟩ := stairAt_len ns i (by omega)
    have he : ns[i]? = some ns[i] := List.getElem?_eq_getElem (by omega)
    rw [stairAt_succ ns i _ he]
    unfold stepStair
    refine ⟨by simp [h1], ?_⟩
    rw [List.getD_eq_getElem?_getD, List.getElem?_append_right (by omega), h1]
    rw [List.getD_eq_getElem?_getD] at h2
    simp [len_sortI, h2]

section
variable {prog : Program} {w : World} {A : Around} {B : Bad} {h : Heap} {env : Env} {mg mb : Str → Option Value}

theorem itA {h h' : Heap} {I l : Addr} {i : Nat} (x : h.IsListIter I l i) (k : ∀ o, vg h I = some o → vg h' I = some o) : h'.IsListIter I l i := by
  obtain ⟨o, e, c, d⟩ := x
  have hn : NoD o := fun _ _ q => by rw [d] at q; cases q
  exact ⟨o, vg_get (k _ (get_vg e hn)) hn, c, d⟩
theorem bi_iter {vs : List Value} {ds : List PyData} {hb : Heap} (kb : Keep hb h) (r : RepAll B h vs [.list ds]) :
    Ev prog w A B (call (.builtin "iter") vs) h (fun h' v => ∃ I l items n, v = .ref I ∧ vg hb I = none ∧ h'.IsListIter I l 0 ∧ ¬ B l ∧ vg h' l = some (lstObj items n) ∧ RepAll B h' items ds) := by
  cases r with
  | cons r1 r2 =>
    cases r2
    obtain ⟨l, items, n, rfl, nb, e, q⟩ := r1.list_inv
    intro s Q E hk hl hq
    refine call_function_entry (by decide +kernel) (by decide +kernel) kdk_entry_iter (kdk_args_iter _) ?_
    unfold Builtin.«iter»
    refine wpAny_bind (m := someArgs "iter" 1 2 _) (wpAny_of_eq (a := [Value.ref l]) (by first | rfl | kernel_rfl!) ?_)
    show wpAny _ _ (pyIter (.ref l) >>= _) _ _ _
    refine wpAny_bind (wpAny_pyIter_list (isList_obj (hk _ _ e)) ?_)
    refine wpAny_pure ⟨_, rfl, hq _ _ s.toks (Keep.push _) ⟨_, l, items, n, rfl, ?_, ⟨_, Heap.get?_push_size _ rfl, rfl, rfl⟩, nb, Keep.push _ _ _ (hk _ _ e), (q.keep hk).keep (Keep.push _)⟩⟩
    cases e : vg hb s.heap.objs.size with
    | none => rfl
    | some o => exact absurd (vg_lt (hk _ _ (kb _ _ e))) (Nat.lt_irrefl _)

theorem evB_isOther {x y : Str} {p q pos : Pos} {whole : Sem Value} {a b : Addr} {oa ob : Obj} (lx : LdN env x h (.ref a)) (ly : LdN env y h (.ref b)) (ha : vg h a = some oa) (hb : vg h b = some ob) (hne : a ≠ b) (hnt : oa.cls ≠ .type "tuple") (hna : NoD oa) (hnb : NoD ob)
    (hm : behindInMarks .Is (.Name y q) = false := by with_unfolding_all rfl) (hd : (x == ("__debug__" : Str)) = false := by decide) (hd' : (y == ("__debug__" : Str)) = false := by decide) :
    EvB prog w A B (isTrue (.Compare (.Name x p) [.Is] [.Name y q] pos) env whole) h false :=
  fun s Q E hk hl hq => wpAny_isTrue_Compare1 (wpAny_Name (lx _ _ s _ E hk (wpAny_Name (ly _ _ s _ E hk (wpAny_is_ref_other hne (vg_get (hk _ _ ha) hna) (vg_get (hk _ _ hb) hnb) hnt (wpAny_truthy_bool (hq _ s.heap s.toks Keep.rfl' rfl)))) hd')) hd) hm

theorem reduce_stair {a aO T T0 : Addr} {v2 v3 : Value} {ns : List Int} {nT : Nat} {oT0 : Obj} (hB : Live B h) (G : Gx mg mb h) (f : FnAt h 5 (.ref T) a) (hT : vg h T = some { cls := .type "tuple", data := .seq #[.ref T0] nT }) (hm0 : mg (Str.ofString "_initial_missing") = some (.ref T0)) (hT0 : vg h T0 = some oT0) (hT0c : oT0.cls = .type "object") (hT0n : NoD oT0)
    (fO : FnAt h 12 .none aO) (hh : A.handled = none) (hroom : A.depth + 1 < recursionLimit) (r2 : Rep B h v2 (dL ns)) (r3 : Rep B h v3 (.list ([[]].map dL))) (hn : ns.length ≤ 20) :
    EvD prog w A B (call (.ref a) [.ref aO, v2, v3]) h (.list ((stairOf ns).map dL)) := by
  refine call_fn (binds := [(Str.ofString "function", .ref aO), (Str.ofString "sequence", v2), (Str.ofString "initial", v3)]) hB G f (by omega) (fun _ _ _ s k => BindsTo.of_defaults rfl (vg_get (k _ _ hT) fun _ _ q => by cases q) rfl rfl rfl) (fun n => ?_) (fun pm cd doc L h₁ s => ?_)
  · intro y hy
    simp only [List.mem_cons, List.not_mem_nil, or_false] at hy
    rcases hy with rfl | rfl | rfl <;> exact .inl rfl
  conv in (bodyOf _) => whnf
  obtain ⟨l3, vs3, n3, rfl, nb3, e3, q3⟩ := r3.list_inv
  have lseq : LdN (fEnv 5 (.ref T) pm cd doc L a) (Str.ofString "sequence") h₁ v2 := s.F.ld rfl rfl
  have G₁ := G.keep s.K
  refine blk_cons (blk_assign s.F s.live rfl (ev_callB (G₁.bin G₁.bIter rfl rfl rfl rfl) (evA_cons (ev_name lseq (s.old r2)) evA_nil) fun h' vs k' rs => bi_iter k' rs) fun h₂ v₂ h₃ k₂ p₂ F₃ kx₃ => ?_)
  obtain ⟨I, l, items, n, rfl, hI0, hit, hlB, hl₂, ri⟩ := p₂
  have s₂ := s.more k₂
  have hIF : ¬ FB (fEnv 5 (.ref T) pm cd doc L a) I := fun q => by obtain ⟨o, e⟩ := s.F.alive _ q; exact none_some hI0 e
  have hIB : ¬ BF B (fEnv 5 (.ref T) pm cd doc L a) I := fun q => by obtain ⟨o, e⟩ := s.live _ q; exact none_some hI0 e
  have hIh : vg h I = none := by
    cases e : vg h I with
    | none => rfl
    | some o => exact (none_some hI0 (s.K _ _ e)).elim
  have s₃ : At B (fEnv 5 (.ref T) pm cd doc L a) h h₁ _ _ h₃ := s₂.turn F₃ kx₃
  have hl₃ : vg h₃ l = some (lstObj items n) := kx₃ l _ (fun q => hlB (.inr q)) hl₂
  have hit₃ : h₃.IsListIter I l 0 := itA hit fun o e => kx₃ _ _ hIF e
  have hIl : l ≠ I := fun q => by
    subst q
    obtain ⟨o, e, c, _⟩ := hit
    rw [gl hl₂] at e; cases e; exact absurd c (show ¬ Value.type "list" = Value.type "list_iterator" by decide)
  have hints := ri.ints
  -- the test
  have lini : LdN (fEnv 5 (.ref T) pm cd doc L a) (Str.ofString "initial") h₃ (.ref l3) := s₃.F.ld rfl rfl
  have lmis : LdN (fEnv 5 (.ref T) pm cd doc L a) (Str.ofString "_initial_missing") h₃ (.ref T0) := (G.keep s₃.K).fn hm0 rfl rfl rfl
  have hne : l3 ≠ T0 := fun q => by subst q; rw [e3] at hT0; cases hT0; exact absurd hT0c (show ¬ Value.type "list" = Value.type "object" by decide)
  refine blk_cons (blk_if s₃.live (evB_isOther lini lmis (s₃.K _ _ e3) (s₃.K _ _ hT0) hne (by show Value.type "list" ≠ Value.type "tuple"; decide) nd_lst hT0n) (fun e => by cases e) fun _ h₄ k₄ => ?_)
  have s₄ := s₃.more k₄
  refine blk_cons (blk_assign s₄.F s₄.live rfl (ev_nameV (lini.up k₄)) fun h₆ v₅ h₅ k₅ p₅ F₅ kx₅ => blk_nil ?_)
  subst p₅
  have s₅ : At B (fEnv 5 (.ref T) pm cd doc L a) h h₁ _ _ h₅ := (s₄.more k₅).turn F₅ kx₅
  have hl₅ : vg h₅ l = some (lstObj items n) := kx₅ l _ (fun q => hlB (.inr q)) (k₅ _ _ (k₄ _ _ hl₃))
  have hit₅ : h₅.IsListIter I l 0 := itA hit₃ fun o e => kx₅ _ _ hIF (k₅ _ _ (k₄ _ _ e))
  have hIlive : ∃ o, vg h₅ I = some o := by obtain ⟨o, e, r⟩ := hit₅; obtain ⟨o', e', _⟩ := vg_some e; exact ⟨o', e'⟩
  have s₅I : At (plus B I) (fEnv 5 (.ref T) pm cd doc L a) h h₁ _ _ h₅ := s₅.withI Keep.rfl' hIlive
  have r₅I : Rep (BF (plus B I) (fEnv 5 (.ref T) pm cd doc L a)) h₅ (.ref l3) (.list ([[]].map dL)) := r3.lift fun b o nb e => ⟨fun q => by
    rcases q with (q | rfl) | q
    · exact nb q
    · exact none_some hIh e
    · exact s.fresh b o e q, s₅.K _ _ e⟩
  -- the loop
  have litx : LdN (fEnv 5 (.ref T) pm cd doc L a) (Str.ofString "it") h₅ (.ref I) := s₅.F.ld rfl rfl
  have W := Walks.list (prog := prog) (w := w) (A := A.deeper (fEnv 5 (.ref T) pm cd doc L a)) hh I l hIl items.toArray
  rw [show items.toArray.size = ns.length by simp [hints.length]] at W
  refine blk_cons ?_
  intro st Q E hse hq
  subst hse
  refine wpAny_For (wpAny_Name (litx _ _ st _ E Keep.rfl' (W.self 0 _ _ _ ⟨hit₅, isList_obj hl₅⟩ ?_)))
  refine for_core (s := st) (tk₂ := st.toks) (h₂ := st.heap) (xs := ns) PyData.int (fun m v => upd m (Str.ofString "element") v) (fun cm _ => cm) (FB (fEnv 5 (.ref T) pm cd doc L a))
    (fun I' i m cm h' => (∃ vv, m (Str.ofString "value") = some vv ∧ Rep (BF (plus B I) (fEnv 5 (.ref T) pm cd doc L a)) h' vv (.list ((stairAt ns i).map dL))) ∧ m (Str.ofString "function") = some (.ref aO) ∧ I' = I)
    s₅I W ⟨hit₅, isList_obj hl₅⟩ (fun i hp q => by obtain ⟨o, e, _⟩ := q.1; obtain ⟨o', e', _⟩ := vg_some e; exact ⟨o', e'⟩) (fun i hp st b hb o eo => ?_) hIF hIF hIB hIh hI0 ?_ (fun b q => .inr q) (fun b q => q) (fun b o nb e => e) ?_ (fun s m cm v Q E F hq => fm_store F rfl hq) ?_ ⟨⟨_, rfl, r₅I⟩, rfl, rfl⟩ ?_ ?_ hq
  · simp only [List.mem_cons, List.not_mem_nil, or_false] at hb
    rcases hb with rfl | rfl
    · obtain ⟨o', e', _, d⟩ := st.1; rw [eo] at e'; cases e'; exact fun _ _ q => by rw [d] at q; cases q
    · obtain ⟨o', e', _, _, d⟩ := st.2; rw [eo] at e'; cases e'; exact fun _ _ q => by rw [d] at q; cases q
  · intro b hb q
    simp only [List.mem_cons, List.not_mem_nil, or_false] at hb
    rcases hb with rfl | rfl
    · exact hIF q
    · exact hlB (.inr q)
  · intro i u e hcur hu he kx
    obtain ⟨n', t', rfl, he'⟩ := hints.at i u (by simpa using hu)
    rw [he] at he'; cases he'
    exact .int _ _
  · rintro I' i m cm h' h'' ⟨⟨vv, e1, r⟩, e2, rfl⟩ kx
    exact ⟨⟨vv, e1, r.keepX fun b o nb e => kx b o (fun q => nb (q.elim (fun z => .inl (.inr z)) .inr)) e⟩, e2, rfl⟩
  · rintro i e v m cm h' he sI ⟨⟨vv, e1, r⟩, e2, _⟩ rv
    have hi : i < ns.length := (List.getElem?_eq_some_iff.mp he).1
    obtain ⟨hl1, hl2⟩ := stairAt_len ns i (by omega)
    have lf : LdN (fEnv 5 (.ref T) pm cd doc L a) (Str.ofString "function") h' (.ref aO) := sI.F.ld rfl e2
    have lv : LdN (fEnv 5 (.ref T) pm cd doc L a) (Str.ofString "value") h' vv := sI.F.ld rfl e1
    have le : LdN (fEnv 5 (.ref T) pm cd doc L a) (Str.ofString "element") h' v := sI.F.ld rfl rfl
    obtain ⟨oO, pmO, cdO, docO, eO, dO, _⟩ := fO.is
    refine blk_cons (blk_assign (P₀ := fun hq u => Rep (BF (plus B I) (fEnv 5 (.ref T) pm cd doc L a)) hq u (.list ((stairAt ns (i + 1)).map dL))) (B := BF (plus B I) (fEnv 5 (.ref T) pm cd doc L a)) sI.F sI.live rfl (ev_callF lf (sI.K _ _ eO) dO (evA_cons (ev_name lv r) (evA_cons (ev_name le rv) evA_nil)) fun h'' vs k' rs => ?_) fun h₇ v₇ h₈ k₇ p₇ F₈ kx₈ => blk_nil ?_)
    · cases rs with
      | cons ra rs => cases rs with
        | cons rb rs =>
          cases rs
          rw [stairAt_succ ns i e he]
          refine one_more (sI.live.keep k') ((G.keep sI.K).keep k') ((fO.keep sI.K).keep k') hroom ra rb (last := (stairAt ns i).getD ((stairAt ns i).length - 1) []) ?_ (by omega) ?_
          · rw [List.getD_eq_getElem?_getD, List.getElem?_eq_getElem (by omega)]; rfl
          · rw [hl1]; simp only [Nat.add_sub_cancel]; omega
    · exact ⟨fun b o nb e => kx₈ b o nb (k₇ b o e), _, _, (sI.more k₇).turn F₈ kx₈, ⟨_, rfl, rep_turn kx₈ p₇⟩, e2, rfl⟩
  · rintro m cm h' s' ⟨⟨vv, e1, r⟩, _, _⟩
    have lv : LdN (fEnv 5 (.ref T) pm cd doc L a) (Str.ofString "value") h' vv := s'.F.ld rfl e1
    have : stairAt ns ns.length = stairOf ns := by unfold stairAt stairOf; rw [List.take_length]
    rw [this] at r
    exact at_ret1 s' (ev_name lv (r.sub fun b q => q.elim (fun z => .inl (.inl z)) .inr))
end
end OpA
namespace OpA
variable [Base]

/-- the frames of the stack stand in h -/
def FrOk (A : Around) (h : Heap) : Prop := ∃ outer, A.frames = some outer ∧ ∀ env ∈ outer, env.scope.kind ≠ .module ∧ ∃ L m, env.frame = some L ∧ Base.lo ≤ L ∧ h.Ns L m
theorem FrOk.keep {A : Around} {h h' : Heap} (x : FrOk A h) (k : Keep h h') : FrOk A h' := by
  obtain ⟨outer, e, q⟩ := x
  exact ⟨outer, e, fun env he => let ⟨a, L, m, b, c, d⟩ := q env he; ⟨a, L, m, b, c, nsK d k⟩⟩

/-- an IndexError that the heap hp has not, hp kept; fl: none, no traceback yet; some v: its traceback bears v; c: its context -/
def ExcAt (hp hn : Heap) (fl : Option Value) (c : Value) (h : Heap) (e : Addr) : Prop :=
  Keep hp h ∧ (vg hp e = none ∧ vg hn e = none) ∧ ∃ ob vs, h.get? e = some ob ∧ ob.cls = .type "IndexError" ∧ ob.data = .fields vs ∧ vs.size = 6 ∧ vs[2]? = some c ∧
    match fl with
    | none => vs[1]? = some .none
    | some v => ∃ tb otb ts, vs[1]? = some (.ref tb) ∧ (vg hp tb = none ∧ vg hn tb = none) ∧ tb ≠ e ∧ h.get? tb = some otb ∧ otb.data = .fields ts ∧ ts[3]? = some v

theorem ExcAt.up {hp hn : Heap} {fl : Option Value} {c : Value} {h h' : Heap} {e : Addr} (x : ExcAt hp hn fl c h e) (k : Keep h h') : ExcAt hp hn fl c h' e := by
  obtain ⟨k0, ne, ob, vs, he, hc, hd, hs, h2, r⟩ := x
  have hn : NoD ob := fun _ _ q => by rw [hd] at q; cases q
  refine ⟨k0.tr k, ne, ob, vs, vg_get (k _ _ (get_vg he hn)) hn, hc, hd, hs, h2, ?_⟩
  cases fl with
  | none => exact r
  | some v =>
    obtain ⟨tb, otb, ts, h1, ntb, tne, htb, hdt, h3⟩ := r
    have hn' : NoD otb := fun _ _ q => by rw [hdt] at q; cases q
    exact ⟨tb, otb, ts, h1, ntb, tne, vg_get (k _ _ (get_vg htb hn')) hn', hdt, h3⟩
/-- what turns is a namespace or a cell -/
theorem ExcAt.upX {hp hn : Heap} {fl : Option Value} {c : Value} {h h' : Heap} {e : Addr} (X : Bad) (x : ExcAt hp hn fl c h e) (k : KeepX X h h') (kp : Keep hp h') (hX : ∀ b, X b → ∃ o, h.get? b = some o ∧ ∀ vs, o.data ≠ .fields vs) : ExcAt hp hn fl c h' e := by
  obtain ⟨k0, ne, ob, vs, he, hc, hd, hs, h2, r⟩ := x
  have hn : NoD ob := fun _ _ q => by rw [hd] at q; cases q
  have off : ∀ b o vs, h.get? b = some o → o.data = .fields vs → ¬ X b := fun b o vs e d q => by
    obtain ⟨o', e', nd⟩ := hX b q
    rw [e] at e'; cases e'; exact nd vs d
  refine ⟨kp, ne, ob, vs, vg_get (k _ _ (off _ _ _ he hd) (get_vg he hn)) hn, hc, hd, hs, h2, ?_⟩
  cases fl with
  | none => exact r
  | some v =>
    obtain ⟨tb, otb, ts, h1, ntb, tne, htb, hdt, h3⟩ := r
    have hn' : NoD otb := fun _ _ q => by rw [hdt] at q; cases q
    exact ⟨tb, otb, ts, h1, ntb, tne, vg_get (k _ _ (off _ _ _ htb hdt) (get_vg htb hn')) hn', hdt, h3⟩
theorem ExcAt.base {hp hp' hn hn' : Heap} {fl : Option Value} {c : Value} {h : Heap} {e : Addr} (x : ExcAt hp hn fl c h e) (k : Keep hp' hp) (kn : ∀ b, vg hn b = none → vg hn' b = none) : ExcAt hp' hn' fl c h e := by
  obtain ⟨k0, ne, ob, vs, he, hc, hd, hs, h2, r⟩ := x
  have f : ∀ b, vg hp b = none → vg hp' b = none := fun b q => by
    cases hq : vg hp' b with
    | none => rfl
    | some o => exact nomatch q.symm.trans (k _ _ hq)
  refine ⟨k.tr k0, ⟨f _ ne.1, kn _ ne.2⟩, ob, vs, he, hc, hd, hs, h2, ?_⟩
  cases fl with
  | none => exact r
  | some v => obtain ⟨tb, otb, ts, h1, ntb, r⟩ := r; exact ⟨tb, otb, ts, h1, ⟨f _ ntb.1, kn _ ntb.2⟩, r⟩
theorem ExcAt.typeIs {hp hn : Heap} {fl : Option Value} {c : Value} {s : Shared} {e : Addr} (x : ExcAt hp hn fl c s.heap e) : s.TypeIs (.ref e) "IndexError" := by
  obtain ⟨k0, ne, ob, vs, he, hc, _⟩ := x
  exact ⟨ob, he, hc⟩

/-- one record that hp and hn have not has turned -/
def OneOff (hp hn h h' : Heap) : Prop := ∃ tb, vg hp tb = none ∧ vg hn tb = none ∧ (∃ o, h.get? tb = some o ∧ ∃ ts, o.data = .fields ts) ∧ (∃ o, vg h' tb = some o) ∧ KeepX (fun b => b = tb) h h'

theorem keep_slots {S : List Addr} {h h' : Heap} (x : Heap.SlotsOnly S h h') (hS : ∀ b ∈ S, Base.lo ≤ b ∧ ∃ m, h.Ns b m) : Keep h h' := by
  intro b o e
  by_cases hb : b ∈ S
  · obtain ⟨hlo, m, o₀, es, ep, e₀, hd, _⟩ := hS b hb
    obtain ⟨sl, e'⟩ := x.2.2 b o₀ e₀
    unfold vg at e ⊢
    rw [if_neg (Nat.not_lt.mpr hlo), e₀] at e
    rw [if_neg (Nat.not_lt.mpr hlo), e']
    rw [← e]
    show some (norm { o₀ with slots := sl }) = some (norm o₀)
    unfold norm
    rw [hd]
  · exact vg_pt (fun o e => (x.2.1 b hb).trans e) e

section
variable {M : Model} {A : Around} {s : Shared} {env : Env} {L : Addr} {hp hn : Heap} {e : Addr} {c v : Value}

theorem note0 {Q : Unit → Shared → Prop} {E : Value → Shared → Prop} (hfr : ∃ outer, A.frames = some (env :: outer)) (hok : FrOk A s.heap) (hf : env.frame = some L) (hnl : ∀ b o, vg hn b = some o → b < s.heap.objs.size) (x : ExcAt hp hn none c s.heap e)
    (h : ∀ h', ExcAt hp hn (some (rawInt L)) c h' e → Q () { s with heap := h' }) : wpAny M A (noteFrame (.ref e) env) Q E s := by
  obtain ⟨outer, hfr⟩ := hfr
  obtain ⟨k0, ne, ob, vs, he, hc, hd, hs, h2, h1⟩ := x
  obtain ⟨outer', hfr', hall⟩ := hok
  rw [hfr] at hfr'; cases hfr'
  have hff : ∀ l : List Env, (∀ env ∈ l, env.scope.kind ≠ .module ∧ ∃ L m, env.frame = some L ∧ Base.lo ≤ L ∧ s.heap.Ns L m) → s.heap.FunFrames { s.heap with objs := #[] } l := by
    intro l
    induction l with
    | nil => intro _; trivial
    | cons a r ih =>
      intro hq
      obtain ⟨hk, L', m, hf', _, hns⟩ := hq a List.mem_cons_self
      exact Heap.FunFrames.cons hk hf' hns rfl (ih fun y hy => hq y (List.mem_cons_of_mem _ hy))
  unfold noteFrame
  simp only [hf]
  refine wpAny_bind (wpAny_field he hd h1 ?_)
  rw [if_neg (by decide)]
  refine wpAny_bind (wpAny_frameOf_fun hfr (hff _ hall) hf fun h₁ hs₁ => ?_)
  have kk : Keep s.heap h₁ := keep_slots hs₁ fun b hb => by
    obtain ⟨env', he', hb'⟩ := List.mem_filterMap.mp hb
    obtain ⟨_, L', m, hf', hlo, hns⟩ := hall env' he'
    rw [hb'] at hf'; cases hf'; exact ⟨hlo, m, hns⟩
  refine wpAny_bind (wpAny_entryPlaceOf fun pl hpl => ?_)
  unfold EntryCells.newEntry newFields
  refine wpAny_bind (wpAny_newObj_type ?_ (hpl.sizeOk5 _ _ _ _ _))
  have hnd : NoD ob := fun _ _ q => by rw [hd] at q; cases q
  have he₁ : h₁.get? e = some ob := vg_get (kk _ _ (get_vg he hnd)) hnd
  have he₂ := Heap.get?_push_of_some (h := h₁) { cls := .type "traceback", dict := none, data := .fields ([Value.none, .ref L, .none, rawInt L, .none] ++ (if pl.isEmpty then List.replicate 6 Value.none else pl)).toArray } he₁
  refine wpAny_setField he₂ hd (by omega) (h _ ?_)
  have hTe : h₁.objs.size ≠ e := Nat.ne_of_gt (Heap.lt_size he₁)
  have hd₃ := Obj.data_mapFields hd (·.setIfInBounds 1 (Value.ref h₁.objs.size))
  have ntb : vg hp h₁.objs.size = none := by
    cases hq : vg hp h₁.objs.size with
    | none => rfl
    | some o => exact absurd (vg_lt (kk _ _ (k0 _ _ hq))) (Nat.lt_irrefl _)
  have ntb2 : vg hn h₁.objs.size = none := by
    cases hq : vg hn h₁.objs.size with
    | none => rfl
    | some o => exact absurd (hs₁.1 ▸ hnl _ _ hq) (Nat.lt_irrefl _)
  have k3 : Keep hp ((h₁.push { cls := .type "traceback", dict := none, data := .fields ([Value.none, .ref L, .none, rawInt L, .none] ++ (if pl.isEmpty then List.replicate 6 Value.none else pl)).toArray }).update e (Obj.mapFields (·.setIfInBounds 1 (Value.ref h₁.objs.size)))) := fun b o q =>
    sbut (Heap.SameBut.update ..) b o (fun z => by subst z; exact nomatch ne.1.symm.trans q) (Keep.push _ _ _ (kk _ _ (k0 _ _ q)))
  refine ⟨k3, ne, _, _, Heap.get?_update_self _ he₂ (Obj.isFreed_of_fields hd₃), (Obj.cls_mapFields _ _).trans hc, hd₃, by simp [hs], ?_, ?_⟩
  · rw [Array.getElem?_setIfInBounds_ne (by decide)]; exact h2
  · refine ⟨h₁.objs.size, _, _, by simp [hs], ⟨ntb, ntb2⟩, hTe, (Heap.get?_update_other _ _ (Ne.symm hTe)).trans (Heap.get?_push_size h₁ rfl), rfl, ?_⟩
    · first | (simp; done) | (rcases hpl with rfl | ⟨_, _, _, _, _, _, _, rfl⟩ <;> simp)
theorem note1 {Q : Unit → Shared → Prop} {E : Value → Shared → Prop} (hf : env.frame = some L) (x : ExcAt hp hn (some (rawInt L)) c s.heap e) (h : Q () s) : wpAny M A (noteFrame (.ref e) env) Q E s := by
  obtain ⟨k0, ne, ob, vs, he, hc, hd, hs, h2, tb, otb, ts, h1, ntb, tne, htb, hdt, h3⟩ := x
  exact wpAny_noteFrame_inFlight hf he hd h1 htb hdt h3 h
theorem setFl {Q : Unit → Shared → Prop} {E : Value → Shared → Prop} {f : Option Addr} (x : ExcAt hp hn (some v) c s.heap e) (h : ∀ h', ExcAt hp hn (some (f.elim .none fun f => rawInt f)) c h' e → OneOff hp hn s.heap h' → Q () { s with heap := h' }) : wpAny M A (setFlight (.ref e) f) Q E s := by
  obtain ⟨k0, ne, ob, vs, he, hc, hd, hs, h2, tb, otb, ts, h1, ntb, tne, htb, hdt, h3⟩ := x
  unfold setFlight
  refine wpAny_bind (wpAny_field he hd h1 ?_)
  rw [if_pos (show (Value.ref tb != Value.none) = true from by simp)]
  have hsz : 3 < ts.size := (Array.getElem?_eq_some_iff.mp h3).1
  refine wpAny_setField htb hdt hsz (h _ ?_ ?_)
  rotate_left
  · have hdt' := Obj.data_mapFields hdt (·.setIfInBounds 3 (f.elim Value.none fun f => rawInt f))
    have hg := Heap.get?_update_self (Obj.mapFields (·.setIfInBounds 3 (f.elim Value.none fun f => rawInt f))) htb (Obj.isFreed_of_fields hdt')
    obtain ⟨o', e', _⟩ := vg_some hg
    exact ⟨tb, ntb.1, ntb.2, ⟨otb, htb, ts, hdt⟩, ⟨o', e'⟩, fun b o nb q => sbut (Heap.SameBut.update ..) b o nb q⟩
  have hdt' := Obj.data_mapFields hdt (·.setIfInBounds 3 (f.elim Value.none fun f => rawInt f))
  refine ⟨fun b o q => sbut (Heap.SameBut.update ..) b o (fun z => by subst z; exact nomatch ntb.1.symm.trans q) (k0 _ _ q), ne, ob, vs, ?_, hc, hd, hs, h2, tb, _, _, h1, ntb, tne, Heap.get?_update_self _ htb (Obj.isFreed_of_fields hdt'), hdt', by simp [hsz]⟩
  rw [Heap.get?_update_other _ _ tne]; exact he
theorem cameBack {E : Value → Shared → Prop} (hf : env.frame = some L) (x : ExcAt hp hn (some v) c s.heap e) (h : ∀ h', ExcAt hp hn (some (rawInt L)) c h' e → OneOff hp hn s.heap h' → E (.ref e) { s with heap := h' }) : cameBackBy M A env E (.ref e) s := by
  have x' := x
  obtain ⟨k0, ne, ob, vs, he, hc, hd, hs, h2, tb, otb, ts, h1, ntb, tne, htb, hdt, h3⟩ := x
  unfold cameBackBy
  refine wpAny_bind (wpAny_field he hd h1 ?_)
  rw [if_neg (by simp)]
  rw [hf]
  exact setFl x' fun h' q o => h h' q o
theorem passes {α : Type} {Q : α → Shared → Prop} {E : Value → Shared → Prop} {what : String} (hf : env.frame = some L) (x : ExcAt hp hn (some v) c s.heap e) (h : ∀ h', ExcAt hp hn (some (rawInt L)) c h' e → OneOff hp hn s.heap h' → E (.ref e) { s with heap := h' }) : wpAny M A (PySem.passOn what (.ref e) env : Sem α) Q E s := by
  have x' := x
  obtain ⟨k0, ne, ob, vs, he, hc, hd, hs, h2, tb, otb, ts, h1, ntb, tne, htb, hdt, h3⟩ := x
  unfold PySem.passOn
  refine wpAny_bind (wpAny_field he hd h1 ?_)
  rw [if_neg (by simp)]
  rw [hf]
  exact wpAny_bind (setFl x' fun h' q o => wpAny_throw (h h' q o))
end
end OpA
namespace OpA
variable [Base]
theorem entry_unchain : entryFor table "proto.unchain" = some Builtin.«proto.unchain» := entryFor_of_fast (by kernel_rfl)
section
variable {prog : Program} {w : World} {A : Around} {B : Bad} {h : Heap} {env : Env} {mg mb : Str → Option Value}

theorem excAt_new {h h' : Heap} {e : Addr} (x : Heap.NewExc h h' e "IndexError") : ExcAt h h none .none h' e := by
  obtain ⟨ob, t, he, hc, hd⟩ := x.there
  exact ⟨Keep.of x.keeps, ⟨vg_none x.new, vg_none x.new⟩, ob, _, he, hc, hd, rfl, rfl, rfl⟩

/-- what stands handled when a step raises -/
def Handled (A : Around) (h : Heap) : Prop := A.handled = none ∨ ∃ e1 hp hn fl, A.handled = some (.ref e1) ∧ ExcAt hp hn fl .none h e1

theorem raiseWords {α : Type} {s : Shared} {msg : String} {Q : α → Shared → Prop} {E : Value → Shared → Prop} (hh : Handled A s.heap)
    (h : ∀ h' tk e c, ExcAt s.heap s.heap none c h' e → (A.handled = none → c = .none) → E (.ref e) { s with heap := h', toks := tk }) :
    wpAny (model prog w) A (raiseErrorWords "IndexError" msg : Sem α) Q E s := by
  rcases hh with hh | ⟨e1, hp, hn, fl, hh, x⟩
  · exact wpAny_raiseErrorWords plainExc_IndexError hh fun h' tk e q => h h' tk e _ (excAt_new q) fun _ => rfl
  · obtain ⟨k0, ne, ob1, vs1, he1, hc1, hd1, hs1, h21, _⟩ := x
    have hpx := plainExc_IndexError
    unfold raiseErrorWords
    refine wpAny_bind (wpAny_mkText (wpAny_bind ?_))
    unfold newExc newTuple
    refine wpAny_bind (wpAny_newObj_type ?_)
    refine wpAny_bind (m := firstArgMember _ _) (wpAny_of_eq (a := Value.none) (by simp only [firstArgMember, hpx.first]; rfl) ?_)
    rw [hpx.own]
    refine wpAny_newObj_type ?_
    unfold raiseNew
    refine wpAny_bind (wpAny_handled ?_)
    rw [hh]
    dsimp only
    generalize hH : (s.heap.push { cls := .type "tuple", data := .seq [Value.str (Str.ofString msg) s.toks].toArray }) = H
    have hks : ∀ b o, s.heap.get? b = some o → H.get? b = some o := fun b o q => by rw [← hH]; exact Heap.get?_push_of_some _ q
    have hsz : H.objs.size = s.heap.objs.size + 1 := by rw [← hH]; exact Heap.size_push ..
    have he1' : ∀ o, (H.push o).get? e1 = some ob1 := fun o => Heap.get?_push_of_some _ (hks _ _ he1)
    have hlt := Heap.lt_size he1
    have hne : e1 ≠ H.objs.size := by rw [hsz]; exact Nat.ne_of_lt (Nat.lt_succ_of_lt hlt)
    rw [if_pos (by simpa using hne)]
    refine wpAny_bind (wpAny_holding (wpAny_runValue (codeAny_builtin entry_unchain ?_)))
    show wpAny _ _ (field (.ref e1) 2 >>= _) _ _ _
    refine wpAny_bind (wpAny_field (he1' _) hd1 h21 ?_)
    rw [if_pos (show (Value.none == Value.none) = true from rfl)]
    refine wpAny_pure ?_
    show wpAny _ _ (setField (.ref H.objs.size) 2 (.ref e1) >>= fun _ => throw (Value.ref H.objs.size)) _ _ _
    refine wpAny_bind (wpAny_setField (Heap.get?_push_size _ rfl) rfl (by simp) (wpAny_throw (h _ _ _ (.ref e1) ?_ fun q => by rw [hh] at q; cases q)))
    refine ⟨fun b o q => sbut (Heap.SameBut.update ..) b o (fun z => ?_) (Keep.push _ _ _ (vg_pt (hks b) q)), ⟨vg_ge (by rw [hsz]; exact Nat.le_succ _), vg_ge (by rw [hsz]; exact Nat.le_succ _)⟩, _, _, Heap.get?_update_self _ (Heap.get?_push_size _ rfl) rfl, rfl, rfl, rfl, rfl, rfl⟩
    subst z
    have := vg_lt q
    rw [hsz] at this
    exact absurd this (by simp)

/-- past the end of a list, the error told as `raiseWords` tells it (an exception may be handled meanwhile, which the library's rule for this step leaves out) -/
theorem getItem_out {s : Shared} {l : Addr} {items : Array Value} {k : Int} {t : Tok} {Q : Value → Shared → Prop} {E : Value → Shared → Prop} (hh : Handled A s.heap) (hl : s.heap.IsList l items) (hout : (items.size : Int) ≤ k) (h0 : 0 ≤ k) (hhi : k < 2 ^ 63)
    (h2 : ∀ h' tk e c, ExcAt s.heap s.heap none c h' e → (A.handled = none → c = .none) → E (.ref e) { s with heap := h', toks := tk }) : wpAny (model prog w) A (getItem (.ref l) (.int k t)) Q E s := by
  have fin : ∀ {β : Type} {msg : String} {Q' : β → Shared → Prop}, wpAny (model prog w) A.in1 (raiseErrorWords "IndexError" msg : Sem β) Q' E s := fun {_ _ _} => raiseWords (A := A.in1) hh h2
  have fits := fitsIndex_of h0 hhi
  clear hhi
  have K := slot_list_getitem
  unfold getItem
  refine wpAny_holding (wpAny_bind (wpAny_sequenceKey hl.typeIs (by decide) ?_))
  refine wpAny_bind (wpAny_callSpecial?_slot (name := Str.ofString "__getitem__") hl.typeIs K (wpAny_call_entry K hl.typeIs entry_list_getitem ?_ (args_list_getitem _ _)))
  change wpAny _ _ (Builtin.List.listSubscript? (.int k t) >>= _) _ _ s
  refine wpAny_bind (wpAny_listSubscript_int fits ?_)
  clear fits
  obtain ⟨ob, hob, _, _, hdat⟩ := id hl
  obtain ⟨j, rfl⟩ : ∃ j : Nat, k = j := ⟨k.toNat, (Int.toNat_of_nonneg h0).symm⟩
  have gone : items[j]? = none := Array.getElem?_eq_none (Int.ofNat_le.mp hout)
  change wpAny _ _ (((seqItemAt l j) >>= fun r => pure (r.map fun y => (j, y))) >>= _) _ _ s
  exact wpAny_bind (wpAny_bind (wpAny_seqItemAt hob hdat (wpAny_pure (by rw [gone]; exact wpAny_bind (wpAny_rule (wpAny_bind fin))))))

/-- an item of a list of ints, or an IndexError -/
theorem item_or {s : Shared} {value slice : Expr} {l : Addr} {vs : List Value} {n k : Nat} {ns : List Int} {t : Tok} {Q : Value → Shared → Prop} {E : Value → Shared → Prop} (hh : Handled A s.heap) (hl : vg s.heap l = some (lstObj vs n)) (hI : IntsAre vs ns) (hn : ns.length ≤ 1000000) (hk : k ≤ 1000000)
    (h1 : ∀ x, ns[k]? = some x → ∀ t, Q (.int x t) s)
    (h2 : ns.length ≤ k → ∀ h' tk e c, ExcAt s.heap s.heap none c h' e → (A.handled = none → c = .none) → E (.ref e) { s with heap := h', toks := tk })
    (hs : ∀ o i, subscripted slice false o i = operate [o, i] (getItem o i) := by intro _ _; with_unfolding_all rfl) :
    wpAny (model prog w) A (subscriptTail value slice (.ref l) (.int (k : Int) t)) Q E s := by
  by_cases hlt : k < ns.length
  · obtain ⟨t', hv⟩ := ints_get hI hlt
    refine tail_any (isList_obj hl).typeIs slot_list_getitem.lookup (wpAny_getItem_list (isList_obj hl) (by omega) (by omega) (by simpa using hv) (h1 _ ?_ _)) (hs _ _)
    rw [List.getElem?_eq_getElem hlt]; rfl
  · refine tail_any (isList_obj hl).typeIs slot_list_getitem.lookup ?_ (hs _ _)
    exact getItem_out hh (isList_obj hl) (by simp only [List.size_toArray, hI.length]; omega) (by omega) (by omega) (h2 (by omega))
end
end OpA
namespace OpA
variable [Base]
section
variable {prog : Program} {w : World} {A : Around} {B : Bad} {h h₁ : Heap} {env : Env} {mg mb : Str → Option Value} {cm : Str → Option Value}

/-- the frames: the def's own on top, the others as the call's heap has them -/
def Outer (A : Around) (env : Env) (h : Heap) : Prop := env.frame = some env.locals ∧ Base.lo ≤ env.locals ∧ env.scope.kind = .function ∧ ∃ outer, A.frames = some (env :: outer) ∧ ∀ e ∈ outer, e.scope.kind ≠ .module ∧ ∃ L m, e.frame = some L ∧ Base.lo ≤ L ∧ h.Ns L m
theorem Outer.mark {v : Option Value} (x : Outer A env h) : Outer (A.mark v) env h := x
theorem Outer.ok {m : Str → Option Value} {hc : Heap} (x : Outer A env h) (s : At B env h h₁ m cm hc) : FrOk A hc := by
  obtain ⟨hf, hlo, hk, outer, e, q⟩ := x
  refine ⟨env :: outer, e, fun e' he' => ?_⟩
  rcases List.mem_cons.mp he' with rfl | he'
  · exact ⟨by rw [hk]; decide, _, _, hf, hlo, s.F.ns⟩
  · obtain ⟨a, L, m, b, c, d⟩ := q e' he'; exact ⟨a, L, m, b, c, nsK d s.K⟩
theorem Outer.ok' {m : Str → Option Value} {hc h' : Heap} (x : Outer A env h) (s : At B env h h₁ m cm hc) (k : Keep hc h') : FrOk A h' := (x.ok s).keep k

theorem fb_nofields {m : Str → Option Value} {hc : Heap} (F : Fm env m cm hc) : ∀ b, FB env b → ∃ o, hc.get? b = some o ∧ ∀ vs, o.data ≠ .fields vs := by
  rintro b (rfl | ⟨n, hn⟩)
  · obtain ⟨o, es, ep, e, d, _⟩ := F.ns; exact ⟨o, e, fun vs q => by rw [d] at q; cases q⟩
  · obtain ⟨o, e, d⟩ := F.cell n b hn; exact ⟨o, e, fun vs q => by rw [d] at q; cases q⟩

/-- what is handled stays so: hq, a heap that stays as it is -/
def HandledOn (A : Around) (hq h : Heap) : Prop := A.handled = none ∨ ∃ e1 hn fl, A.handled = some (.ref e1) ∧ ExcAt hq hn fl .none h e1
theorem HandledOn.of {hq hc : Heap} (x : HandledOn A hq hc) : Handled A hc := x.imp id fun ⟨e1, hn, fl, a, b⟩ => ⟨e1, hq, hn, fl, a, b⟩
theorem HandledOn.up {hq hc h' : Heap} (x : HandledOn A hq hc) (k : Keep hc h') : HandledOn A hq h' := x.imp id fun ⟨e1, hn, fl, a, b⟩ => ⟨e1, hn, fl, a, b.up k⟩
theorem HandledOn.upX {m : Str → Option Value} {hq hc h' : Heap} (x : HandledOn A hq hc) (F : Fm env m cm hc) (k : KeepX (FB env) hc h') (kq : Keep hq h') : HandledOn A hq h' := x.imp id fun ⟨e1, hn, fl, a, b⟩ => ⟨e1, hn, fl, a, b.upX _ k kq (fb_nofields F)⟩

/-- «while xs[k] == y: k += 1» -/
theorem skipW {s : Shared} {Q : Flow → Shared → Prop} {E : Value → Shared → Prop} {m : Str → Option Value} {xl xi xv : Str} {pl pi pv psub pcmp pi2 paug pos pc : Pos} {kc : Nat} {l : Addr} {vs : List Value} {n k : Nat} {ns : List Int} {y : Int} {hq : Heap}
    (O : Outer A env h) (st : At B env h h₁ m cm s.heap) (hH : HandledOn A hq s.heap) (hqh : Keep hq h)
    (kl : env.kindOf xl = some .local) (ki : env.kindOf xi = some .local) (kv : env.kindOf xv = some .local) (hli : xl ≠ xi) (hvi : xv ≠ xi)
    (hl : vg h l = some (lstObj vs n)) (hI : IntsAre vs ns) (hn : ns.length ≤ 1000) (hk : k ≤ ns.length)
    (ml : m xl = some (.ref l)) (mi : ∃ t, m xi = some (.int (k : Int) t)) (mv : ∃ t, m xv = some (.int y t))
    (h1 : ∀ m' k' h' tk, At B env h h₁ m' cm h' → KeepX (FB env) s.heap h' → k ≤ k' → k' < ns.length → ns.drop k' = (ns.drop k).dropWhile (· == y) → (∃ t, m' xi = some (.int (k' : Int) t)) → (∀ z, z ≠ xi → m' z = m z) → Q .next { s with heap := h', toks := tk })
    (h2 : ∀ m' hp h' tk e c, At B env h h₁ m' cm hp → KeepX (FB env) s.heap hp → (ns.drop k).dropWhile (· == y) = [] → (∃ t, m' xi = some (.int (ns.length : Int) t)) → (∀ z, z ≠ xi → m' z = m z) → ExcAt hp hp (some (rawInt env.locals)) c h' e → (A.handled = none → c = .none) →
      E (.ref e) { s with heap := h', toks := tk })
    (hdl : (xl == ("__debug__" : Str)) = false) (hdi : (xi == ("__debug__" : Str)) = false) (hdv : (xv == ("__debug__" : Str)) = false) :
    wpAny (model prog w) A (exec (.While (.Compare (.Subscript (.Name xl pl) (.Name xi pi) psub) [.Eq] [.Name xv pv] pcmp) [.AugAssign (.Name xi pi2) .Add (.Constant (.int 1) kc pc) paug] [] pos) env) Q E s := by
  refine wpAny_While (codeAny_whileLoop (fun d s' => ∃ h' tk m' k', s' = { s with heap := h', toks := tk } ∧ At B env h h₁ m' cm h' ∧ KeepX (FB env) s.heap h' ∧ HandledOn A hq h' ∧ k ≤ k' ∧ k' ≤ ns.length ∧ d = ns.length - k' ∧ (ns.drop k').dropWhile (· == y) = (ns.drop k).dropWhile (· == y) ∧
      (∃ t, m' xi = some (.int (k' : Int) t)) ∧ (∀ z, z ≠ xi → m' z = m z)) ?_ (ns.length - k) ⟨s.heap, s.toks, m, k, rfl, st, fun _ _ _ e => e, hH, Nat.le_refl _, hk, rfl, rfl, mi, fun _ _ => rfl⟩)
  rintro d s' ⟨h', tk, m', k', rfl, st', kx', hH', hk1, hk2, rfl, hdw, ⟨ti, mi'⟩, mo'⟩
  obtain ⟨tv, mv⟩ := mv
  have lxl : LdN env xl h' (.ref l) := st'.F.ld kl ((mo' xl hli).trans ml)
  have lxi : LdN env xi h' (.int (k' : Int) ti) := st'.F.ld ki mi'
  have lxv : LdN env xv h' (.int y tv) := st'.F.ld kv ((mo' xv hvi).trans mv)
  refine wpAny_isTrue_Compare1 (Subscript_ (wpAny_Name (lxl _ _ _ _ _ Keep.rfl' (wpAny_Name (lxi _ _ _ _ _ Keep.rfl' ?_) hdi)) hdl)) (by with_unfolding_all rfl)
  refine item_or hH'.of (st'.K _ _ hl) hI (by omega) (by omega) (fun x hx tx => ?_) (fun hout h₂ tk₂ e c hex hcn => ?_)
  · refine wpAny_Name (lxv _ _ _ _ _ Keep.rfl' (PyProof.Rows.eq_int (wpAny_truthy_bool ?_))) hdv
    have hlt : k' < ns.length := (List.getElem?_eq_some_iff.mp hx).1
    have hd : ns.drop k' = x :: ns.drop (k' + 1) := by
      rw [List.drop_eq_getElem_cons hlt]
      rw [List.getElem?_eq_getElem hlt] at hx; cases hx; rfl
    cases hxy : x == y with
    | true =>
      simp only [if_true]
      refine wpAny_execs_cons (wpAny_AugAssign_Name (lxi _ _ _ _ _ Keep.rfl' (wpAny_Constant_int (iadd_int (fm_store st'.F ki fun h₃ tk₃ F₃ kx₃ => wpAny_execs_nil ?_)))))
      have st₃ := st'.turn F₃ kx₃
      refine ⟨ns.length - (k' + 1), by omega, h₃, tk₃, _, k' + 1, rfl, st₃, kx'.tr kx₃, hH'.upX st'.F kx₃ (hqh.tr st₃.K), by omega, hlt, rfl, ?_, ⟨_, by show (if xi = xi then _ else _) = _; rw [if_pos rfl]; rfl⟩, fun z hz => ?_⟩
      · rw [← hdw, hd, List.dropWhile_cons, hxy]; rfl
      · show (if z = xi then _ else _) = _
        rw [if_neg hz]; exact mo' z hz
    | false =>
      simp only [Bool.false_eq_true, if_false]
      refine wpAny_execs_nil (h1 m' k' h' _ st' kx' hk1 hlt ?_ ⟨ti, mi'⟩ mo')
      rw [← hdw, hd, List.dropWhile_cons, hxy]; rfl
  · have hke : k' = ns.length := by omega
    subst hke
    obtain ⟨hf, hlo, hkf, outer, hfr, _⟩ := id O
    refine note0 ⟨outer, hfr⟩ (O.ok' st' hex.1) hf (fun b o q => vg_lt (hex.1 b o q)) hex fun h₃ hex₃ => ?_
    refine cameBack hf hex₃ fun h₄ hex₄ _ => h2 m' h' h₄ _ e c st' kx' ?_ ⟨ti, mi'⟩ mo' hex₄ hcn
    rw [← hdw]; simp
end
end OpA
namespace OpA
variable [Base]
section
variable {prog : Program} {w : World} {A : Around} {B : Bad} {h h₁ : Heap} {env : Env} {mg mb : Str → Option Value} {cm : Str → Option Value}

theorem At.h1n {m : Str → Option Value} {hc : Heap} (s : At B env h h₁ m cm hc) (b : Addr) (q : vg hc b = none) : vg h₁ b = none := by
  cases e : vg h₁ b with
  | none => rfl
  | some o => obtain ⟨o', e'⟩ := s.h1 b ⟨o, e⟩; exact nomatch q.symm.trans e'
/-- the lists stand -/
def KeepL (X : Bad) (h h' : Heap) : Prop := ∀ b vs n, ¬ X b → vg h b = some (lstObj vs n) → vg h' b = some (lstObj vs n)
theorem At.one {m : Str → Option Value} {hc h' : Heap} (s : At B env h h₁ m cm hc) (x : OneOff h h₁ hc h') : At B env h h₁ m cm h' ∧ ∀ b vs n, vg hc b = some (lstObj vs n) → vg h' b = some (lstObj vs n) := by
  obtain ⟨tb, n1, n2, ⟨o, e, ts, d⟩, l, k⟩ := x
  refine ⟨s.off (fun q => ?_) n1 n2 k l, fun b vs n q => k b _ (fun z => ?_) q⟩
  · obtain ⟨o', e', nd⟩ := fb_nofields s.F tb q
    rw [e] at e'; cases e'; exact nd ts d
  · subst z
    rw [gl q] at e; cases e; cases d
/-- «k += 1» -/
theorem inc {s : Shared} {Q : Flow → Shared → Prop} {E : Value → Shared → Prop} {m : Str → Option Value} {xi : Str} {p pc pos : Pos} {kc k : Nat} {t : Tok} (st : At B env h h₁ m cm s.heap) (ki : env.kindOf xi = some .local) (mi : m xi = some (.int (k : Int) t))
    (hq : ∀ h' tk t', At B env h h₁ (upd m xi (.int ((k + 1 : Nat) : Int) t')) cm h' → KeepX (FB env) s.heap h' → Q .next { s with heap := h', toks := tk }) :
    wpAny (model prog w) A (exec (.AugAssign (.Name xi p) .Add (.Constant (.int 1) kc pc) pos) env) Q E s :=
  wpAny_AugAssign_Name (st.F.ld ki mi _ _ s _ E Keep.rfl' (wpAny_Constant_int (iadd_int (fm_store st.F ki fun h₃ tk₃ F₃ kx₃ => hq h₃ tk₃ _ (st.turn F₃ kx₃) kx₃))))

/-- «q.append(y); k += 1; while xs[k] == y: k += 1» -/
theorem branch {s : Shared} {Q : Flow → Shared → Prop} {E : Value → Shared → Prop} {m : Str → Option Value} {xm xe xl xi : Str} {p1 p2 p3 p4 p5 p6 p7 p8 pl pi pv psub pcmp pi2 paug pos pc : Pos} {kc kc2 : Nat} {l q : Addr} {vs vq : List Value} {n nq k : Nat} {ns M : List Int} {y : Int}
    (O : Outer A env h) (st : At B env h h₁ m cm s.heap) (hA : A.handled = none) (hi : interactive env = false)
    (kl : env.kindOf xl = some .local) (ki : env.kindOf xi = some .local) (kv : env.kindOf xe = some .local) (km : env.kindOf xm = some .local) (hli : xl ≠ xi) (hvi : xe ≠ xi)
    (hqF : ¬ FB env q) (hqh : vg h q = none) (hqh1 : vg h₁ q = none)
    (hl : vg h l = some (lstObj vs n)) (hI : IntsAre vs ns) (hn : ns.length ≤ 1000) (hk : k + 1 ≤ ns.length) (hM : M.length ≤ 1000)
    (ml : m xl = some (.ref l)) (mm : m xm = some (.ref q)) {t : Tok} (mi : m xi = some (.int (k : Int) t)) {tv : Tok} (mv : m xe = some (.int y tv)) (eq : vg s.heap q = some (lstObj vq nq)) (iq : IntsAre vq M)
    (h1 : ∀ m' k' h' tk, At B env h h₁ m' cm h' → KeepX (fun b => FB env b ∨ b = q) s.heap h' → k + 1 ≤ k' → k' < ns.length → ns.drop k' = (ns.drop (k + 1)).dropWhile (· == y) → (∃ t, m' xi = some (.int (k' : Int) t)) → (∀ z, z ≠ xi → m' z = m z) → (∃ vs n, vg h' q = some (lstObj vs n) ∧ IntsAre vs (M ++ [y])) → Q .next { s with heap := h', toks := tk })
    (h2 : ∀ m' h' tk e c, At B env h h₁ m' cm h' → KeepL (fun b => FB env b ∨ b = q) s.heap h' → (ns.drop (k + 1)).dropWhile (· == y) = [] → (∃ t, m' xi = some (.int (ns.length : Int) t)) → (∀ z, z ≠ xi → m' z = m z) → (∃ vs n, vg h' q = some (lstObj vs n) ∧ IntsAre vs (M ++ [y])) →
      ExcAt h h₁ (some (rawInt env.locals)) c h' e → E (.ref e) { s with heap := h', toks := tk })
    (hdl : (xl == ("__debug__" : Str)) = false) (hdi : (xi == ("__debug__" : Str)) = false) (hdv : (xe == ("__debug__" : Str)) = false) (hdm : (xm == ("__debug__" : Str)) = false)
    (hsw : ∀ e, swapsWith (.Call (.Attribute (.Name xm p1) (Str.ofString "append") p2) [e] [] p4) none p5.line env = pure false := by intro _; rfl)
    (hbase : attributeBase (.Name xm p1) (Str.ofString "append") env (eval (.Name xm p1) env) = eval (.Name xm p1) env := by rfl) (hline : (p2.endLine == p4.line) = true := by rfl) :
    wpAny (model prog w) A (execs [.Expr (.Call (.Attribute (.Name xm p1) (Str.ofString "append") p2) [.Name xe p3] [] p4) p5, .AugAssign (.Name xi p6) .Add (.Constant (.int 1) kc p7) p8,
      .While (.Compare (.Subscript (.Name xl pl) (.Name xi pi) psub) [.Eq] [.Name xe pv] pcmp) [.AugAssign (.Name xi pi2) .Add (.Constant (.int 1) kc2 pc) paug] [] pos] env) Q E s := by
  have lm : LdN env xm s.heap (.ref q) := st.F.ld km mm
  have lv : LdN env xe s.heap (.int y tv) := st.F.ld kv mv
  refine wpAny_execs_cons (wpAny_Expr (wp_append lm eq (wpAny_Name (lv _ _ s _ E Keep.rfl' ?_) hdv) hdm hbase rfl hline) hi (hsw _))
  refine ⟨vq, nq, by rw [iq.length]; omega, eq, fun h₂ n₂ e₂ k₂ => ?_⟩
  have st₂ := st.off hqF hqh hqh1 k₂ ⟨_, e₂⟩
  have iq₂ : IntsAre (vq ++ [Value.int y tv]) (M ++ [y]) := iq.append (.cons _ _ .nil)
  dsimp only
  refine wpAny_execs_cons (inc st₂ ki mi fun h₃ tk₃ t₃ st₃ kx₃ => ?_)
  have e₃ := kx₃ q _ hqF e₂
  have kk₃ : KeepX (fun b => FB env b ∨ b = q) s.heap h₃ := fun b o nb e => kx₃ b o (fun z => nb (.inl z)) (k₂ b o (fun z => nb (.inr z)) e)
  have mo₃ : ∀ z, z ≠ xi → upd m xi (.int ((k + 1 : Nat) : Int) t₃) z = m z := fun z hz => by show (if z = xi then _ else _) = _; rw [if_neg hz]
  refine wpAny_execs_cons (skipW (hq := h) (vs := vs) (ns := ns) (k := k + 1) (y := y) O st₃ (.inl hA) Keep.rfl' kl ki kv hli hvi hl hI hn hk ((mo₃ xl hli).trans ml) ⟨t₃, by show (if xi = xi then _ else _) = _; rw [if_pos rfl]⟩ ⟨tv, (mo₃ xe hvi).trans mv⟩ ?_ ?_ hdl hdi hdv)
  · intro m' k' h' tk s' kx' hk1 hk2 hd mi' mo'
    refine wpAny_execs_nil (h1 m' k' h' tk s' (fun b o nb e => kx' b o (fun z => nb (.inl z)) (kk₃ b o nb e)) hk1 hk2 hd mi' (fun z hz => (mo' z hz).trans (mo₃ z hz)) ⟨_, _, kx' q _ hqF e₃, iq₂⟩)
  · intro m' hp h' tk e c s' kx' hd mi' mo' hex hc
    exact h2 m' h' tk e c (s'.more hex.1) (fun b vs n nb e => hex.1 b _ (kx' b _ (fun z => nb (.inl z)) (kk₃ b _ nb e))) hd mi' (fun z hz => (mo' z hz).trans (mo₃ z hz)) ⟨_, _, hex.1 _ _ (kx' q _ hqF e₃), iq₂⟩ (hex.base s'.K s'.h1n)

/-- «i += 1; try: while xs[i] == x: i += 1; finally: j += 1; while ys[j] == y: j += 1» -/
theorem branchEq {s : Shared} {Q : Flow → Shared → Prop} {E : Value → Shared → Prop} {m : Str → Option Value} {xe xa xl yl xi xj : Str} {p6 p7 p8 p9 p10 p11 pl pi pv psub pcmp pi2 paug pos pc ql qi qv qsub qcmp qi2 qaug qos qc pt : Pos} {kc kc2 kc3 kc4 : Nat} {l r : Addr} {vs ws : List Value} {n n' k j : Nat} {ns ms : List Int} {x y : Int}
    (O : Outer A env h) (st : At B env h h₁ m cm s.heap) (hA : A.handled = none)
    (kl : env.kindOf xl = some .local) (kl' : env.kindOf yl = some .local) (ki : env.kindOf xi = some .local) (kj : env.kindOf xj = some .local) (kv : env.kindOf xe = some .local) (kv' : env.kindOf xa = some .local)
    (hli : xl ≠ xi) (hvi : xe ≠ xi) (hlj : yl ≠ xj) (hvj : xa ≠ xj) (hli' : yl ≠ xi) (hvi' : xa ≠ xi) (hji : xj ≠ xi)
    (hl : vg h l = some (lstObj vs n)) (hI : IntsAre vs ns) (hn : ns.length ≤ 1000) (hk : k + 1 ≤ ns.length)
    (hr : vg h r = some (lstObj ws n')) (hJ : IntsAre ws ms) (hn' : ms.length ≤ 1000) (hj : j + 1 ≤ ms.length)
    (ml : m xl = some (.ref l)) (mr : m yl = some (.ref r)) {ti : Tok} (mi : m xi = some (.int (k : Int) ti)) {tj : Tok} (mj : m xj = some (.int (j : Int) tj)) {te : Tok} (me : m xe = some (.int x te)) {ta : Tok} (ma : m xa = some (.int y ta))
    (h1 : ∀ m' k' j' h' tk, At B env h h₁ m' cm h' → KeepX (FB env) s.heap h' → k + 1 ≤ k' → k' < ns.length → j + 1 ≤ j' → j' < ms.length → ns.drop k' = (ns.drop (k + 1)).dropWhile (· == x) → ms.drop j' = (ms.drop (j + 1)).dropWhile (· == y) →
      (∃ t, m' xi = some (.int (k' : Int) t)) → (∃ t, m' xj = some (.int (j' : Int) t)) → (∀ z, z ≠ xi → z ≠ xj → m' z = m z) → Q .next { s with heap := h', toks := tk })
    (h2 : ∀ m' k' j' h' tk e c, At B env h h₁ m' cm h' → KeepL (FB env) s.heap h' → k' ≤ ns.length → j' ≤ ms.length → ns.drop k' = (ns.drop (k + 1)).dropWhile (· == x) → ms.drop j' = (ms.drop (j + 1)).dropWhile (· == y) → (ns.drop k' = [] ∨ ms.drop j' = []) →
      (∃ t, m' xi = some (.int (k' : Int) t)) → (∃ t, m' xj = some (.int (j' : Int) t)) → (∀ z, z ≠ xi → z ≠ xj → m' z = m z) → ExcAt h h₁ (some (rawInt env.locals)) c h' e → E (.ref e) { s with heap := h', toks := tk })
    (hdl : (xl == ("__debug__" : Str)) = false) (hdl' : (yl == ("__debug__" : Str)) = false) (hdi : (xi == ("__debug__" : Str)) = false) (hdj : (xj == ("__debug__" : Str)) = false) (hdv : (xe == ("__debug__" : Str)) = false) (hdv' : (xa == ("__debug__" : Str)) = false) :
    wpAny (model prog w) A (execs [.AugAssign (.Name xi p6) .Add (.Constant (.int 1) kc p7) p8,
      .Try [.While (.Compare (.Subscript (.Name xl pl) (.Name xi pi) psub) [.Eq] [.Name xe pv] pcmp) [.AugAssign (.Name xi pi2) .Add (.Constant (.int 1) kc2 pc) paug] [] pos] [] []
        [.AugAssign (.Name xj p9) .Add (.Constant (.int 1) kc3 p10) p11, .While (.Compare (.Subscript (.Name yl ql) (.Name xj qi) qsub) [.Eq] [.Name xa qv] qcmp) [.AugAssign (.Name xj qi2) .Add (.Constant (.int 1) kc4 qc) qaug] [] qos] pt] env) Q E s := by
  have hf := O.1
  refine wpAny_execs_cons (inc st ki mi fun h₃ tk₃ t₃ st₃ kx₃ => ?_)
  have mo₃ : ∀ z, z ≠ xi → upd m xi (.int ((k + 1 : Nat) : Int) t₃) z = m z := fun z hz => by show (if z = xi then _ else _) = _; rw [if_neg hz]
  dsimp only
  refine wpAny_execs_cons (wpAny_Try_finally (wpAny_execs_cons (skipW (hq := h) (vs := vs) (ns := ns) (k := k + 1) (y := x) O st₃ (.inl hA) Keep.rfl' kl ki kv hli hvi hl hI hn hk ((mo₃ xl hli).trans ml) ⟨t₃, by show (if xi = xi then _ else _) = _; rw [if_pos rfl]⟩ ⟨te, (mo₃ xe hvi).trans me⟩ ?_ ?_ hdl hdi hdv)))
  · -- the first loop ends
    intro m' k' h' tk s' kx' hk1 hk2 hd mi' mo'
    refine wpAny_execs_nil (wpAny_execs_nil ?_)
    have mo4 : ∀ z, z ≠ xi → m' z = m z := fun z hz => (mo' z hz).trans (mo₃ z hz)
    refine wpAny_execs_cons (inc s' kj ((mo4 xj hji).trans mj) fun h₅ tk₅ t₅ st₅ kx₅ => ?_)
    have mo₅ : ∀ z, z ≠ xj → upd m' xj (.int ((j + 1 : Nat) : Int) t₅) z = m' z := fun z hz => by show (if z = xj then _ else _) = _; rw [if_neg hz]
    dsimp only
    refine wpAny_execs_cons (skipW (hq := h) (vs := ws) (ns := ms) (k := j + 1) (y := y) O st₅ (.inl hA) Keep.rfl' kl' kj kv' hlj hvj hr hJ hn' hj ((mo₅ yl hlj).trans ((mo4 yl hli').trans mr)) ⟨t₅, by show (if xj = xj then _ else _) = _; rw [if_pos rfl]⟩ ⟨ta, (mo₅ xa hvj).trans ((mo4 xa hvi').trans ma)⟩ ?_ ?_ hdl' hdj hdv')
    · intro m6 j' h6 tk6 s6 kx6 hj1 hj2 hd6 mj6 mo6
      refine wpAny_execs_nil (wpAny_execs_nil (h1 m6 k' j' h6 tk6 s6 (((kx₃.tr kx').tr kx₅).tr kx6) hk1 hk2 hj1 hj2 hd hd6 ?_ mj6 fun z hz hz' => (mo6 z hz').trans ((mo₅ z hz').trans (mo4 z hz))))
      obtain ⟨t, q⟩ := mi'
      exact ⟨t, (mo6 xi (Ne.symm hji)).trans ((mo₅ xi (Ne.symm hji)).trans q)⟩
    · intro m6 hp h6 tk6 e c s6 kx6 hd6 mj6 mo6 hex hc
      refine note1 hf hex (cameBack hf hex fun h7 hex7 of7 => ?_)
      obtain ⟨t, q⟩ := mi'
      exact h2 m6 k' ms.length h7 tk6 e c (s6.more hex7.1) (fun b vs n nb e => hex7.1 b _ ((((kx₃.tr kx').tr kx₅).tr kx6) b _ nb e)) (by omega) (Nat.le_refl _) hd (by rw [hd6]; simp) (.inr (by simp)) ⟨t, (mo6 xi (Ne.symm hji)).trans ((mo₅ xi (Ne.symm hji)).trans q)⟩ mj6 (fun z hz hz' => (mo6 z hz').trans ((mo₅ z hz').trans (mo4 z hz))) (hex7.base s6.K s6.h1n)
  · -- the first loop raises
    intro m' hp h' tk e c s' kx' hd mi' mo' hex hc
    have mo4 : ∀ z, z ≠ xi → m' z = m z := fun z hz => (mo' z hz).trans (mo₃ z hz)
    cases hc hA
    refine note1 hf hex ⟨(by intro z; cases z), note1 hf hex (setFl hex fun h4 hex4 _ => ?_)⟩
    -- the finally under e
    have s4 : At B env h h₁ m' cm h4 := s'.more hex4.1
    have O4 : Outer (A.mark (some (.ref e))) env h := O.mark
    refine wpAny_execs_cons (inc s4 kj ((mo4 xj hji).trans mj) fun h₅ tk₅ t₅ st₅ kx₅ => ?_)
    have mo₅ : ∀ z, z ≠ xj → upd m' xj (.int ((j + 1 : Nat) : Int) t₅) z = m' z := fun z hz => by show (if z = xj then _ else _) = _; rw [if_neg hz]
    have kx4 : KeepX (FB env) s.heap h4 := (kx₃.tr kx').tr (keepX_of hex4.1)
    have hex4h : ExcAt h h₁ (some Value.none) .none h4 e := hex4.base s'.K s'.h1n
    have hex5 : ExcAt h h₁ (some Value.none) .none h₅ e := hex4h.upX _ kx₅ st₅.K (fb_nofields s4.F)
    dsimp only
    have hH5 : HandledOn (A.mark (some (.ref e))) h h₅ := .inr ⟨e, _, _, rfl, hex5⟩
    refine wpAny_execs_cons (skipW (hq := h) (vs := ws) (ns := ms) (k := j + 1) (y := y) O4 st₅ hH5 Keep.rfl' kl' kj kv' hlj hvj hr hJ hn' hj ((mo₅ yl hlj).trans ((mo4 yl hli').trans mr)) ⟨t₅, by show (if xj = xj then _ else _) = _; rw [if_pos rfl]⟩ ⟨ta, (mo₅ xa hvj).trans ((mo4 xa hvi').trans ma)⟩ ?_ ?_ hdl' hdj hdv')
    · intro m6 j' h6 tk6 s6 kx6 hj1 hj2 hd6 mj6 mo6
      have hex6 : ExcAt h h₁ (some Value.none) .none h6 e := hex5.upX _ kx6 s6.K (fb_nofields st₅.F)
      refine wpAny_execs_nil (passes hf hex6 fun h7 hex7 of7 => ?_)
      obtain ⟨s7, k7⟩ := s6.one of7
      obtain ⟨t, q⟩ := mi'
      exact h2 m6 ns.length j' h7 tk6 e .none s7 (fun b vs n nb e => k7 b _ _ (((kx4.tr kx₅).tr kx6) b _ nb e)) (Nat.le_refl _) (by omega) (by rw [hd]; simp) hd6 (.inl (by simp)) ⟨t, (mo6 xi (Ne.symm hji)).trans ((mo₅ xi (Ne.symm hji)).trans q)⟩ mj6
        (fun z hz hz' => (mo6 z hz').trans ((mo₅ z hz').trans (mo4 z hz))) hex7
    · intro m6 hp6 h6 tk6 e6 c6 s6 kx6 hd6 mj6 mo6 hex hc6
      refine note1 hf hex (cameBack hf hex fun h7 hex7 of7 => ?_)
      obtain ⟨t, q⟩ := mi'
      exact h2 m6 ns.length ms.length h7 tk6 e6 c6 (s6.more hex7.1) (fun b vs n nb e => hex7.1 b _ (((kx4.tr kx₅).tr kx6) b _ nb e)) (Nat.le_refl _) (Nat.le_refl _) (by rw [hd]; simp) (by rw [hd6]; simp) (.inl (by simp)) ⟨t, (mo6 xi (Ne.symm hji)).trans ((mo₅ xi (Ne.symm hji)).trans q)⟩ mj6
        (fun z hz hz' => (mo6 z hz').trans ((mo₅ z hz').trans (mo4 z hz))) (hex7.base s6.K s6.h1n)
end
end OpA
namespace OpA

theorem dropWhile_len (p : Int → Bool) (l : List Int) : (l.dropWhile p).length ≤ l.length := (List.dropWhile_sublist p).length_le
def sld : List Int → List Int → List Int × List Int
  | [], ys => ([], ys)
  | x :: xs, [] => (x :: xs, [])
  | x :: xs, y :: ys =>
    if x < y then (x :: (sld (xs.dropWhile (· == x)) (y :: ys)).1, (sld (xs.dropWhile (· == x)) (y :: ys)).2)
    else if y < x then ((sld (x :: xs) (ys.dropWhile (· == y))).1, y :: (sld (x :: xs) (ys.dropWhile (· == y))).2)
    else sld (xs.dropWhile (· == x)) (ys.dropWhile (· == y))
termination_by xs ys => xs.length + ys.length
decreasing_by
  all_goals
    have h1 := dropWhile_len (· == x) xs
    have h2 := dropWhile_len (· == y) ys
    simp only [List.length_cons]
    omega
theorem sld_nil (ys : List Int) : sld [] ys = ([], ys) := by rw [sld]
theorem sld_nil' (xs : List Int) : sld xs [] = (xs, []) := by cases xs <;> rw [sld]
theorem sld_lt {x y : Int} (xs ys : List Int) (h : x < y) : sld (x :: xs) (y :: ys) = (x :: (sld (xs.dropWhile (· == x)) (y :: ys)).1, (sld (xs.dropWhile (· == x)) (y :: ys)).2) := by rw [sld, if_pos h]
theorem sld_gt {x y : Int} (xs ys : List Int) (h : y < x) : sld (x :: xs) (y :: ys) = ((sld (x :: xs) (ys.dropWhile (· == y))).1, y :: (sld (x :: xs) (ys.dropWhile (· == y))).2) := by rw [sld, if_neg (by omega), if_pos h]
theorem sld_eq {x y : Int} (xs ys : List Int) (h : ¬ x < y) (h' : ¬ y < x) : sld (x :: xs) (y :: ys) = sld (xs.dropWhile (· == x)) (ys.dropWhile (· == y)) := by rw [sld, if_neg h, if_neg h']

theorem pick_from {α : Type} (xs : List α) (a : Nat) : pickL xs (some (a : Int)) none none = xs.drop a := by
  unfold pickL
  rw [sliceBounds_plain]
  simp only [Option.elim, clipAt_nat, sliceRange_one]
  have := pick_run xs.toArray (min a xs.length) (xs.length - min a xs.length)
  simp only [List.getElem?_toArray] at this
  rw [this]
  rcases Nat.le_total a xs.length with h | h
  · rw [Nat.min_eq_left h, List.take_of_length_le (by simp)]
  · rw [Nat.min_eq_right h, List.drop_of_length_le (by simp), List.drop_of_length_le (by simpa using h)]; simp
theorem pick_upto {α : Type} (xs : List α) (b : Nat) : pickL xs none (some (b : Int)) none = xs.take b := by
  unfold pickL
  rw [sliceBounds_plain]
  simp only [Option.elim, clipAt_nat, sliceRange_one]
  have := pick_run xs.toArray 0 (min b xs.length - 0)
  simp only [List.getElem?_toArray] at this
  rw [this]
  simp only [List.drop_zero, Nat.sub_zero]
  rcases Nat.le_total b xs.length with h | h
  · rw [Nat.min_eq_left h]
  · rw [Nat.min_eq_right h, List.take_of_length_le (by simp), List.take_of_length_le (by simpa using h)]

variable [Base]
section
variable {prog : Program} {w : World} {A : Around} {B : Bad} {h h₁ : Heap} {env : Env} {mg mb : Str → Option Value} {cm : Str → Option Value}

/-- within sorted_list_difference -/
structure Sd (B : Bad) (env : Env) (h h₁ : Heap) (cm : Str → Option Value) (l1 l2 q1 q2 : Addr) (hc : Heap) (m : Str → Option Value) (i j : Nat) (M U : List Int) : Prop where
  s : At B env h h₁ m cm hc
  mx : m (Str.ofString "expected") = some (.ref l1)
  ma : m (Str.ofString "actual") = some (.ref l2)
  mm : m (Str.ofString "missing") = some (.ref q1)
  mu : m (Str.ofString "unexpected") = some (.ref q2)
  mi : ∃ t, m (Str.ofString "i") = some (.int (i : Int) t)
  mj : ∃ t, m (Str.ofString "j") = some (.int (j : Int) t)
  em : ∃ vs n, vg hc q1 = some (lstObj vs n) ∧ IntsAre vs M
  eu : ∃ vs n, vg hc q2 = some (lstObj vs n) ∧ IntsAre vs U
def SInv (xs ys : List Int) (i j : Nat) (M U : List Int) : Prop :=
  i ≤ xs.length ∧ j ≤ ys.length ∧ M.length ≤ i ∧ U.length ≤ j ∧ M ++ (sld (xs.drop i) (ys.drop j)).1 = (sld xs ys).1 ∧ U ++ (sld (xs.drop i) (ys.drop j)).2 = (sld xs ys).2
def SFin (xs ys : List Int) (i j : Nat) (M U : List Int) : Prop :=
  i ≤ xs.length ∧ j ≤ ys.length ∧ M.length ≤ i ∧ U.length ≤ j ∧ M ++ xs.drop i = (sld xs ys).1 ∧ U ++ ys.drop j = (sld xs ys).2

theorem Sd.of {l1 l2 q1 q2 : Addr} {hc h' : Heap} {m : Str → Option Value} {i j : Nat} {M U : List Int} (x : Sd B env h h₁ cm l1 l2 q1 q2 hc m i j M U) (a : At B env h h₁ m cm h') (k : ∀ b vs n, vg hc b = some (lstObj vs n) → vg h' b = some (lstObj vs n)) : Sd B env h h₁ cm l1 l2 q1 q2 h' m i j M U :=
  ⟨a, x.mx, x.ma, x.mm, x.mu, x.mi, x.mj, let ⟨vs, n, e, q⟩ := x.em; ⟨vs, n, k _ _ _ e, q⟩, let ⟨vs, n, e, q⟩ := x.eu; ⟨vs, n, k _ _ _ e, q⟩⟩
theorem Sd.more {l1 l2 q1 q2 : Addr} {hc h' : Heap} {m : Str → Option Value} {i j : Nat} {M U : List Int} (x : Sd B env h h₁ cm l1 l2 q1 q2 hc m i j M U) (k : Keep hc h') : Sd B env h h₁ cm l1 l2 q1 q2 h' m i j M U := x.of (x.s.more k) fun b vs n e => k _ _ e

/-- what is known of the def's own frame and of the lists, throughout -/
structure SdC (A : Around) (B : Bad) (env : Env) (h h₁ : Heap) (xs ys : List Int) (l1 l2 q1 q2 : Addr) : Prop where
  O : Outer A env h
  kl : ∀ y : String, y ∈ ["expected", "actual", "i", "j", "missing", "unexpected", "e", "a"] → env.kindOf (Str.ofString y) = some .local
  hi : interactive env = false
  r1 : Rep (BF B env) h (.ref l1) (dL xs)
  r2 : Rep (BF B env) h (.ref l2) (dL ys)
  n1 : xs.length ≤ 400
  n2 : ys.length ≤ 400
  f1 : ¬ FB env q1
  f2 : ¬ FB env q2
  h1 : vg h q1 = none
  h2 : vg h q2 = none
  h11 : vg h₁ q1 = none
  h12 : vg h₁ q2 = none
  ne : q1 ≠ q2
  b1 : BF B env q1
  b2 : BF B env q2

/-- «q.extend(xs[k:])» -/
theorem extendFrom {s : Shared} {Q : Flow → Shared → Prop} {E : Value → Shared → Prop} {m : Str → Option Value} {xm xl xi : Str} {p1 p2 p3 p4 p5 pi psl psub : Pos} {l q : Addr} {vq : List Value} {nq k : Nat} {ns M : List Int} {t : Tok}
    (st : At B env h h₁ m cm s.heap) (hi : interactive env = false) (kl : env.kindOf xl = some .local) (ki : env.kindOf xi = some .local) (km : env.kindOf xm = some .local)
    (hqF : ¬ FB env q) (hqB : BF B env q) (hqh : vg h q = none) (hqh1 : vg h₁ q = none) (hl : Rep (BF B env) h (.ref l) (dL ns)) (hn : ns.length ≤ 400) (hM : M.length ≤ 400)
    (ml : m xl = some (.ref l)) (mm : m xm = some (.ref q)) (mi : m xi = some (.int (k : Int) t)) (eq : vg s.heap q = some (lstObj vq nq)) (iq : IntsAre vq M)
    (h1 : ∀ h' tk, At B env h h₁ m cm h' → KeepX (fun b => b = q) s.heap h' → (∃ vs n, vg h' q = some (lstObj vs n) ∧ IntsAre vs (M ++ ns.drop k)) → Q .next { s with heap := h', toks := tk })
    (hdl : (xl == ("__debug__" : Str)) = false) (hdi : (xi == ("__debug__" : Str)) = false) (hdm : (xm == ("__debug__" : Str)) = false)
    (hsw : ∀ e, swapsWith (.Call (.Attribute (.Name xm p1) (Str.ofString "extend") p2) [e] [] p4) none p5.line env = pure false := by intro _; rfl)
    (hbase : attributeBase (.Name xm p1) (Str.ofString "extend") env (eval (.Name xm p1) env) = eval (.Name xm p1) env := by rfl) (hline : (p2.endLine == p4.line) = true := by rfl) :
    wpAny (model prog w) A (exec (.Expr (.Call (.Attribute (.Name xm p1) (Str.ofString "extend") p2) [.Subscript (.Name xl p3) (.Slice (some (.Name xi pi)) none none psl) psub] [] p4) p5) env) Q E s := by
  have lm : LdN env xm s.heap (.ref q) := st.F.ld km mm
  have lx : LdN env xl s.heap (.ref l) := st.F.ld kl ml
  have lk : LdN env xi s.heap (.int (k : Int) t) := st.F.ld ki mi
  refine wpAny_Expr (wp_extend lm eq (ev_slice (ev_name lx (hl.keep st.K) hdl) (evP_some (ev_name lk (.int _ _) hdi)) evP_none evP_none (by simp) (by simp; omega) (by intro o i; exact ⟨_, by with_unfolding_all rfl⟩) s _ E Keep.rfl' st.live fun v h₂ tk₂ k₂ r₂ => ?_) hdm hbase rfl hline) hi (hsw _)
  obtain ⟨b, ws, nb, rfl, nbb, eb, rb⟩ := r₂.list_inv
  rw [pick_from, ← List.map_drop] at rb
  have iw := rb.ints
  refine ⟨b, vq, ws, nq, nb, rfl, ?_, k₂ _ _ eq, eb, fun h₃ n₃ e₃ k₃ => ?_⟩
  · rw [iq.length, iw.length, List.length_drop]; omega
  · exact h1 h₃ tk₂ ((st.more k₂).off hqF hqh hqh1 k₃ ⟨_, e₃⟩) (fun b o nb e => k₃ b o nb (k₂ b o e)) ⟨_, _, e₃, iq.append iw⟩

/-- the handler -/
theorem caught {s : Shared} {Q : Flow → Shared → Prop} {E : Value → Shared → Prop} {xs ys : List Int} {l1 l2 q1 q2 : Addr} {m : Str → Option Value} {i j : Nat} {M U : List Int} {e : Addr} {c : Value}
    {pt p1 p2 p3 p4 p5 pi psl psub r1 r2 r3 r4 r5 ri rsl rsub pb ph : Pos}
    (C : SdC A B env h h₁ xs ys l1 l2 q1 q2) (G : Gx mg mb h) (hg : env.globals = mainGlobals) (hbn : env.builtins = builtinsNs) (hx : env.kindOf (Str.ofString "IndexError") = some .globalImplicit)
    (S : Sd B env h h₁ cm l1 l2 q1 q2 s.heap m i j M U) (hex : ExcAt h h₁ (some (rawInt env.locals)) c s.heap e) (hfin : SFin xs ys i j M U)
    (h1 : ∀ h' tk, Sd B env h h₁ cm l1 l2 q1 q2 h' m i j (sld xs ys).1 (sld xs ys).2 → Q .brk { s with heap := h', toks := tk })
    (hb1 : attributeBase (.Name (Str.ofString "missing") p1) (Str.ofString "extend") env (eval (.Name (Str.ofString "missing") p1) env) = eval (.Name (Str.ofString "missing") p1) env := by rfl) (hl1 : (p2.endLine == p4.line) = true := by rfl)
    (hb2 : attributeBase (.Name (Str.ofString "unexpected") r1) (Str.ofString "extend") env (eval (.Name (Str.ofString "unexpected") r1) env) = eval (.Name (Str.ofString "unexpected") r1) env := by rfl) (hl2 : (r2.endLine == r4.line) = true := by rfl) :
    wpAny (model prog w) A (setFlight (.ref e) none) (fun _ s₃ => wpAny (model prog w) A (handleBy (.ref e) env [.ExceptHandler (some (.Name (Str.ofString "IndexError") pt)) none
      [.Expr (.Call (.Attribute (.Name (Str.ofString "missing") p1) (Str.ofString "extend") p2) [.Subscript (.Name (Str.ofString "expected") p3) (.Slice (some (.Name (Str.ofString "i") pi)) none none psl) psub] [] p4) p5,
       .Expr (.Call (.Attribute (.Name (Str.ofString "unexpected") r1) (Str.ofString "extend") r2) [.Subscript (.Name (Str.ofString "actual") r3) (.Slice (some (.Name (Str.ofString "j") ri)) none none rsl) rsub] [] r4) r5,
       .Break pb] ph]) Q E s₃) E s := by
  obtain ⟨f1, f2, f3, f4, f5, f6⟩ := hfin
  refine setFl hex fun h₂ hex₂ of₂ => ?_
  obtain ⟨a₂, kl₂⟩ := S.s.one of₂
  have S₂ := S.of a₂ kl₂
  refine wpAny_handleBy_builtin (T := "IndexError") (X := "IndexError") (b := true) F.isExc_IndexError F.notTuple_IndexError F.self_IndexError ?_
  have lI : LdN env (Str.ofString "IndexError") h₂ (.type "IndexError") := (G.keep S₂.s.K).bin G.bIndex hg hbn S₂.s.F.kind hx
  refine wpAny_Name (lI _ _ _ _ _ Keep.rfl' ⟨rfl, ExcAt.typeIs (s := { s with heap := h₂ }) hex₂, ?_⟩)
  simp only [if_true]
  refine setFl (s := { s with heap := h₂ }) hex₂ fun h₃ hex₃ of₃ => ?_
  obtain ⟨a₃, kl₃⟩ := S₂.s.one of₃
  have S₃ := S₂.of a₃ kl₃
  obtain ⟨ti, mi⟩ := S₃.mi
  obtain ⟨tj, mj⟩ := S₃.mj
  obtain ⟨vm, nm, em, im⟩ := S₃.em
  have n1 := C.n1
  have n2 := C.n2
  refine wpAny_execs_cons (extendFrom (k := i) (ns := xs) (M := M) S₃.s C.hi (C.kl "expected" (by simp)) (C.kl "i" (by simp)) (C.kl "missing" (by simp)) C.f1 C.b1 C.h1 C.h11 C.r1 C.n1 (by omega) S₃.mx S₃.mm mi em im (fun h₄ tk₄ s₄ k₄ x₄ => ?_) (by decide) (by decide) (by decide) (fun _ => rfl) hb1 hl1)
  obtain ⟨vu, nu, eu, iu⟩ := S₃.eu
  refine wpAny_execs_cons (extendFrom (k := j) (ns := ys) (M := U) s₄ C.hi (C.kl "actual" (by simp)) (C.kl "j" (by simp)) (C.kl "unexpected" (by simp)) C.f2 C.b2 C.h2 C.h12 C.r2 C.n2 (by omega) S₃.ma S₃.mu mj (k₄ _ _ (Ne.symm C.ne) eu) iu (fun h₅ tk₅ s₅ k₅ x₅ => ?_) (by decide) (by decide) (by decide) (fun _ => rfl) hb2 hl2)
  refine wpAny_execs_cons (wpAny_Break (h1 h₅ tk₅ ⟨s₅, S₃.mx, S₃.ma, S₃.mm, S₃.mu, S₃.mi, S₃.mj, ?_, ?_⟩))
  · obtain ⟨vs, n, e, q⟩ := x₄
    rw [f5] at q
    exact ⟨vs, n, k₅ _ _ C.ne e, q⟩
  · rw [f6] at x₅; exact x₅
end
end OpA
namespace OpA

theorem inv_left {xs ys : List Int} {i j : Nat} {M U : List Int} (hi : xs.drop i = []) (I : SInv xs ys i j M U) : SFin xs ys i j M U := by
  obtain ⟨a, b, c, d, e, f⟩ := I
  rw [hi, sld_nil] at e f
  exact ⟨a, b, c, d, by rw [hi]; exact e, f⟩
theorem inv_right {xs ys : List Int} {i j : Nat} {M U : List Int} (hj : ys.drop j = []) (I : SInv xs ys i j M U) : SFin xs ys i j M U := by
  obtain ⟨a, b, c, d, e, f⟩ := I
  rw [hj, sld_nil'] at e f
  exact ⟨a, b, c, d, e, by rw [hj]; exact f⟩
theorem drop_at {xs : List Int} {i : Nat} {x : Int} (hx : xs[i]? = some x) : xs.drop i = x :: xs.drop (i + 1) := by
  have hlt : i < xs.length := (List.getElem?_eq_some_iff.mp hx).1
  rw [List.drop_eq_getElem_cons hlt]
  rw [List.getElem?_eq_getElem hlt] at hx; cases hx; rfl
theorem inv_lt {xs ys : List Int} {i j k' : Nat} {M U : List Int} {x y : Int} (hx : xs[i]? = some x) (hy : ys[j]? = some y) (h : x < y) (I : SInv xs ys i j M U) (h1 : i + 1 ≤ k') (h2 : k' ≤ xs.length) (hd : xs.drop k' = (xs.drop (i + 1)).dropWhile (· == x)) : SInv xs ys k' j (M ++ [x]) U := by
  obtain ⟨a, b, c, d, e, f⟩ := I
  rw [drop_at hx, drop_at hy, sld_lt _ _ h, ← hd, ← drop_at hy] at e f
  exact ⟨h2, b, by simp; omega, d, by simpa using e, f⟩
theorem inv_gt {xs ys : List Int} {i j k' : Nat} {M U : List Int} {x y : Int} (hx : xs[i]? = some x) (hy : ys[j]? = some y) (h : y < x) (I : SInv xs ys i j M U) (h1 : j + 1 ≤ k') (h2 : k' ≤ ys.length) (hd : ys.drop k' = (ys.drop (j + 1)).dropWhile (· == y)) : SInv xs ys i k' M (U ++ [y]) := by
  obtain ⟨a, b, c, d, e, f⟩ := I
  rw [drop_at hx, drop_at hy, sld_gt _ _ h, ← hd, ← drop_at hx] at e f
  exact ⟨a, h2, c, by simp; omega, e, by simpa using f⟩
theorem inv_eq {xs ys : List Int} {i j k' j' : Nat} {M U : List Int} {x y : Int} (hx : xs[i]? = some x) (hy : ys[j]? = some y) (h : ¬ x < y) (h' : ¬ y < x) (I : SInv xs ys i j M U) (h1 : i + 1 ≤ k') (h2 : k' ≤ xs.length) (h3 : j + 1 ≤ j') (h4 : j' ≤ ys.length)
    (hd : xs.drop k' = (xs.drop (i + 1)).dropWhile (· == x)) (hd' : ys.drop j' = (ys.drop (j + 1)).dropWhile (· == y)) : SInv xs ys k' j' M U := by
  obtain ⟨a, b, c, d, e, f⟩ := I
  rw [drop_at hx, drop_at hy, sld_eq _ _ h h', ← hd, ← hd'] at e f
  exact ⟨h2, h4, by omega, by omega, e, f⟩

variable [Base]
section
variable {prog : Program} {w : World} {A : Around} {B : Bad} {h h₁ : Heap} {env : Env} {mg mb : Str → Option Value} {cm : Str → Option Value}

theorem Sd.turn {l1 l2 q1 q2 : Addr} {hc h' : Heap} {m m' : Str → Option Value} {i j i' j' : Nat} {M U : List Int} (x : Sd B env h h₁ cm l1 l2 q1 q2 hc m i j M U) (a : At B env h h₁ m' cm h') (hm : ∀ z, z ≠ Str.ofString "i" → z ≠ Str.ofString "j" → z ≠ Str.ofString "e" → z ≠ Str.ofString "a" → m' z = m z)
    (mi : ∃ t, m' (Str.ofString "i") = some (.int (i' : Int) t)) (mj : ∃ t, m' (Str.ofString "j") = some (.int (j' : Int) t))
    (k : ∀ b vs n, vg hc b = some (lstObj vs n) → vg h' b = some (lstObj vs n)) : Sd B env h h₁ cm l1 l2 q1 q2 h' m' i' j' M U :=
  ⟨a, (hm _ (by decide) (by decide) (by decide) (by decide)).trans x.mx, (hm _ (by decide) (by decide) (by decide) (by decide)).trans x.ma, (hm _ (by decide) (by decide) (by decide) (by decide)).trans x.mm, (hm _ (by decide) (by decide) (by decide) (by decide)).trans x.mu, mi, mj,
    let ⟨vs, n, e, q⟩ := x.em; ⟨vs, n, k _ _ _ e, q⟩, let ⟨vs, n, e, q⟩ := x.eu; ⟨vs, n, k _ _ _ e, q⟩⟩
theorem fb_nolist {m : Str → Option Value} {hc : Heap} (F : Fm env m cm hc) {b : Addr} {vs : List Value} {n : Nat} (e : vg hc b = some (lstObj vs n)) : ¬ FB env b := by
  rintro (rfl | ⟨x, hx⟩)
  · obtain ⟨o, es, ep, e', d, _⟩ := F.ns; rw [gl e] at e'; cases e'; cases d
  · obtain ⟨o, e', d⟩ := F.cell x b hx; rw [gl e] at e'; cases e'; cases d

theorem blk_two {R : Flow → Heap → Prop} {m : Str → Option Value} {hc : Heap} {x y : Str} {p1 p2 p3 pos : Pos} {c : Int} {k : Nat} (F : Fm env m cm hc) (kx : env.kindOf x = some .local) (ky : env.kindOf y = some .local)
    (z : ∀ t h', Fm env (upd (upd m x (.int c t)) y (.int c t)) cm h' → KeepX (FB env) hc h' → R .next h')
    (he : (assignEach [.Name x p1, .Name y p2] env).map (·.2) = [assign (.Name x p1) env, assign (.Name y p2) env] := by rfl)
    (hw : swappedStores [.Name x p1, .Name y p2] (.Constant (.int c) k p3) env = pure none := by rfl) :
    Blk prog w A (exec (.Assign [.Name x p1, .Name y p2] (.Constant (.int c) k p3) pos) env) hc R := by
  intro st Q E hse hq
  subst hse
  exact wpAny_Assign_two (wpAny_Constant_int (wpAny_assign_Name (fm_store F kx fun h₂ tk₂ F₂ kx₂ => wpAny_assign_Name (fm_store F₂ ky fun h₃ tk₃ F₃ kx₃ => hq .next h₃ tk₃ (z _ h₃ F₃ (kx₂.tr kx₃)))))) he hw

theorem law_sld {a : Addr} {v1 v2 : Value} {xs ys : List Int} (hB : Live B h) (G : Gx mg mb h) (f : FnAt h 1 .none a) (hh : A.handled = none) (hfr : FrOk A h) (hroom : A.depth < recursionLimit) (hlo : ∃ b o, Base.lo ≤ b ∧ vg h b = some o)
    (r1 : Rep B h v1 (dL xs)) (r2 : Rep B h v2 (dL ys)) (hn1 : xs.length ≤ 400) (hn2 : ys.length ≤ 400) :
    EvD prog w A B (call (.ref a) [v1, v2]) h (.tuple [dL (sld xs ys).1, dL (sld xs ys).2]) := by
  refine call_fn (binds := [(Str.ofString "expected", v1), (Str.ofString "actual", v2)]) hB G f hroom (fun _ _ _ _ _ => BindsTo.of_eq rfl) (fun n => two_local rfl rfl) (fun pm cd doc L h₁ s => ?_)
  conv in (bodyOf _) => whnf
  obtain ⟨l1, w1, n1, rfl, nb1, e1, i1⟩ := r1.list_inv
  obtain ⟨l2, w2, n2, rfl, nb2, e2, i2⟩ := r2.list_inv
  have hI1 := i1.ints
  have hI2 := i2.ints
  generalize henv : fEnv 1 .none pm cd doc L a = env at *
  have kl : ∀ y : String, y ∈ ["expected", "actual", "i", "j", "missing", "unexpected", "e", "a"] → env.kindOf (Str.ofString y) = some .local := by
    subst henv
    intro y hy
    simp only [List.mem_cons, List.not_mem_nil, or_false] at hy
    rcases hy with rfl | rfl | rfl | rfl | rfl | rfl | rfl | rfl <;> rfl
  have hx0 : (bindL env.kindOf [(Str.ofString "expected", Value.ref l1), (Str.ofString "actual", Value.ref l2)] fun _ => none) (Str.ofString "expected") = some (.ref l1) := by subst henv; rfl
  have ha0 : (bindL env.kindOf [(Str.ofString "expected", Value.ref l1), (Str.ofString "actual", Value.ref l2)] fun _ => none) (Str.ofString "actual") = some (.ref l2) := by subst henv; rfl
  have hi : interactive env = false := by subst henv; rfl
  have hf : env.frame = some env.locals := by subst henv; rfl
  have hg : env.globals = mainGlobals := by subst henv; rfl
  have hbn : env.builtins = builtinsNs := by subst henv; rfl
  have hxI : env.kindOf (Str.ofString "IndexError") = some .globalImplicit := by subst henv; rfl
  generalize (bindL env.kindOf [(Str.ofString "expected", Value.ref l1), (Str.ofString "actual", Value.ref l2)] fun _ => none) = m0 at *
  generalize (bindC env.kindOf [(Str.ofString "expected", Value.ref l1), (Str.ofString "actual", Value.ref l2)] fun _ => none) = cm0 at *
  have O : Outer (A.deeper env) env h := by
    obtain ⟨outer, hfr, q⟩ := hfr
    obtain ⟨b, o, hb, hbo⟩ := hlo
    exact ⟨hf, Nat.le_trans hb (Nat.le_of_lt (s.above b o hbo)), s.F.kind, outer, Around.frames_deeper hfr, q⟩
  clear henv
  -- i = j = 0
  refine blk_cons (blk_two s.F (kl "i" (by simp)) (kl "j" (by simp)) fun t0 h₂ F₂ kx₂ => ?_)
  have s₂ := s.turn F₂ kx₂
  -- missing
  refine blk_cons (blk_assign s₂.F s₂.live (kl "missing" (by simp)) (ev_listF evA_nil) fun h₃ v₃ h₄ k₃ p₃ F₄ kx₄ => ?_)
  obtain ⟨q1, vq, rfl, hf1, hB1, hq1, rq⟩ := p₃
  cases rq
  have s₄ := (s₂.more k₃).turn F₄ kx₄
  have hF1 : ¬ FB env q1 := fun z => by obtain ⟨o, e⟩ := s₂.F.alive q1 z; exact none_some hf1 e
  have hq1' := kx₄ q1 _ hF1 hq1
  have hh1 : vg h q1 = none := by
    cases e : vg h q1 with
    | none => rfl
    | some o => exact (none_some hf1 (s₂.K _ _ e)).elim
  have hh11 : vg h₁ q1 = none := s₂.h1n _ hf1
  -- unexpected
  have s₄' : At (plus B q1) env h h₁ _ cm0 h₄ := s₄.withI Keep.rfl' ⟨_, hq1'⟩
  refine blk_cons (blk_assign s₄'.F s₄'.live (kl "unexpected" (by simp)) (ev_listF evA_nil) fun h₅ v₅ h₆ k₅ p₅ F₆ kx₆ => ?_)
  obtain ⟨q2, vq, rfl, hf2, hB2, hq2, rq⟩ := p₅
  cases rq
  have s₆ := (s₄'.more k₅).turn F₆ kx₆
  have hF2 : ¬ FB env q2 := fun z => by obtain ⟨o, e⟩ := s₄'.F.alive q2 z; exact none_some hf2 e
  have hq2' := kx₆ q2 _ hF2 hq2
  have hq1'' := kx₆ q1 _ hF1 (k₅ _ _ hq1')
  have hh2 : vg h q2 = none := by
    cases e : vg h q2 with
    | none => rfl
    | some o => exact (none_some hf2 (s₄'.K _ _ e)).elim
  have hh12 : vg h₁ q2 = none := s₄'.h1n _ hf2
  have hne : q1 ≠ q2 := fun z => by subst z; exact none_some hf2 hq1'
  have s₇ : At (plus (plus B q1) q2) env h h₁ _ cm0 h₆ := s₆.withI Keep.rfl' ⟨_, hq2'⟩
  have lift : ∀ {v : Value} {d : PyData}, Rep B h v d → Rep (BF (plus (plus B q1) q2) env) h v d := fun r => r.lift fun b o nb e => ⟨fun z => by
    rcases z with ((z | rfl) | rfl) | z
    · exact nb z
    · exact none_some hh1 e
    · exact none_some hh2 e
    · exact s.fresh b o e z, e⟩
  have C : SdC (A.deeper env) (plus (plus B q1) q2) env h h₁ xs ys l1 l2 q1 q2 :=
    ⟨O, kl, hi, lift r1, lift r2, hn1, hn2, hF1, hF2, hh1, hh2, hh11, hh12, hne, .inl (.inl (.inr rfl)), .inl (.inr rfl)⟩
  have S₇ : Sd (plus (plus B q1) q2) env h h₁ cm0 l1 l2 q1 q2 h₆ _ 0 0 [] [] := ⟨s₇, hx0, ha0, rfl, rfl, ⟨t0, rfl⟩, ⟨t0, rfl⟩, ⟨_, _, hq1'', .nil⟩, ⟨_, _, hq2', .nil⟩⟩
  -- the return
  have ret : ∀ (hc : Heap) (m : Str → Option Value) (i j : Nat) {p1 p2 p3 p4 : Pos} {kk : Nat}, Sd (plus (plus B q1) q2) env h h₁ cm0 l1 l2 q1 q2 hc m i j (sld xs ys).1 (sld xs ys).2 →
      Blk prog w (A.deeper env) (execs [.Return (some (.Tuple [.Name (Str.ofString "missing") p1, .Name (Str.ofString "unexpected") p2] kk p3)) p4] env) hc (RetD B env h₁ (.tuple [dL (sld xs ys).1, dL (sld xs ys).2])) := by
    intro hc m i j p1 p2 p3 p4 kk S
    obtain ⟨vm, nm, em, im⟩ := S.em
    obtain ⟨vu, nu, eu, iu⟩ := S.eu
    have nB1 : ¬ BF B env q1 := fun z => by
      rcases z with z | z
      · obtain ⟨o, e⟩ := hB _ z; exact none_some hh1 e
      · exact hF1 z
    have nB2 : ¬ BF B env q2 := fun z => by
      rcases z with z | z
      · obtain ⟨o, e⟩ := hB _ z; exact none_some hh2 e
      · exact hF2 z
    have sB : At B env h h₁ m cm0 hc := S.s.back.back
    exact at_ret1 sB (ev_tuple (evA_cons (ev_name (sB.F.ld (kl "missing" (by simp)) S.mm) (.list nB1 em (RepAll.ofInts im))) (evA_cons (ev_name (sB.F.ld (kl "unexpected" (by simp)) S.mu) (.list nB2 eu (RepAll.ofInts iu))) evA_nil)))
  -- the loop
  generalize hB2 : plus (plus B q1) q2 = B2 at *
  clear s s₂ s₄ s₄' s₆ F₂ F₄ F₆ kx₂ kx₄ kx₆
  obtain ⟨outer, hfrO, _⟩ := O.2.2.2
  refine blk_cons ?_
  intro st Q E hse hq
  refine wpAny_While (codeAny_whileLoop (fun d s' => ∃ h' tk m i j M U, s' = { st with heap := h', toks := tk } ∧ Sd B2 env h h₁ cm0 l1 l2 q1 q2 h' m i j M U ∧ SInv xs ys i j M U ∧ d = (xs.length - i) + (ys.length - j)) ?_ (xs.length + ys.length)
    ⟨h₆, st.toks, _, 0, 0, [], [], by rw [← hse], S₇, ⟨Nat.zero_le _, Nat.zero_le _, Nat.le_refl _, Nat.le_refl _, rfl, rfl⟩, rfl⟩)
  rintro d s' ⟨h', tk, m, i, j, M, U, rfl, S, I, rfl⟩
  have Ii := I.1
  have Ij := I.2.1
  have IM := I.2.2.1
  have IU := I.2.2.2.1
  refine wpAny_isTrue_value (wpAny_Constant_bool (wpAny_truthy_bool ?_))
  simp only [if_true]
  -- the end by the handler
  have done : ∀ (h' : Heap) (tk : Nat) (m : Str → Option Value) (i j : Nat), Sd B2 env h h₁ cm0 l1 l2 q1 q2 h' m i j (sld xs ys).1 (sld xs ys).2 → Q .next { st with heap := h', toks := tk } := fun h' tk m i j S => hq .next h' tk (ret h' m i j S)
  obtain ⟨ti, mi⟩ := S.mi
  obtain ⟨tj, mj⟩ := S.mj
  have lx : LdN env (Str.ofString "expected") h' (.ref l1) := S.s.F.ld (kl "expected" (by simp)) S.mx
  have li : LdN env (Str.ofString "i") h' (.int (i : Int) ti) := S.s.F.ld (kl "i" (by simp)) mi
  have hA : (A.deeper env).handled = none := hh
  refine wpAny_execs_cons (wpAny_Try_except (wpAny_execs_cons (wpAny_Assign_Name (Subscript_ (wpAny_Name (lx _ _ _ _ _ Keep.rfl' (wpAny_Name (li _ _ _ _ _ Keep.rfl' ?_))))))))
  refine item_or (.inl hA) (S.s.K _ _ e1) hI1 (by omega) (by omega) (fun x hx tx => ?_) (fun hout h₈ tk₈ e c hex hcn => ?_)
  rotate_left
  · -- expected ends
    refine note0 ⟨outer, hfrO⟩ (O.ok' S.s hex.1) hf (fun b o q => vg_lt (hex.1 b o q)) hex fun h₉ hex₉ => ?_
    exact caught C G hg hbn hxI (S.more hex₉.1) (hex₉.base S.s.K S.s.h1n) (inv_left (List.drop_of_length_le hout) I) fun h10 tk10 S10 => done h10 tk10 m i j S10
  refine fm_store S.s.F (kl "e" (by simp)) fun h₈ tk₈ F₈ kx₈ => ?_
  have s₈ := S.s.turn F₈ kx₈
  have S8 : Sd B2 env h h₁ cm0 l1 l2 q1 q2 h₈ _ i j M U := S.turn s₈ (fun z _ _ he _ => by show (if z = Str.ofString "e" then _ else _) = _; rw [if_neg he]) ⟨ti, mi⟩ ⟨tj, mj⟩ fun b vs n e => kx₈ b _ (fb_nolist S.s.F e) e
  have la : LdN env (Str.ofString "actual") h₈ (.ref l2) := S8.s.F.ld (kl "actual" (by simp)) S8.ma
  have lj : LdN env (Str.ofString "j") h₈ (.int (j : Int) tj) := S8.s.F.ld (kl "j" (by simp)) mj
  dsimp only
  refine wpAny_execs_cons (wpAny_Assign_Name (Subscript_ (wpAny_Name (la _ _ _ _ _ Keep.rfl' (wpAny_Name (lj _ _ _ _ _ Keep.rfl' ?_))))))
  refine item_or (.inl hA) (S8.s.K _ _ e2) hI2 (by omega) (by omega) (fun y hy ty => ?_) (fun hout h₉ tk₉ e c hex hcn => ?_)
  rotate_left
  · -- actual ends
    refine note0 ⟨outer, hfrO⟩ (O.ok' S8.s hex.1) hf (fun b o q => vg_lt (hex.1 b o q)) hex fun h10 hex₉ => ?_
    exact caught C G hg hbn hxI (S8.more hex₉.1) (hex₉.base S8.s.K S8.s.h1n) (inv_right (List.drop_of_length_le hout) I) fun h11 tk10 S10 => done h11 tk10 _ i j S10
  refine fm_store S8.s.F (kl "a" (by simp)) fun h₉ tk₉ F₉ kx₉ => ?_
  have s₉ := S8.s.turn F₉ kx₉
  have S9 : Sd B2 env h h₁ cm0 l1 l2 q1 q2 h₉ _ i j M U := S8.turn s₉ (fun z _ _ _ he => by show (if z = Str.ofString "a" then _ else _) = _; rw [if_neg he]) ⟨ti, mi⟩ ⟨tj, mj⟩ fun b vs n e => kx₉ b _ (fb_nolist S8.s.F e) e
  have hxl : i < xs.length := (List.getElem?_eq_some_iff.mp hx).1
  have hyl : j < ys.length := (List.getElem?_eq_some_iff.mp hy).1
  have le : LdN env (Str.ofString "e") h₉ (.int x tx) := S9.s.F.ld (kl "e" (by simp)) rfl
  have la' : LdN env (Str.ofString "a") h₉ (.int y ty) := S9.s.F.ld (kl "a" (by simp)) rfl
  dsimp only
  obtain ⟨vm, nm, em, im⟩ := S9.em
  obtain ⟨vu, nu, eu, iu⟩ := S9.eu
  have hCA : (A.deeper env).handled = none := hA
  refine wpAny_execs_cons (wpAny_If (wpAny_isTrue_Compare1 (wpAny_Name (le _ _ _ _ _ Keep.rfl' (wpAny_Name (la' _ _ _ _ _ Keep.rfl' (PyProof.Rows.lt_int (wpAny_truthy_bool ?_))))))))
  split
  · -- e < a
    rename_i hlt
    have hlt : x < y := of_decide_eq_true hlt
    refine branch (k := i) (ns := xs) (M := M) (y := x) C.O S9.s hA hi (kl "expected" (by simp)) (kl "i" (by simp)) (kl "e" (by simp)) (kl "missing" (by simp)) (by decide) (by decide) hF1 hh1 hh11 e1 hI1 (by omega) hxl (by omega) S9.mx S9.mm mi rfl em im ?_ ?_ (by decide) (by decide) (by decide) (by decide)
    · intro m' k' h' tk s' kx' hk1 hk2 hd mi' mo' eq'
      have hne2 : ¬ (FB env q2 ∨ q2 = q1) := fun z => z.elim hF2 fun z => hne z.symm
      have S' : Sd B2 env h h₁ cm0 l1 l2 q1 q2 h' m' k' j (M ++ [x]) U := ⟨s', (mo' _ (by decide)).trans S9.mx, (mo' _ (by decide)).trans S9.ma, (mo' _ (by decide)).trans S9.mm, (mo' _ (by decide)).trans S9.mu, mi', ⟨tj, (mo' _ (by decide)).trans mj⟩, eq', ⟨vu, nu, kx' q2 _ hne2 eu, iu⟩⟩
      refine wpAny_execs_nil (wpAny_execs_nil (wpAny_execs_nil ?_))
      exact ⟨_, by omega, h', tk, m', k', j, M ++ [x], U, rfl, S', inv_lt hx hy hlt I hk1 (Nat.le_of_lt hk2) hd, rfl⟩
    · intro m' h' tk e c s' kx' hd mi' mo' eq' hex
      have hne2 : ¬ (FB env q2 ∨ q2 = q1) := fun z => z.elim hF2 fun z => hne z.symm
      have S' : Sd B2 env h h₁ cm0 l1 l2 q1 q2 h' m' xs.length j (M ++ [x]) U := ⟨s', (mo' _ (by decide)).trans S9.mx, (mo' _ (by decide)).trans S9.ma, (mo' _ (by decide)).trans S9.mm, (mo' _ (by decide)).trans S9.mu, mi', ⟨tj, (mo' _ (by decide)).trans mj⟩, eq', ⟨vu, nu, kx' q2 _ _ hne2 eu, iu⟩⟩
      exact note1 hf hex (caught C G hg hbn hxI S' hex (inv_left (by simp) (inv_lt hx hy hlt I hxl (Nat.le_refl _) (by rw [hd]; simp))) fun h10 tk10 S10 => done h10 tk10 m' _ j S10)
  · rename_i hnlt
    have hnlt : ¬ x < y := fun z => hnlt (decide_eq_true z)
    refine wpAny_execs_cons (wpAny_If (wpAny_isTrue_Compare1 (wpAny_Name (le _ _ _ _ _ Keep.rfl' (wpAny_Name (la' _ _ _ _ _ Keep.rfl' (PyProof.Rows.gt_int (wpAny_truthy_bool ?_))))))))
    split
    · -- e > a
      rename_i hgt
      have hgt : y < x := of_decide_eq_true hgt
      refine branch (k := j) (ns := ys) (M := U) (y := y) C.O S9.s hA hi (kl "actual" (by simp)) (kl "j" (by simp)) (kl "a" (by simp)) (kl "unexpected" (by simp)) (by decide) (by decide) hF2 hh2 hh12 e2 hI2 (by omega) hyl (by omega) S9.ma S9.mu mj rfl eu iu ?_ ?_ (by decide) (by decide) (by decide) (by decide)
      · intro m' k' h' tk s' kx' hk1 hk2 hd mi' mo' eq'
        have hne2 : ¬ (FB env q1 ∨ q1 = q2) := fun z => z.elim hF1 fun z => hne z
        have S' : Sd B2 env h h₁ cm0 l1 l2 q1 q2 h' m' i k' M (U ++ [y]) := ⟨s', (mo' _ (by decide)).trans S9.mx, (mo' _ (by decide)).trans S9.ma, (mo' _ (by decide)).trans S9.mm, (mo' _ (by decide)).trans S9.mu, ⟨ti, (mo' _ (by decide)).trans mi⟩, mi', ⟨vm, nm, kx' q1 _ hne2 em, im⟩, eq'⟩
        refine wpAny_execs_nil (wpAny_execs_nil (wpAny_execs_nil (wpAny_execs_nil ?_)))
        exact ⟨_, by omega, h', tk, m', i, k', M, U ++ [y], rfl, S', inv_gt hx hy hgt I hk1 (Nat.le_of_lt hk2) hd, rfl⟩
      · intro m' h' tk e c s' kx' hd mi' mo' eq' hex
        have hne2 : ¬ (FB env q1 ∨ q1 = q2) := fun z => z.elim hF1 fun z => hne z
        have S' : Sd B2 env h h₁ cm0 l1 l2 q1 q2 h' m' i ys.length M (U ++ [y]) := ⟨s', (mo' _ (by decide)).trans S9.mx, (mo' _ (by decide)).trans S9.ma, (mo' _ (by decide)).trans S9.mm, (mo' _ (by decide)).trans S9.mu, ⟨ti, (mo' _ (by decide)).trans mi⟩, mi', ⟨vm, nm, kx' q1 _ _ hne2 em, im⟩, eq'⟩
        exact note1 hf hex (caught C G hg hbn hxI S' hex (inv_right (by simp) (inv_gt hx hy hgt I hyl (Nat.le_refl _) (by rw [hd]; simp))) fun h10 tk10 S10 => done h10 tk10 m' i _ S10)
    · rename_i hngt
      have hngt : ¬ y < x := fun z => hngt (decide_eq_true z)
      refine branchEq (k := i) (j := j) (ns := xs) (ms := ys) (x := x) (y := y) C.O S9.s hA (kl "expected" (by simp)) (kl "actual" (by simp)) (kl "i" (by simp)) (kl "j" (by simp)) (kl "e" (by simp)) (kl "a" (by simp)) (by decide) (by decide) (by decide) (by decide) (by decide) (by decide) (by decide)
        e1 hI1 (by omega) hxl e2 hI2 (by omega) hyl S9.mx S9.ma mi mj rfl rfl ?_ ?_ (by decide) (by decide) (by decide) (by decide) (by decide) (by decide)
      · intro m' k' j' h' tk s' kx' hk1 hk2 hj1 hj2 hd hd' mi' mj' mo'
        have S' : Sd B2 env h h₁ cm0 l1 l2 q1 q2 h' m' k' j' M U := ⟨s', (mo' _ (by decide) (by decide)).trans S9.mx, (mo' _ (by decide) (by decide)).trans S9.ma, (mo' _ (by decide) (by decide)).trans S9.mm, (mo' _ (by decide) (by decide)).trans S9.mu, mi', mj', ⟨vm, nm, kx' q1 _ hF1 em, im⟩, ⟨vu, nu, kx' q2 _ hF2 eu, iu⟩⟩
        refine wpAny_execs_nil (wpAny_execs_nil (wpAny_execs_nil (wpAny_execs_nil ?_)))
        exact ⟨_, by omega, h', tk, m', k', j', M, U, rfl, S', inv_eq hx hy hnlt hngt I hk1 (Nat.le_of_lt hk2) hj1 (Nat.le_of_lt hj2) hd hd', rfl⟩
      · intro m' k' j' h' tk e c s' kx' hk1 hj1 hd hd' hor mi' mj' mo' hex
        have S' : Sd B2 env h h₁ cm0 l1 l2 q1 q2 h' m' k' j' M U := ⟨s', (mo' _ (by decide) (by decide)).trans S9.mx, (mo' _ (by decide) (by decide)).trans S9.ma, (mo' _ (by decide) (by decide)).trans S9.mm, (mo' _ (by decide) (by decide)).trans S9.mu, mi', mj', ⟨vm, nm, kx' q1 _ _ hF1 em, im⟩, ⟨vu, nu, kx' q2 _ _ hF2 eu, iu⟩⟩
        have hk0 : i + 1 ≤ k' := by
          have e1 := congrArg List.length hd
          have e2 := dropWhile_len (· == x) (xs.drop (i + 1))
          simp only [List.length_drop] at e1 e2
          omega
        have hj0 : j + 1 ≤ j' := by
          have e1 := congrArg List.length hd'
          have e2 := dropWhile_len (· == y) (ys.drop (j + 1))
          simp only [List.length_drop] at e1 e2
          omega
        have I' := inv_eq hx hy hnlt hngt I hk0 hk1 hj0 hj1 hd hd'
        exact note1 hf hex (caught C G hg hbn hxI S' hex (hor.elim (fun z => inv_left z I') fun z => inv_right z I') fun h10 tk10 S10 => done h10 tk10 m' _ _ S10)
end
end OpA
namespace OpA
variable [Base]

theorem canLay_rows : ∀ xs : List (List Int), PyData.canLayAll0 (xs.map dL) = true
  | [] => rfl
  | n :: ns => by
    simp only [List.map_cons, PyData.canLayAll0, canLay_rows ns, Bool.and_true]
    exact canLay_ints n
theorem depth_rows : ∀ xs : List (List Int), PyData.depthAll (xs.map dL) ≤ 2
  | [] => by simp [PyData.depthAll]
  | n :: ns => by
    have h1 := depth_rows ns
    have h2 := depth_ints n
    simp only [List.map_cons, PyData.depthAll, PyData.depth]
    omega
theorem shaped_rows (xs : List (List Int)) : PySem.SeqAt.shaped (.list (xs.map dL)) = true := by
  have := depth_rows xs
  have h2 : PyData.depth (.list (xs.map dL)) ≤ 64 := by show PyData.depthAll (xs.map dL) + 1 ≤ 64; omega
  have h3 : PyData.canLay0 (.list (xs.map dL)) = true := canLay_rows xs
  unfold PySem.SeqAt.shaped
  rw [h3, decide_eq_true h2]; rfl
theorem shaped_pair (a b : List Int) : PySem.SeqAt.shaped (.tuple [dL a, dL b]) = true := by
  have := depth_rows [a, b]
  have h2 : PyData.depth (.tuple [dL a, dL b]) ≤ 64 := by show PyData.depthAll ([a, b].map dL) + 1 ≤ 64; omega
  have h3 : PyData.canLay0 (.tuple [dL a, dL b]) = true := canLay_rows [a, b]
  unfold PySem.SeqAt.shaped
  rw [h3, decide_eq_true h2]; rfl
theorem eqv_same {d : PyData} (h : PySem.SeqAt.shaped d = true) : PyData.eqv d d = true := PySem.SeqAt.eqv_refl d (PySem.SeqAt.canLay_of_shaped h)

section
variable {prog : Program} {w : World} {A : Around} {B : Bad} {h h₁ : Heap} {env : Env} {mg mb : Str → Option Value} {cm : Str → Option Value}

/-- both sides the same: «!=» is False, «==» is True -/
theorem op_neS {h' : Heap} {a b : Value} {x : PyData} (p : Rep B h' a x) (q : Rep B h' b x) (hx : PySem.SeqAt.shaped x = true) (hu : A.units + 64 < cLine) : EvD prog w A B (compareOp .NotEq a b) h' (.bool false) :=
  (op_neD p q hx hx hu).cast (by rw [eqv_same hx]; rfl)
theorem op_eqS {h' : Heap} {a b : Value} {x : PyData} (p : Rep B h' a x) (q : Rep B h' b x) (hx : PySem.SeqAt.shaped x = true) (hu : A.units + 64 < cLine) : EvD prog w A B (compareOp .Eq a b) h' (.bool true) :=
  (op_eqD p q hx hx hu).cast (by rw [eqv_same hx])

/-- «type(x) is not int» at an int -/
theorem evB_typeInt {f x i : Str} {p q r pc pos : Pos} {whole : Sem Value} {n : Int} (lt : LdN env f h (.type "type")) (lx : EvD prog w A B (eval (.Name x p) env) h (.int n)) (li : LdN env i h (.type "int"))
    (hm : behindInMarks .IsNot (.Name i q) = false := by with_unfolding_all rfl) (hd : (f == ("__debug__" : Str)) = false := by decide) (hd' : (i == ("__debug__" : Str)) = false := by decide)
    (he : starEach [.Name x p] env = (false, eval (.Name x p) env) :: starEach [] env := by rfl) (hplain : (backTo pc (starEach [] env)).any (·.1) = false := by rfl) :
    EvB prog w A B (isTrue (.Compare (.Call (.Name f r) [.Name x p] [] pc) [.IsNot] [.Name i q] pos) env whole) h false :=
  fun s Q E hk hl hq => wpAny_isTrue_Compare1 (ev_callT (P := fun _ v => v = .type "int") lt (evA_cons lx evA_nil he) (fun h' vs k rs => by
      cases rs with
      | cons r1 r2 =>
        cases r2
        obtain ⟨t, rfl⟩ := r1.int_inv
        exact fun s Q E hk hl hq => call_type_of (typeIs_int s n t) (by decide) (hq _ s.heap s.toks Keep.rfl' rfl)) hd he hplain s _ E hk hl fun v h' tk k p => by
    subst p
    exact wpAny_Name (li _ _ _ _ E (hk.tr k) (wpAny_isNot_self rfl (wpAny_truthy_bool (hq _ h' tk k rfl)))) hd') hm
end
end OpA
namespace OpA
variable [Base]

def tw (x y : Int) : Int := b2i (decide (y < x)) - b2i (decide (x < y))
def rowOf (rows : List (List Int)) (i : Nat) : List Int := rows.getD i []
def mk (rows : List (List Int)) (i : Nat) (n : Int) : Int := tw (7 * if decide (n ∈ rowOf rows (i + 1)) = true then 1 else 0) (7 * if decide (n ∈ rowOf rows i) = true then 1 else 0)
def marksAt (rows : List (List Int)) (names : List Int) (i : Nat) : List Int := names.map (mk rows i)
def goneAt (rows : List (List Int)) (names : List Int) (i : Nat) : List Int := ((List.range 4).filter fun c => (marksAt rows names i).getD c 0 == -1).map fun c => names.getD c 0
def comeAt (rows : List (List Int)) (names : List Int) (i : Nat) : List Int := ((List.range 4).filter fun c => (marksAt rows names i).getD c 0 == 1).map fun c => names.getD c 0
structure SqOk (rows : List (List Int)) (names : List Int) (sums : List (List Int)) : Prop where
  lr : rows.length = 5
  ln : names.length = 4
  ls : sums.length = 4
  lc : ∀ i, i < 4 → (rowOf sums i).length = 4
  small : ∀ i, i < 5 → (rowOf rows i).length ≤ 20
  d1 : ∀ i, i < 4 → sld (rowOf rows i) (rowOf rows (i + 1)) = (goneAt rows names i, comeAt rows names i)
  d2 : ∀ i, i < 4 → sld (rowOf rows (i + 1)) (rowOf rows i) = (comeAt rows names i, goneAt rows names i)
  d3 : ∀ i, i < 4 → sld (sortI (rowOf rows i ++ rowOf rows i) ++ [names.getD 3 0 + 1]) (sortI (rowOf rows (i + 1) ++ rowOf rows (i + 1)) ++ [names.getD 3 0 + 1]) = (goneAt rows names i, comeAt rows names i)
  bt : ∀ i, i < 4 → byTurns (marksAt rows names i) = true
  cs : ∀ i c, i < 4 → c < 4 → (((List.range 4).take (i + 1)).map fun k => ((marksAt rows names k).take (c + 1)).sum).sum = (rowOf sums i).getD c 0

theorem upd_ne {m : Str → Option Value} {x y : Str} {v : Value} (h : y ≠ x) : upd m x v y = m y := if_neg h
theorem upd_eq {m : Str → Option Value} {x : Str} {v : Value} : upd m x v x = some v := if_pos rfl
theorem row_get {rows : List (List Int)} {i : Nat} (h : i < rows.length) : (rows.map dL)[i]? = some (dL (rowOf rows i)) := by
  rw [List.getElem?_map, List.getElem?_eq_getElem h]; simp [rowOf, h]
theorem marks_len (rows : List (List Int)) (names : List Int) (i : Nat) : (marksAt rows names i).length = names.length := by simp [marksAt]

section
variable {prog : Program} {w : World} {A : Around} {B : Bad} {h h₁ : Heap} {env : Env} {mg mb : Str → Option Value} {cm : Str → Option Value}

theorem Ev.live {α : Type} {t : Sem α} {P : Heap → α → Prop} (x : ∀ h', Keep h h' → Live B h' → Ev prog w A B t h' P) : Ev prog w A B t h P :=
  fun s Q E hk hl hq => x s.heap hk hl s Q E Keep.rfl' hl hq
theorem RepAll.one_inv {vs : List Value} {d : PyData} (r : RepAll B h vs [d]) : ∃ u, vs = [u] ∧ Rep B h u d := by
  cases r with
  | cons r1 r2 => cases r2; exact ⟨_, rfl, r1⟩
theorem RepAll.two_inv {vs : List Value} {d e : PyData} (r : RepAll B h vs [d, e]) : ∃ u v, vs = [u, v] ∧ Rep B h u d ∧ Rep B h v e := by
  cases r with
  | cons r1 r2 => obtain ⟨v, rfl, q2⟩ := r2.one_inv; exact ⟨_, _, rfl, r1, q2⟩
theorem RepAll.three_inv {vs : List Value} {d e f : PyData} (r : RepAll B h vs [d, e, f]) : ∃ u v x, vs = [u, v, x] ∧ Rep B h u d ∧ Rep B h v e ∧ Rep B h x f := by
  cases r with
  | cons r1 r2 => obtain ⟨v, x, rfl, q2, q3⟩ := r2.two_inv; exact ⟨_, _, _, rfl, r1, q2, q3⟩
theorem Fm.cellOf {m cm : Str → Option Value} {x : Str} {v : Value} {c : Addr} (F : Fm env m cm h) (hc : env.cells.lookup x = some c) (hv : cm x = some v) : h.IsCell c (some v) := hv ▸ F.cell x c hc
/-- a call of a def of the text by its name -/
theorem ev_callG {f : Str} {p pos : Pos} {e : Expr} {rest : List Expr} {i : Nat} {dV : Value} {a : Addr} {ds : List PyData} {P : Heap → Value → Prop} (l : LdN env f h (.ref a)) (g : FnAt h i dV a)
    (x : Ev prog w A B (spliced (backTo pos (starEach (e :: rest) env))) h (fun h' vs => RepAll B h' vs ds))
    (z : ∀ h' vs, Keep h h' → Live B h' → RepAll B h' vs ds → Ev prog w A B (call (.ref a) vs) h' P)
    (hd : (f == ("__debug__" : Str)) = false := by decide)
    (he : starEach (e :: rest) env = (false, eval e env) :: starEach rest env := by rfl) :
    Ev prog w A B (eval (.Call (.Name f p) (e :: rest) [] pos) env) h P := by
  obtain ⟨o, pm, cd, doc, e, d, c⟩ := g.is
  exact ev_callF l e d x (fun h' vs k rs => Ev.live fun h'' k' hl => z h'' vs (k.tr k') hl (rs.keep k')) hd he
theorem ev_row {value slice : Expr} {pos : Pos} {rows : List (List Int)} {i : Nat} (x : EvD prog w A B (eval value env) h (.list (rows.map dL))) (y : EvD prog w A B (eval slice env) h (.int (i : Int)))
    (hi : i < rows.length) (hn : rows.length ≤ 1000)
    (hs : ∀ o i, subscripted slice false o i = operate [o, i] (getItem o i) := by intro _ _; with_unfolding_all rfl) : EvD prog w A B (eval (.Subscript value slice pos) env) h (dL (rowOf rows i)) :=
  ev_sub x y (by omega) (by rw [Int.toNat_natCast]; exact row_get hi) (by simp; omega) hs
theorem ev_at {value slice : Expr} {pos : Pos} {ns : List Int} {i : Nat} (x : EvD prog w A B (eval value env) h (dL ns)) (y : EvD prog w A B (eval slice env) h (.int (i : Int)))
    (hi : i < ns.length) (hn : ns.length ≤ 1000)
    (hs : ∀ o i, subscripted slice false o i = operate [o, i] (getItem o i) := by intro _ _; with_unfolding_all rfl) : EvD prog w A B (eval (.Subscript value slice pos) env) h (.int (ns.getD i 0)) :=
  ev_sub x y (by omega) (by rw [Int.toNat_natCast]; exact dL_get hi) (by simp; omega) hs
theorem Rep.z {v : Value} {i : Nat} (r : Rep B h v (.int (0 + (i : Int)))) : Rep B h v (.int (i : Int)) := by rw [Int.zero_add] at r; exact r
theorem op_succ {h' : Heap} {a b : Value} {i : Nat} (p : Rep B h' a (.int (i : Int))) (q : Rep B h' b (.int 1)) : EvD prog w A B (binaryOp .Add a b) h' (.int ((i + 1 : Nat) : Int)) :=
  (op_add p q).cast (by simp)
theorem op_dbl {h' : Heap} {a b : Value} {xs : List Int} (p : Rep B h' a (dL xs)) (q : Rep B h' b (.int 2)) (hn : xs.length ≤ 1000) : EvD prog w A B (binaryOp .Mult a b) h' (dL (xs ++ xs)) :=
  (op_mulL2 p q (by simpa using hn)).cast (by simp)

end
end OpA
namespace OpA
variable [Base]
section
variable {prog : Program} {w : World} {A : Around} {B : Bad} {h h₁ : Heap} {env : Env} {mg mb : Str → Option Value} {cm : Str → Option Value}

theorem law_is_square {a : Addr} {v1 v2 v3 : Value} {rows sums : List (List Int)} {names : List Int} (ok : SqOk rows names sums) (hB : Live B h) (G : Gx mg mb h) (f : FnAt h 15 .none a)
    (g1 : GFn mg h "sorted_list_difference" 1) (g2 : GFn mg h "three_way_cmp" 2) (g3 : GFn mg h "_law_by_turns" 13)
    (hh : A.handled = none) (hfr : FrOk A h) (hroom : A.depth + 1 < recursionLimit) (hu : A.units + 200 < cLine) (hlo : ∃ b o, Base.lo ≤ b ∧ vg h b = some o)
    (r1 : Rep B h v1 (.list (rows.map dL))) (r2 : Rep B h v2 (dL names)) (r3 : Rep B h v3 (.list (sums.map dL))) :
    EvD prog w A B (call (.ref a) [v1, v2, v3]) h (.bool true) := by
  obtain ⟨a1, ga1, f1⟩ := g1
  obtain ⟨a2, ga2, f2⟩ := g2
  obtain ⟨a3, ga3, f3⟩ := g3
  have lr := ok.lr
  have ln := ok.ln
  have ls := ok.ls
  refine call_fn (binds := [(Str.ofString "rows", v1), (Str.ofString "names", v2), (Str.ofString "sums", v3)]) hB G f (by omega) (fun _ _ _ _ _ => BindsTo.of_eq rfl) (fun n => ?_) (fun pm cd doc L h₁ s => ?_)
  · intro y hy
    simp only [List.mem_cons, List.not_mem_nil, or_false] at hy
    rcases hy with rfl | rfl | rfl
    · exact .inr ⟨rfl, rfl⟩
    · exact .inr ⟨rfl, rfl⟩
    · exact .inl rfl
  conv in (bodyOf _) => whnf
  have hm3 : (bindL (fEnv 15 .none pm cd doc L a).kindOf [(Str.ofString "rows", v1), (Str.ofString "names", v2), (Str.ofString "sums", v3)] fun _ => none) (Str.ofString "sums") = some v3 := rfl
  have hc1 : (bindC (fEnv 15 .none pm cd doc L a).kindOf [(Str.ofString "rows", v1), (Str.ofString "names", v2), (Str.ofString "sums", v3)] fun _ => none) (Str.ofString "rows") = some v1 := rfl
  have hc2 : (bindC (fEnv 15 .none pm cd doc L a).kindOf [(Str.ofString "rows", v1), (Str.ofString "names", v2), (Str.ofString "sums", v3)] fun _ => none) (Str.ofString "names") = some v2 := rfl
  generalize (bindL (fEnv 15 .none pm cd doc L a).kindOf [(Str.ofString "rows", v1), (Str.ofString "names", v2), (Str.ofString "sums", v3)] fun _ => none) = m0 at *
  generalize (bindC (fEnv 15 .none pm cd doc L a).kindOf [(Str.ofString "rows", v1), (Str.ofString "names", v2), (Str.ofString "sums", v3)] fun _ => none) = cm0 at *
  have hroom' : (A.deeper (fEnv 15 .none pm cd doc L a)).depth < recursionLimit := hroom
  have hu' : (A.deeper (fEnv 15 .none pm cd doc L a)).units + 100 < cLine := by show A.units + 3 + 100 < cLine; omega
  have O : Outer (A.deeper (fEnv 15 .none pm cd doc L a)) (fEnv 15 .none pm cd doc L a) h := by
    obtain ⟨outer, hfr, q⟩ := hfr
    obtain ⟨b, o, hb, hbo⟩ := hlo
    exact ⟨rfl, Nat.le_trans hb (Nat.le_of_lt (s.above b o hbo)), s.F.kind, outer, Around.frames_deeper hfr, q⟩
  -- square
  refine blk_cons (blk_assign s.F s.live rfl (ev_listF evA_nil) fun h₂ v₂ h₃ k₂ p₂ F₃ kx₃ => ?_)
  obtain ⟨q, vq, rfl, hqf, hqB, hq₂, rq⟩ := p₂
  cases rq
  have hqF : ¬ FB (fEnv 15 .none pm cd doc L a) q := fun z => by obtain ⟨o, e⟩ := s.F.alive q z; exact none_some hqf e
  have hq₃ := kx₃ q _ hqF hq₂
  have s₃ : At (plus B q) (fEnv 15 .none pm cd doc L a) h h₁ _ cm0 h₃ := ((s.more k₂).turn F₃ kx₃).withI Keep.rfl' ⟨_, hq₃⟩
  have hqh : vg h q = none := by
    cases e : vg h q with
    | none => rfl
    | some o => exact (none_some hqf (s.K _ _ e)).elim
  have hqh1 : vg h₁ q = none := hqf
  have hqB' : ¬ BF B (fEnv 15 .none pm cd doc L a) q := fun z => by
    rcases z with z | z
    · obtain ⟨o, e⟩ := hB _ z; exact none_some hqh e
    · exact hqF z
  -- the first loop
  refine blk_cons (at_for (xs := List.range 4) (fun (i : Nat) => .int (0 + (i : Int))) (fun m _ => m) (fun cm v => upd cm (Str.ofString "i") v) (fun b => FB (fEnv 15 .none pm cd doc L a) b ∨ b = q)
    (fun I i m cm h' => vg h I = none ∧ q ≠ I ∧ m (Str.ofString "sums") = some v3 ∧ m (Str.ofString "square") = some (.ref q) ∧ cm (Str.ofString "rows") = some v1 ∧ cm (Str.ofString "names") = some v2 ∧
      ∃ vs n, vg h' q = some (lstObj vs n) ∧ RepAll (BF (plus (plus B q) I) (fEnv 15 .none pm cd doc L a)) h' vs ((List.range i).map fun k => dL (marksAt rows names k)))
    s₃ ?_ ?_ ?_ (ev_srcR hh (ev_callT ((G.keep s₃.K).bin G.bRange rfl rfl rfl rfl) (evA_cons ev_const_int evA_nil) fun h' vs k' rs => ty_range1 rs (by decide) (by decide))) ?_ ?_ ?_ ?_)
  · rintro b (z | rfl)
    · exact .inr z
    · exact .inl (.inr rfl)
  · exact fun b z => .inl z
  · exact fun s m cm v Q E F hq => fm_storeC F rfl rfl hq
  · rintro I i m cm h' h'' ⟨i1, i2, i3, i4, i5, i6, vs, n, e, r⟩ k
    refine ⟨i1, i2, i3, i4, i5, i6, vs, n, k _ _ (fun z => z.elim i2 hqF) e, r.keepX fun b o nb e => k b o (fun z => ?_) e⟩
    rcases z with z | z
    · exact nb (.inl (.inr z))
    · exact nb (.inr z)
  · intro I h₄ hI k₄ s₄
    refine ⟨?_, (fun z => by subst z; exact none_some hI hq₃), (upd_ne (by decide)).trans hm3, upd_eq, hc1, hc2, _, _, k₄ _ _ hq₃, .nil⟩
    cases e : vg h I with
    | none => rfl
    | some o => exact (none_some hI (s₃.K _ _ e)).elim
  · rintro I i e v m cm h₄ he hIX s₄ ⟨hIh, hqI, m3, mq, c1, c2, vs, n, eq, rq⟩ rv
    have hi : i < 4 := by have := (List.getElem?_eq_some_iff.mp he).1; simpa using this
    have hei : e = i := by rw [List.getElem?_range hi] at he; exact (Option.some.inj he).symm
    subst hei
    have rv := rv.z
    have lift : ∀ {u : Value} {d : PyData}, Rep B h u d → Rep (BF (plus (plus B q) I) (fEnv 15 .none pm cd doc L a)) h u d := fun r => r.lift fun b o nb e => ⟨fun z => by
      rcases z with ((z | rfl) | rfl) | z
      · exact nb z
      · exact none_some hqh e
      · exact none_some hIh e
      · exact s.fresh b o e z, e⟩
    have R1 := lift r1
    have R2 := lift r2
    have G₄ := G.keep s₄.K
    have ci₄ : (upd cm (Str.ofString "i") v) (Str.ofString "i") = some v := upd_eq
    have cr₄ : (upd cm (Str.ofString "i") v) (Str.ofString "rows") = some v1 := (upd_ne (by decide)).trans c1
    have cn₄ : (upd cm (Str.ofString "i") v) (Str.ofString "names") = some v2 := (upd_ne (by decide)).trans c2
    generalize upd cm (Str.ofString "i") v = cm4 at *
    -- marks
    refine blk_cons (at_assignCK (d := dL (marksAt rows names e)) s₄ rfl rfl (EvD.cast (ev_compL (cl := [(Str.ofString "rows", L + 1), (Str.ofString "i", L + 3)]) (xs := names) PyData.int (fun _ => true) (fun n => .int (mk rows e n)) rfl (by decide) rfl (by decide) rfl (ev_srcL hh (ev_name (s₄.F.ldc rfl rfl cn₄) (R2.keep s₄.K))) (by omega) fun x C u B' h' hx k kx kb l rx => ⟨evIfs_nil, fun _ => ?_⟩) (by rw [List.filter_eq_self.mpr (fun _ _ => rfl)]; simp [marksAt])) fun vM h₅ s₅ rM kx₅ => ?_)
    · have G' := G₄.keep k
      have hci := cellK (s₄.F.cellOf (x := Str.ofString "i") (c := L + 3) rfl ci₄) k
      have hcr := cellK (s₄.F.cellOf (x := Str.ofString "rows") (c := L + 1) rfl cr₄) k
      have ri := rv.lift kx
      have rr := (R1.keep s₄.K).lift kx
      refine ev_callG (G'.fn ga2 rfl rfl rfl) ((f2.keep s₄.K).keep k)
        (evA_cons (ev_bin ev_const_int (ev_cmp (ev_name l rx) (ev_row (ev_name (ldn_cell rfl rfl rfl hcr) rr) (ev_bin (ev_name (ldn_cell rfl rfl rfl hci) ri) ev_const_int fun h' a b _ p q => op_succ p q) (by omega) (by omega)) fun h' a b _ p q => op_in p q) fun h' a b _ p q => op_mulB p q)
        (evA_cons (ev_bin ev_const_int (ev_cmp (ev_name l rx) (ev_row (ev_name (ldn_cell rfl rfl rfl hcr) rr) (ev_name (ldn_cell rfl rfl rfl hci) ri) (by omega) (by omega)) fun h' a b _ p q => op_in p q) fun h' a b _ p q => op_mulB p q) evA_nil))
        fun h' vs k' hl' rs => ?_
      obtain ⟨u1, u2, rfl, q1, q2⟩ := rs.two_inv
      exact three_way hl' (G'.keep k') (((f2.keep s₄.K).keep k).keep k') hroom' q1 q2
    have lnM := marks_len rows names e
    have ci₅ := (upd_ne (m := cm4) (x := Str.ofString "marks") (v := vM) (y := Str.ofString "i") (by decide)).trans ci₄
    have cr₅ := (upd_ne (m := cm4) (x := Str.ofString "marks") (v := vM) (y := Str.ofString "rows") (by decide)).trans cr₄
    have cn₅ := (upd_ne (m := cm4) (x := Str.ofString "marks") (v := vM) (y := Str.ofString "names") (by decide)).trans cn₄
    have cM₅ := upd_eq (m := cm4) (x := Str.ofString "marks") (v := vM)
    have rv₅ := rep_turn kx₅ rv
    have G₅ := G.keep s₅.K
    generalize upd cm4 (Str.ofString "marks") vM = cm5 at *
    -- the marks are ints
    refine blk_cons (blk_if (b := false) s₅.live (evB_cmp (d₁ := dL []) (d₂ := dL []) (EvD.cast (ev_compL (cl := []) (xs := marksAt rows names e) PyData.int (fun _ => false) PyData.int rfl (by decide) rfl (by decide) rfl (ev_srcL hh (ev_name (s₅.F.ldc rfl rfl cM₅) rM)) (by omega) fun x C u B' h' hx k kx kb l rx => ⟨evIfs_one (evB_typeInt ((G₅.keep k).bin G.bType rfl rfl rfl rfl) (ev_name l rx) ((G₅.keep k).bin G.bInt rfl rfl rfl rfl)), fun e => by cases e⟩) (by simp)) (ev_list evA_nil) fun h' a b _ p q => op_neS p q (shaped_ints []) (by omega)) (fun e => by cases e) fun _ h₆ k₆ => ?_)
    have s₆ := s₅.more k₆
    refine blk_nil ?_
    have hci₆ := s₆.F.cellOf (x := Str.ofString "i") (c := L + 3) rfl ci₅
    have hcM₆ := s₆.F.cellOf (x := Str.ofString "marks") (c := L + 4) rfl cM₅
    have hcn₆ := s₆.F.cellOf (x := Str.ofString "names") (c := L + 2) rfl cn₅
    have rM₆ := rM.keep k₆
    have G₆ := G.keep s₆.K
    -- gone
    refine blk_cons (at_assignCompL (cl := [(Str.ofString "names", L + 2), (Str.ofString "marks", L + 4)]) (xs := List.range 4) (fun (i : Nat) => .int (0 + (i : Int))) (fun c => (marksAt rows names e).getD c 0 == -1) (fun c => .int (names.getD c 0)) s₆ rfl rfl (by decide) rfl (by decide) rfl
      (ev_srcR hh (ev_callT (G₆.bin G.bRange rfl rfl rfl rfl) (evA_cons ev_const_int evA_nil) fun h' vs k' rs => ty_range1 rs (by decide) (by decide))) (by simp) (fun c C u B' h' hx k kx kb l rx => ?_) fun vG h₇ s₇ rG kx₇ => ?_)
    · have hc4 : c < 4 := List.mem_range.mp hx
      exact ⟨evIfs_one (evB_cmp (ev_at (ev_name (ldn_cell rfl rfl rfl (cellK hcM₆ k)) (rM₆.lift kx)) (ev_name l rx.z) (by omega) (by omega)) ev_neg1 fun h' a b _ p q => op_eq p q), fun _ => ev_at (ev_name (ldn_cell rfl rfl rfl (cellK hcn₆ k)) ((R2.keep s₆.K).lift kx)) (ev_name l rx.z) (by omega) (by omega)⟩
    have hcM₇ := s₇.F.cellOf (x := Str.ofString "marks") (c := L + 4) rfl cM₅
    have hcn₇ := s₇.F.cellOf (x := Str.ofString "names") (c := L + 2) rfl cn₅
    have rM₇ := rep_turn kx₇ rM₆
    have G₇ := G.keep s₇.K
    -- come
    refine blk_cons (at_assignCompL (cl := [(Str.ofString "names", L + 2), (Str.ofString "marks", L + 4)]) (xs := List.range 4) (fun (i : Nat) => .int (0 + (i : Int))) (fun c => (marksAt rows names e).getD c 0 == 1) (fun c => .int (names.getD c 0)) s₇ rfl rfl (by decide) rfl (by decide) rfl
      (ev_srcR hh (ev_callT (G₇.bin G.bRange rfl rfl rfl rfl) (evA_cons ev_const_int evA_nil) fun h' vs k' rs => ty_range1 rs (by decide) (by decide))) (by simp) (fun c C u B' h' hx k kx kb l rx => ?_) fun vC h₈ s₈ rC kx₈ => ?_)
    · have hc4 : c < 4 := List.mem_range.mp hx
      exact ⟨evIfs_one (evB_cmp (ev_at (ev_name (ldn_cell rfl rfl rfl (cellK hcM₇ k)) (rM₇.lift kx)) (ev_name l rx.z) (by omega) (by omega)) ev_const_int fun h' a b _ p q => op_eq p q), fun _ => ev_at (ev_name (ldn_cell rfl rfl rfl (cellK hcn₇ k)) ((R2.keep s₇.K).lift kx)) (ev_name l rx.z) (by omega) (by omega)⟩
    have rG : Rep (BF (plus (plus B q) I) (fEnv 15 .none pm cd doc L a)) h₇ vG (dL (goneAt rows names e)) := by
      have : dL (goneAt rows names e) = .list (((List.range 4).filter fun c => (marksAt rows names e).getD c 0 == -1).map fun c => PyData.int (names.getD c 0)) := by
        simp only [goneAt, dL, List.map_map]; rfl
      rw [this]; exact rG
    have rC : Rep (BF (plus (plus B q) I) (fEnv 15 .none pm cd doc L a)) h₈ vC (dL (comeAt rows names e)) := by
      have : dL (comeAt rows names e) = .list (((List.range 4).filter fun c => (marksAt rows names e).getD c 0 == 1).map fun c => PyData.int (names.getD c 0)) := by
        simp only [comeAt, dL, List.map_map]; rfl
      rw [this]; exact rC
    have rG₈ := rep_turn kx₈ rG
    have rv₈ := rep_turn kx₈ (rep_turn kx₇ (rv₅.keep k₆))
    have rM₈ := rep_turn kx₈ rM₇
    have kx : KeepX (FB (fEnv 15 .none pm cd doc L a)) h₄ h₈ := ((kx₅.tr (keepX_of k₆)).tr kx₇).tr kx₈
    have G₈ := G.keep s₈.K
    have f1₈ := f1.keep s₈.K
    have mg₈ : (upd (upd m (Str.ofString "gone") vG) (Str.ofString "come") vC) (Str.ofString "gone") = some vG := (upd_ne (by decide)).trans upd_eq
    have mc₈ : (upd (upd m (Str.ofString "gone") vG) (Str.ofString "come") vC) (Str.ofString "come") = some vC := upd_eq
    have m3₈ : (upd (upd m (Str.ofString "gone") vG) (Str.ofString "come") vC) (Str.ofString "sums") = some v3 := (upd_ne (by decide)).trans ((upd_ne (by decide)).trans m3)
    have mq₈ : (upd (upd m (Str.ofString "gone") vG) (Str.ofString "come") vC) (Str.ofString "square") = some (.ref q) := (upd_ne (by decide)).trans ((upd_ne (by decide)).trans mq)
    generalize upd (upd m (Str.ofString "gone") vG) (Str.ofString "come") vC = m8 at *
    have sm1 := ok.small e (by omega)
    have sm2 := ok.small (e + 1) (by omega)
    have hlo₈ : ∃ b o, Base.lo ≤ b ∧ vg h₈ b = some o := let ⟨b, o, x, y⟩ := hlo; ⟨b, o, x, s₈.K _ _ y⟩
    have rows₈ : ∀ {p : Pos}, EvD prog w (A.deeper (fEnv 15 .none pm cd doc L a)) (BF (plus (plus B q) I) (fEnv 15 .none pm cd doc L a)) (eval (.Name (Str.ofString "rows") p) (fEnv 15 .none pm cd doc L a)) h₈ (.list (rows.map dL)) := ev_name (s₈.F.ldc rfl rfl cr₅) (R1.keep s₈.K)
    have i₈ : ∀ {p : Pos}, EvD prog w (A.deeper (fEnv 15 .none pm cd doc L a)) (BF (plus (plus B q) I) (fEnv 15 .none pm cd doc L a)) (eval (.Name (Str.ofString "i") p) (fEnv 15 .none pm cd doc L a)) h₈ (.int (e : Int)) := ev_name (s₈.F.ldc rfl rfl ci₅) rv₈
    have SL : ∀ {hc h' : Heap} {m' : Str → Option Value} {vs : List Value} {xs ys P Q : List Int}, At (plus (plus B q) I) (fEnv 15 .none pm cd doc L a) h h₁ m' cm5 hc → Keep hc h' → Live (BF (plus (plus B q) I) (fEnv 15 .none pm cd doc L a)) h' → RepAll (BF (plus (plus B q) I) (fEnv 15 .none pm cd doc L a)) h' vs [dL xs, dL ys] → xs.length ≤ 400 → ys.length ≤ 400 → sld xs ys = (P, Q) →
        EvD prog w (A.deeper (fEnv 15 .none pm cd doc L a)) (BF (plus (plus B q) I) (fEnv 15 .none pm cd doc L a)) (call (.ref a1) vs) h' (.tuple [dL P, dL Q]) := by
      intro hc h' m' vs xs ys P Q sc k' hl' rs n1 n2 hs
      obtain ⟨u1, u2, rfl, q1, q2⟩ := rs.two_inv
      have := law_sld (prog := prog) (w := w) (A := A.deeper (fEnv 15 .none pm cd doc L a)) hl' ((G.keep sc.K).keep k') ((f1.keep sc.K).keep k') hh (O.ok' sc k') hroom' (let ⟨b, o, x, y⟩ := hlo; ⟨b, o, x, k' _ _ (sc.K _ _ y)⟩) q1 q2 n1 n2
      rw [hs] at this
      exact this
    -- test 1
    refine blk_cons (blk_if (b := false) s₈.live (evB_cmp (ev_callG (G₈.fn ga1 rfl rfl rfl) f1₈ (evA_cons (ev_row rows₈ i₈ (by omega) (by omega)) (evA_cons (ev_row rows₈ (ev_bin i₈ ev_const_int fun h' a b _ p q => op_succ p q) (by omega) (by omega)) evA_nil)) fun h' vs k' hl' rs => SL s₈ k' hl' rs (by omega) (by omega) (ok.d1 e hi)) (ev_tuple (evA_cons (ev_name (s₈.F.ld rfl mg₈) rG₈) (evA_cons (ev_name (s₈.F.ld rfl mc₈) rC) evA_nil))) fun h' a b _ p q => op_neS p q (shaped_pair _ _) (by omega)) (fun e => by cases e) fun _ h₉ k₉ => blk_nil ?_)
    have s₉ := s₈.more k₉
    -- test 2
    refine blk_cons (blk_if (b := false) s₉.live (evB_cmp (ev_callG ((G₈.keep k₉).fn ga1 rfl rfl rfl) (f1₈.keep k₉) (evA_cons (ev_row (rows₈.up k₉) (ev_bin (i₈.up k₉) ev_const_int fun h' a b _ p q => op_succ p q) (by omega) (by omega)) (evA_cons (ev_row (rows₈.up k₉) (i₈.up k₉) (by omega) (by omega)) evA_nil)) fun h' vs k' hl' rs => SL s₉ k' hl' rs (by omega) (by omega) (ok.d2 e hi)) (ev_tuple (evA_cons (ev_name (s₉.F.ld rfl mc₈) (rC.keep k₉)) (evA_cons (ev_name (s₉.F.ld rfl mg₈) (rG₈.keep k₉)) evA_nil))) fun h' a b _ p q => op_neS p q (shaped_pair _ _) (by omega)) (fun e => by cases e) fun _ h10 k10 => blk_nil ?_)
    have s10 := s₉.more k10
    have k810 := k₉.tr k10
    -- top
    refine blk_cons (at_assignK (d := dL [names.getD 3 0 + 1]) s10 rfl (ev_list (evA_cons (ev_bin (ev_at (i := 3) (ev_name (s10.F.ldc rfl rfl cn₅) (R2.keep s10.K)) ev_const_int (by omega) (by omega)) ev_const_int fun h' a b _ p q => op_add p q) evA_nil)) fun vT h11 s11 rT kx11 => ?_)
    have rG11 := rep_turn kx11 (rG₈.keep k810)
    have rC11 := rep_turn kx11 (rC.keep k810)
    have rM11 := rep_turn kx11 (rM₈.keep k810)
    have rv11 := rep_turn kx11 (rv₈.keep k810)
    have G11 := G.keep s11.K
    have f1_11 := f1.keep s11.K
    have mg11 := (upd_ne (m := m8) (x := Str.ofString "top") (v := vT) (y := Str.ofString "gone") (by decide)).trans mg₈
    have mc11 := (upd_ne (m := m8) (x := Str.ofString "top") (v := vT) (y := Str.ofString "come") (by decide)).trans mc₈
    have m311 := (upd_ne (m := m8) (x := Str.ofString "top") (v := vT) (y := Str.ofString "sums") (by decide)).trans m3₈
    have mq11 := (upd_ne (m := m8) (x := Str.ofString "top") (v := vT) (y := Str.ofString "square") (by decide)).trans mq₈
    have mT11 := upd_eq (m := m8) (x := Str.ofString "top") (v := vT)
    generalize upd m8 (Str.ofString "top") vT = m11 at *
    have rows11 : ∀ {p : Pos}, EvD prog w (A.deeper (fEnv 15 .none pm cd doc L a)) (BF (plus (plus B q) I) (fEnv 15 .none pm cd doc L a)) (eval (.Name (Str.ofString "rows") p) (fEnv 15 .none pm cd doc L a)) h11 (.list (rows.map dL)) := ev_name (s11.F.ldc rfl rfl cr₅) (R1.keep s11.K)
    have i11 : ∀ {p : Pos}, EvD prog w (A.deeper (fEnv 15 .none pm cd doc L a)) (BF (plus (plus B q) I) (fEnv 15 .none pm cd doc L a)) (eval (.Name (Str.ofString "i") p) (fEnv 15 .none pm cd doc L a)) h11 (.int (e : Int)) := ev_name (s11.F.ldc rfl rfl ci₅) rv11
    -- test 3
    refine blk_cons (blk_if (b := false) s11.live (evB_cmp (ev_callG (G11.fn ga1 rfl rfl rfl) f1_11 (evA_cons (ev_bin (ev_callB (G11.bin G.bSorted rfl rfl rfl rfl) (evA_cons (ev_bin (ev_row rows11 i11 (by omega) (by omega)) ev_const_int fun h' a b _ p q => op_dbl p q (by omega)) evA_nil) fun h' vs k' rs => bi_sorted rs (by simp; omega)) (ev_name (s11.F.ld rfl mT11) rT) fun h' a b _ p q => op_addLI p q (by simp; omega))
      (evA_cons (ev_bin (ev_callB (G11.bin G.bSorted rfl rfl rfl rfl) (evA_cons (ev_bin (ev_row rows11 (ev_bin i11 ev_const_int fun h' a b _ p q => op_succ p q) (by omega) (by omega)) ev_const_int fun h' a b _ p q => op_dbl p q (by omega)) evA_nil) fun h' vs k' rs => bi_sorted rs (by simp; omega)) (ev_name (s11.F.ld rfl mT11) rT) fun h' a b _ p q => op_addLI p q (by simp; omega)) evA_nil)) fun h' vs k' hl' rs => SL s11 k' hl' rs (by simp; omega) (by simp; omega) (ok.d3 e hi)) (ev_tuple (evA_cons (ev_name (s11.F.ld rfl mg11) rG11) (evA_cons (ev_name (s11.F.ld rfl mc11) rC11) evA_nil))) fun h' a b _ p q => op_neS p q (shaped_pair _ _) (by omega)) (fun e => by cases e) fun _ h12 k12 => blk_nil ?_)
    have s12 := s11.more k12
    -- by turns
    refine blk_cons (blk_if (b := !true) s12.live (evB_not (evB_val (ev_callG ((G11.keep k12).fn ga3 rfl rfl rfl) (f3.keep s12.K) (evA_cons (ev_name (s12.F.ldc rfl rfl cM₅) (rM11.keep k12)) evA_nil) fun h' vs k' hl' rs => ?_))) (fun e => by cases e) fun _ h13 k13 => blk_nil ?_)
    · obtain ⟨u1, rfl, q1⟩ := rs.one_inv
      have := by_turns (prog := prog) (w := w) (A := A.deeper (fEnv 15 .none pm cd doc L a)) hl' ((G11.keep k12).keep k') ((f3.keep s12.K).keep k') hh hroom' hu' q1 (by omega)
      rw [ok.bt e hi] at this
      exact this
    have s13 := s12.more k13
    have kxx : KeepX (FB (fEnv 15 .none pm cd doc L a)) h₄ h13 := ((kx.tr (keepX_of k810)).tr kx11).tr (keepX_of (k12.tr k13))
    have eq13 := kxx q _ hqF eq
    have rM13 := rM11.keep (k12.tr k13)
    have rq13 := rq.keepX (h' := h13) fun b o nb e => kxx b o (fun z => nb (.inr z)) e
    have hvl : vs.length ≤ 4 := by rw [rq.length]; simp; omega
    refine blk_cons ?_
    intro st Q E hse hQ
    subst hse
    have lq : LdN (fEnv 15 .none pm cd doc L a) (Str.ofString "square") st.heap (.ref q) := s13.F.ld rfl mq11
    have lm : LdN (fEnv 15 .none pm cd doc L a) (Str.ofString "marks") st.heap vM := s13.F.ldc rfl rfl cM₅
    refine wpAny_Expr (wp_append lq eq13 (wpAny_Name (lm _ _ st _ E Keep.rfl' ?_))) rfl rfl
    refine ⟨vs, n, by omega, eq13, fun h14 n14 e14 k14 => ?_⟩
    refine hQ .next h14 st.toks (blk_nil ?_)
    have kq : KeepX (fun b => FB (fEnv 15 .none pm cd doc L a) b ∨ b = q) h₄ h14 := fun b o nb e => k14 b o (fun z => nb (.inr z)) (kxx b o (fun z => nb (.inl z)) e)
    have rep14 : ∀ {u : Value} {d : PyData}, Rep (BF (plus (plus B q) I) (fEnv 15 .none pm cd doc L a)) st.heap u d → Rep (BF (plus (plus B q) I) (fEnv 15 .none pm cd doc L a)) h14 u d := fun r => r.keepX fun b o nb e => k14 b o (fun z => nb (.inl (.inl (.inr z)))) e
    refine ⟨kq, m11, cm5, s13.off hqF hqh hqh1 k14 ⟨_, e14⟩, hIh, hqI, m311, mq11, cr₅, cn₅, _, _, e14, ?_⟩
    rw [List.range_succ, List.map_append]
    exact (rq13.keepX fun b o nb e => k14 b o (fun z => nb (.inl (.inl (.inr z)))) e).append (.cons (rep14 rM13) .nil)
  · rintro I m cm h₄ s₄ ⟨hIh, hqI, m3, mq, c1, c2, vs, n, eq, rq⟩
    have sB : At B (fEnv 15 .none pm cd doc L a) h h₁ m cm h₄ := s₄.back
    have lq4 : (List.range 4).length = 4 := by simp
    have rq : RepAll (BF B (fEnv 15 .none pm cd doc L a)) h₄ vs ((List.range 4).map fun k => dL (marksAt rows names k)) := by
      rw [lq4] at rq
      exact rq.sub fun b z => by
        rcases z with z | z
        · exact .inl (.inl (.inl z))
        · exact .inr z
    have rS : Rep (BF B (fEnv 15 .none pm cd doc L a)) h₄ (.ref q) (.list ((List.range 4).map fun k => dL (marksAt rows names k))) := .list hqB' eq rq
    clear s₄ s₃ rq eq c1 c2 hc1 hc2
    -- the second loop
    refine blk_cons (at_for (xs := List.range 4) (fun (i : Nat) => .int (0 + (i : Int))) (fun m _ => m) (fun cm v => upd cm (Str.ofString "i") v) (FB (fEnv 15 .none pm cd doc L a))
      (fun I i m cm h' => vg h I = none ∧ m (Str.ofString "sums") = some v3 ∧ m (Str.ofString "square") = some (.ref q) ∧ Rep (BF (plus B I) (fEnv 15 .none pm cd doc L a)) h' (.ref q) (.list ((List.range 4).map fun k => dL (marksAt rows names k))))
      sB (fun b z => .inr z) (fun b z => z) (fun s m cm v Q E F hq => fm_storeC F rfl rfl hq) (ev_srcR hh (ev_callT ((G.keep sB.K).bin G.bRange rfl rfl rfl rfl) (evA_cons ev_const_int evA_nil) fun h' vs k' rs => ty_range1 rs (by decide) (by decide))) ?_ ?_ ?_ ?_)
    · rintro I i m cm h' h'' ⟨i1, i2, i3, r⟩ k
      exact ⟨i1, i2, i3, r.keepX fun b o nb e => k b o (fun z => nb (z.elim (fun z => .inl (.inr z)) .inr)) e⟩
    · intro I h₅ hI k₅ s₅
      refine ⟨?_, m3, mq, rS.lift fun b o nb e => ⟨fun z => ?_, k₅ _ _ e⟩⟩
      · cases e : vg h I with
        | none => rfl
        | some o => exact (none_some hI (sB.K _ _ e)).elim
      · rcases z with (z | rfl) | z
        · exact nb (.inl z)
        · exact none_some hI e
        · exact nb (.inr z)
    · rintro I i e v m cm h₅ he hIX s₅ ⟨hIh, m3, mq, rS⟩ rv
      have hi : i < 4 := by have := (List.getElem?_eq_some_iff.mp he).1; simpa using this
      have hei : e = i := by rw [List.getElem?_range hi] at he; exact (Option.some.inj he).symm
      subst hei
      have rv := rv.z
      have ci : (upd cm (Str.ofString "i") v) (Str.ofString "i") = some v := upd_eq
      generalize upd cm (Str.ofString "i") v = cm5 at *
      refine blk_cons (at_for (xs := List.range 4) (fun (i : Nat) => .int (0 + (i : Int))) (fun m _ => m) (fun cm v => upd cm (Str.ofString "c") v) (FB (fEnv 15 .none pm cd doc L a))
        (fun J j m cm h' => (vg h J = none ∧ vg h₅ J = none) ∧ m (Str.ofString "sums") = some v3 ∧ m (Str.ofString "square") = some (.ref q) ∧ cm (Str.ofString "i") = some v ∧ KeepX (FB (fEnv 15 .none pm cd doc L a)) h₅ h' ∧ Rep (BF (plus (plus B I) J) (fEnv 15 .none pm cd doc L a)) h' (.ref q) (.list ((List.range 4).map fun k => dL (marksAt rows names k))) ∧ Rep (BF (plus (plus B I) J) (fEnv 15 .none pm cd doc L a)) h' v (.int (e : Int)))
        s₅ (fun b z => .inr z) (fun b z => z) (fun s m cm v Q E F hq => fm_storeC F rfl rfl hq) (ev_srcR hh (ev_callT ((G.keep s₅.K).bin G.bRange rfl rfl rfl rfl) (evA_cons ev_const_int evA_nil) fun h' vs k' rs => ty_range1 rs (by decide) (by decide))) ?_ ?_ ?_ ?_)
      · rintro J j m cm h' h'' ⟨i1, i2, i3, i4, i5, r, r'⟩ k
        exact ⟨i1, i2, i3, i4, fun b o nb e => k b o (fun z => z.elim (fun z => by subst z; exact none_some i1.2 e) nb) (i5 b o nb e), r.keepX fun b o nb e => k b o (fun z => nb (z.elim (fun z => .inl (.inr z)) .inr)) e, r'.keepX fun b o nb e => k b o (fun z => nb (z.elim (fun z => .inl (.inr z)) .inr)) e⟩
      · intro J h₆ hJ k₆ s₆
        have up : ∀ {u : Value} {d : PyData}, Rep (BF (plus B I) (fEnv 15 .none pm cd doc L a)) h₅ u d → Rep (BF (plus (plus B I) J) (fEnv 15 .none pm cd doc L a)) h₆ u d := fun r => r.lift fun b o nb e => ⟨fun z => by
          rcases z with (z | rfl) | z
          · exact nb (.inl z)
          · exact none_some hJ e
          · exact nb (.inr z), k₆ _ _ e⟩
        refine ⟨⟨?_, hJ⟩, m3, mq, ci, keepX_of k₆, up rS, up rv⟩
        cases e : vg h J with
        | none => rfl
        | some o => exact (none_some hJ (s₅.K _ _ e)).elim
      · rintro J c e' u m cm h₆ he hJX s₆ ⟨hJh, m3, mq, ci, kx₆, rS, rv⟩ ru
        have hc : c < 4 := by have := (List.getElem?_eq_some_iff.mp he).1; simpa using this
        have hei : e' = c := by rw [List.getElem?_range hc] at he; exact (Option.some.inj he).symm
        subst hei
        have ru := ru.z
        have cc : (upd cm (Str.ofString "c") u) (Str.ofString "c") = some u := upd_eq
        have ci : (upd cm (Str.ofString "c") u) (Str.ofString "i") = some v := (upd_ne (by decide)).trans ci
        generalize upd cm (Str.ofString "c") u = cm6 at *
        have G₆ := G.keep s₆.K
        have hcc := s₆.F.cellOf (x := Str.ofString "c") (c := L + 5) rfl cc
        have R3 : Rep (BF (plus (plus B I) J) (fEnv 15 .none pm cd doc L a)) h₆ v3 (.list (sums.map dL)) := r3.lift fun b o nb e => ⟨fun z => by
          rcases z with ((z | rfl) | rfl) | z
          · exact nb z
          · exact none_some hIh e
          · exact none_some hJh.1 e
          · exact s.fresh b o e z, s₆.K _ _ e⟩
        have lcs := ok.lc e hi
        refine blk_cons (blk_if (b := false) s₆.live (evB_cmp (d₁ := .int ((rowOf sums e).getD e' 0)) (d₂ := .int ((rowOf sums e).getD e' 0)) (ev_callB (G₆.bin G.bSum rfl rfl rfl rfl) (ds := [dL (((List.range 4).take (e + 1)).map fun k => ((marksAt rows names k).take (e' + 1)).sum)])
          (evA_cons (EvD.cast (ev_compL (cl := [(Str.ofString "c", L + 5)]) (xs := (List.range 4).take (e + 1)) (fun k => dL (marksAt rows names k)) (fun _ => true) (fun k => .int ((marksAt rows names k).take (e' + 1)).sum) rfl (by decide) rfl (by decide) rfl
            (ev_srcL hh (EvD.cast (ev_slice (ev_name (s₆.F.ld rfl mq) rS) evP_none (evP_some (ev_bin (ev_name (s₆.F.ldc rfl rfl ci) rv) ev_const_int fun h' a b _ p q => op_succ p q)) evP_none (by simp) (by simp) (by intro o i; exact ⟨_, by with_unfolding_all rfl⟩)) (by rw [pick_upto, List.map_take]))) (by simp; omega) fun k C x B' h' hx kk kx kb l rx => ⟨evIfs_nil, fun _ => ?_⟩) ?_) evA_nil) fun h' vs k' rs => ?_)
          (ev_at (ev_row (ev_name (s₆.F.ld rfl m3) R3) (ev_name (s₆.F.ldc rfl rfl ci) rv) (by omega) (by omega)) (ev_name (s₆.F.ldc rfl rfl cc) ru) (by omega) (by omega)) fun h' a b _ p q => (op_ne p q).cast (by simp)) (fun e => by cases e) fun _ h₇ k₇ => blk_nil ?_)
        · exact ev_callB ((G₆.keep kk).bin G.bSum rfl rfl rfl rfl) (ds := [dL ((marksAt rows names k).take (e' + 1))]) (evA_cons (EvD.cast (ev_slice (ev_name l rx) evP_none (evP_some (ev_bin (ev_name (ldn_cell rfl rfl rfl (cellK hcc kk)) (ru.lift kx)) ev_const_int fun h' a b _ p q => op_succ p q)) evP_none (by simp) (by simp [marks_len]; omega) (by intro o i; exact ⟨_, by with_unfolding_all rfl⟩)) (by rw [pick_upto, ← List.map_take])) evA_nil) fun h' vs k' rs => bi_sum hh rs
        · rw [List.filter_eq_self.mpr (fun _ _ => rfl), dL, List.map_map]; rfl
        · exact EvD.cast (bi_sum hh rs) (by rw [ok.cs e e' hi hc])
        · exact blk_nil ⟨keepX_of k₇, m, cm6, s₆.more k₇, hJh, m3, mq, ci, kx₆.tr (keepX_of k₇), rS.keep k₇, rv.keep k₇⟩
      · rintro J m cm h₆ s₆ ⟨hJh, m3, mq, ci, kx₆, rS, rv⟩
        exact blk_nil ⟨kx₆, m, cm, s₆, hIh, m3, mq, rS.sub fun b z => z.elim (fun z => .inl (.inl z)) .inr⟩
    · rintro I m cm h₅ s₅ _
      exact at_ret1 s₅ ev_const_bool
end
end OpA
namespace OpA
variable [Base]

/-- what law builds -/
def stepOf (ns : List Int) : Int := 1 + (if (pickL ns (some 1) none (some 2)).sum < 0 then -(pickL ns (some 1) none (some 2)).sum else (pickL ns (some 1) none (some 2)).sum)
def namesOf (ns : List Int) : List Int := (List.range 4).map fun (c : Nat) => ns.sum + stepOf ns * (c : Int)
def ordersOf (ns : List Int) : List (List Int) := (ns.take 3 ++ [5, 2]).map arranged
def namedOf (ns : List Int) (o : List Int) : List Int := o.map fun c => (namesOf ns).getD c.toNat 0
def stairsOf (ns : List Int) : List (List (List Int)) := (ordersOf ns).map fun o => stairOf (namedOf ns o)
def cornerOf (ns : List Int) (i j : Nat) : List Int := (stairsOf ns).map fun s => (rowOf s i).getD j 0
def lowsOf (ns : List Int) : List (List Int) := (List.range 5).map fun i => (List.range i).map fun j => medLow (cornerOf ns i j)
def highsOf (ns : List Int) : List (List Int) := (List.range 5).map fun i => (List.range i).map fun j => medHigh (cornerOf ns i j)
def cellOf (ns : List Int) (i c : Nat) : List Int := (ordersOf ns).map fun o => ((((o.take (i + 1)).filter fun t => decide (t ≤ (c : Int))).length : Nat) : Int)
def countsOf (ns : List Int) : List (List (List Int)) := (List.range 4).map fun i => (List.range 4).map fun c => cellOf ns i c
def halfOf (ns : List Int) (e : Int) : List (List Int) := (countsOf ns).map fun line => line.map fun cell => reached cell e
structure LawOk (ns : List Int) : Prop where
  low : SqOk (lowsOf ns) (namesOf ns) (halfOf ns 0)
  high : SqOk (highsOf ns) (namesOf ns) (halfOf ns 1)
  ml : ((countsOf ns).map fun line => line.map medLow) = halfOf ns 1
  mh : ((countsOf ns).map fun line => line.map medHigh) = halfOf ns 0

/-- an order holds four places -/
structure ArrOk (o : List Int) : Prop where
  len : o.length = 4
  mem : ∀ c ∈ o, 0 ≤ c ∧ c < 4
theorem fmod_cases (x : Int) : x.fmod 4 = 0 ∨ x.fmod 4 = 1 ∨ x.fmod 4 = 2 ∨ x.fmod 4 = 3 := by have := fmod_lt x (k := 4) (by decide); omega
theorem fmod_cases3 (x : Int) : x.fmod 3 = 0 ∨ x.fmod 3 = 1 ∨ x.fmod 3 = 2 := by have := fmod_lt x (k := 3) (by decide); omega
theorem fmod_cases2 (x : Int) : x.fmod 2 = 0 ∨ x.fmod 2 = 1 := by have := fmod_lt x (k := 2) (by decide); omega
theorem fmod_cases1 (x : Int) : x.fmod 1 = 0 := by have := fmod_lt x (k := 1) (by decide); omega
def arrBy (a b c d : Nat) : List Int :=
  let l := ([0, 1, 2, 3] : List Int)
  let l1 := l.eraseIdx a
  let l2 := l1.eraseIdx b
  let l3 := l2.eraseIdx c
  [l.getD a 0, l1.getD b 0, l2.getD c 0, l3.getD d 0]
theorem arranged_by (x : Int) : arranged x = arrBy (x.fmod 4).toNat ((x.fdiv 4).fmod 3).toNat (((x.fdiv 4).fdiv 3).fmod 2).toNat ((((x.fdiv 4).fdiv 3).fdiv 2).fmod 1).toNat := rfl
theorem arr_perm (x : Int) : (arranged x).Perm [0, 1, 2, 3] := by
  rw [arranged_by, fmod_cases1]
  rcases fmod_cases x with h | h | h | h <;> rcases fmod_cases3 (x.fdiv 4) with h' | h' | h' <;> rcases fmod_cases2 ((x.fdiv 4).fdiv 3) with h'' | h'' <;> rw [h, h', h''] <;> decide
theorem arr_ok (x : Int) : ArrOk (arranged x) := by
  have p := arr_perm x
  refine ⟨p.length_eq, fun c hc => ?_⟩
  have := p.mem_iff.mp hc
  simp at this
  omega
theorem orders_ok (ns : List Int) : ∀ o ∈ ordersOf ns, ArrOk o := fun o ho => by
  obtain ⟨x, _, rfl⟩ := List.mem_map.mp ho; exact arr_ok x
theorem orders_len (ns : List Int) : 2 ≤ (ordersOf ns).length ∧ (ordersOf ns).length ≤ 5 := by simp [ordersOf]; omega
end OpA
namespace OpA
variable [Base]
theorem names_len (ns : List Int) : (namesOf ns).length = 4 := by simp [namesOf]
theorem stair_len (zs : List Int) : (stairOf zs).length = zs.length + 1 := by
  have : stairAt zs zs.length = stairOf zs := by unfold stairAt stairOf; rw [List.take_length]
  rw [← this]; exact (stairAt_len zs _ (Nat.le_refl _)).1
theorem sortI_eq {xs ys : List Int} (h : xs.Perm ys) : sortI xs = sortI ys := by
  refine List.Perm.eq_of_pairwise (le := fun a b => a ≤ b) (fun a b _ _ h1 h2 => by omega) ?_ ?_ (((List.mergeSort_perm xs _).trans h).trans (List.mergeSort_perm ys _).symm)
  · exact (List.pairwise_mergeSort (le := fun (a b : Int) => decide (a ≤ b)) (by intro a b c h1 h2; simp at *; omega) (by intro a b; simp; omega) xs).imp fun h => by simpa using h
  · exact (List.pairwise_mergeSort (le := fun (a b : Int) => decide (a ≤ b)) (by intro a b c h1 h2; simp at *; omega) (by intro a b; simp; omega) ys).imp fun h => by simpa using h
theorem stairAt_row (zs : List Int) : ∀ n, n ≤ zs.length → ∀ i, i ≤ n → rowOf (stairAt zs n) i = sortI (zs.take i)
  | 0, _, i, hi => by
    have : i = 0 := by omega
    subst this; simp [stairAt, rowOf, sortI]
  | n + 1, h, i, hi => by
    have ln := (stairAt_len zs n (by omega)).1
    rw [stairAt_succ zs n zs[n] (List.getElem?_eq_getElem h), stepStair]
    by_cases hin : i ≤ n
    · have := stairAt_row zs n (by omega) i hin
      rw [← this]; unfold rowOf
      rw [List.getD_eq_getElem?_getD, List.getElem?_append_left (by omega), List.getD_eq_getElem?_getD]
    · have : i = n + 1 := by omega
      subst this
      unfold rowOf
      rw [List.getD_eq_getElem?_getD, List.getElem?_append_right (by omega), ln]
      simp only [Nat.sub_self, List.getElem?_cons_zero, Option.getD_some]
      have e : (stairAt zs n).getD (n + 1 - 1) [] = sortI (zs.take n) := stairAt_row zs n (by omega) n (Nat.le_refl _)
      rw [e]
      refine sortI_eq ?_
      rw [List.take_succ_eq_append_getElem (by omega)]
      exact (List.mergeSort_perm _ _).append_right _
theorem stair_row (zs : List Int) {i : Nat} (hi : i ≤ zs.length) : rowOf (stairOf zs) i = sortI (zs.take i) := by
  have : stairAt zs zs.length = stairOf zs := by unfold stairAt stairOf; rw [List.take_length]
  rw [← this]; exact stairAt_row zs _ (Nat.le_refl _) i hi
theorem named_len {ns o : List Int} (h : ArrOk o) : (namedOf ns o).length = 4 := by simp [namedOf, h.len]
theorem row_len {ns o : List Int} (h : ArrOk o) {i : Nat} (hi : i ≤ 4) : (rowOf (stairOf (namedOf ns o)) i).length = i := by
  rw [stair_row _ (by rw [named_len h]; exact hi), len_sortI, List.length_take, named_len h]; omega
theorem corner_len (ns : List Int) (i j : Nat) : (cornerOf ns i j).length = (ordersOf ns).length := by simp [cornerOf, stairsOf]
theorem cell_len (ns : List Int) (i j : Nat) : (cellOf ns i j).length = (ordersOf ns).length := by simp [cellOf]

abbrev dR (rows : List (List Int)) : PyData := .list (rows.map dL)
section
variable {prog : Program} {w : World} {A : Around} {B : Bad} {h h₁ : Heap} {env : Env} {mg mb : Str → Option Value} {cm : Str → Option Value}
theorem evA_consV {pos : Pos} {e : Expr} {rest : List Expr} {v : Value} {ds : List PyData} (x : Ev prog w A B (eval e env) h (fun _ u => u = v)) (y : Ev prog w A B (spliced (backTo pos (starEach rest env))) h (fun h' vs => RepAll B h' vs ds))
    (he : starEach (e :: rest) env = (false, eval e env) :: starEach rest env := by rfl) : Ev prog w A B (spliced (backTo pos (starEach (e :: rest) env))) h (fun h' vs => ∃ ws, vs = v :: ws ∧ RepAll B h' ws ds) :=
  fun s Q E hk hl hq => args_cons (x s _ E hk hl fun u h₁ tk₁ k₁ p₁ => y _ _ E (hk.tr k₁) (hl.keep k₁) fun vs h₂ tk₂ k₂ p₂ => hq _ h₂ tk₂ (k₁.tr k₂) ⟨vs, by rw [p₁], p₂⟩) he
theorem ev_callP {f : Str} {p pos : Pos} {e : Expr} {rest : List Expr} {i : Nat} {dV : Value} {a : Addr} {PA : Heap → List Value → Prop} {P : Heap → Value → Prop} (l : LdN env f h (.ref a)) (g : FnAt h i dV a)
    (x : Ev prog w A B (spliced (backTo pos (starEach (e :: rest) env))) h PA)
    (z : ∀ h' vs, Keep h h' → Live B h' → PA h' vs → Ev prog w A B (call (.ref a) vs) h' P)
    (hd : (f == ("__debug__" : Str)) = false := by decide)
    (he : starEach (e :: rest) env = (false, eval e env) :: starEach rest env := by rfl) :
    Ev prog w A B (eval (.Call (.Name f p) (e :: rest) [] pos) env) h P := by
  obtain ⟨o, pm, cd, doc, eo, hf, c⟩ := g.is
  exact fun s Q E hk hl hq => Call_ (wpAny_Name (l _ _ s _ E hk (callWith_def hf (x s _ E hk hl fun vs h' tk k r => ⟨vg_get (k _ _ (hk _ _ eo)) (fun _ _ q => by rw [hf] at q; cases q), z h' vs (hk.tr k) (hl.keep k) r _ Q E Keep.rfl' (hl.keep k) fun v h'' tk' k' p' => hq v h'' tk' (k.tr k') p'⟩) he)) hd)

theorem pick_map {α β : Type} (f : α → β) (xs : List α) (lo hi st : Option Int) : pickL (xs.map f) lo hi st = (pickL xs lo hi st).map f := by
  unfold pickL
  rw [List.length_map, List.map_filterMap]
  congr 1
  funext i
  rw [List.getElem?_map]
theorem ty_rangeN {vs : List Value} {i : Nat} (r : RepAll B h vs [.int (i : Int)]) (h1 : i ≤ 1000) : Ev prog w A B (call (.type "range") vs) h (fun h' v => RangeV h' v 0 i) := by
  refine (ty_range1 r (by omega) (by omega)).mono fun h' v _ p => ?_
  simpa using p
theorem filt_true {α : Type} (xs : List α) : xs.filter (fun _ => true) = xs := List.filter_eq_self.mpr (fun _ _ => rfl)

/-- the text's defs, as the law meets them -/
structure Defs (mg : Str → Option Value) (h : Heap) : Prop where
  sld : GFn mg h "sorted_list_difference" 1
  twc : GFn mg h "three_way_cmp" 2
  ml : GFn mg h "median_low" 8
  mh : GFn mg h "median_high" 9
  arr : GFn mg h "_law_arranged" 11
  one : GFn mg h "_law_one_more" 12
  byt : GFn mg h "_law_by_turns" 13
  rea : GFn mg h "_law_reached" 14
  sq : GFn mg h "_law_is_square" 15
  red : ∃ a T T0 nT oT0, mg (Str.ofString "reduce") = some (.ref a) ∧ FnAt h 5 (.ref T) a ∧ vg h T = some { cls := .type "tuple", data := .seq #[.ref T0] nT } ∧ mg (Str.ofString "_initial_missing") = some (.ref T0) ∧ vg h T0 = some oT0 ∧ oT0.cls = .type "object" ∧ NoD oT0
theorem Defs.keep {h h' : Heap} (d : Defs mg h) (k : Keep h h') : Defs mg h' :=
  ⟨d.sld.keep k, d.twc.keep k, d.ml.keep k, d.mh.keep k, d.arr.keep k, d.one.keep k, d.byt.keep k, d.rea.keep k, d.sq.keep k, let ⟨a, T, T0, nT, oT0, e1, e2, e3, e4, e5, e6⟩ := d.red; ⟨a, T, T0, nT, oT0, e1, e2.keep k, k _ _ e3, e4, k _ _ e5, e6⟩⟩

theorem law_main {a : Addr} {v : Value} {ns : List Int} (ok : LawOk ns) (hB : Live B h) (G : Gx mg mb h) (f : FnAt h 16 .none a) (D : Defs mg h)
    (hh : A.handled = none) (hfr : FrOk A h) (hroom : A.depth + 3 < recursionLimit) (hu : A.units + 300 < cLine) (hlo : ∀ L, (∀ b o, vg h b = some o → b < L) → Base.lo ≤ L)
    (r : Rep B h v (dL ns)) (hn : ns.length < 64) :
    EvD prog w A B (call (.ref a) [v]) h (.bool true) := by
  obtain ⟨aM, gM, fM⟩ := D.ml
  obtain ⟨aH, gH, fH⟩ := D.mh
  obtain ⟨aA, gA, fA⟩ := D.arr
  obtain ⟨aO, gO, fO⟩ := D.one
  obtain ⟨aR, gR, fR⟩ := D.rea
  obtain ⟨aS, gS, fS⟩ := D.sq
  obtain ⟨aD, T, T0, nT, oT0, gD, fD, hT, hT0, hoT0, hcT0, hnT0⟩ := D.red
  refine call_fn (binds := [(Str.ofString "script", v)]) hB G f (by omega) (fun _ _ _ _ _ => BindsTo.of_eq rfl) (fun n => ?_) (fun pm cd doc L h₁ s => ?_)
  · intro y hy
    cases List.mem_singleton.mp hy; exact .inr ⟨rfl, rfl⟩
  conv in (bodyOf _) => whnf
  have hc1 : (bindC (fEnv 16 .none pm cd doc L a).kindOf [(Str.ofString "script", v)] fun _ => none) (Str.ofString "script") = some v := rfl
  generalize (bindL (fEnv 16 .none pm cd doc L a).kindOf [(Str.ofString "script", v)] fun _ => none) = m0 at *
  generalize (bindC (fEnv 16 .none pm cd doc L a).kindOf [(Str.ofString "script", v)] fun _ => none) = cm0 at *
  have hroom' : (A.deeper (fEnv 16 .none pm cd doc L a)).depth + 2 < recursionLimit := by show A.depth + 1 + 2 < recursionLimit; omega
  have hu' : (A.deeper (fEnv 16 .none pm cd doc L a)).units + 200 < cLine := by show A.units + 3 + 200 < cLine; omega
  have O : Outer (A.deeper (fEnv 16 .none pm cd doc L a)) (fEnv 16 .none pm cd doc L a) h := by
    obtain ⟨outer, hfr, q⟩ := hfr
    exact ⟨rfl, hlo _ s.above, s.F.kind, outer, Around.frames_deeper hfr, q⟩
  have G₁ := G.keep s.K
  have r₁ := s.old r
  -- step
  refine blk_cons (at_assignCK (d := .int (stepOf ns)) s rfl rfl (ev_bin ev_const_int (ev_callB (G₁.bin G.bAbs rfl rfl rfl rfl) (evA_cons (ev_callB (G₁.bin G.bSum rfl rfl rfl rfl) (ds := [dL (pickL ns (some 1) none (some 2))]) (evA_cons (EvD.cast (ev_slice (ev_name (s.F.ldc rfl rfl hc1) r₁) (evP_some ev_const_int) evP_none (evP_some ev_const_int) (by simp) (by simp; omega) (by intro o i; exact ⟨_, by with_unfolding_all rfl⟩)) ?_) evA_nil) fun h' vs k' rs => bi_sum hh rs) evA_nil) fun h' vs k' rs => bi_abs rs) fun h' a b _ p q => op_add p q) fun v2 h₂ s₂ r₂ kx₂ => ?_)
  · rw [pick_map]
  have cs₂ := (upd_ne (m := cm0) (x := Str.ofString "step") (v := v2) (y := Str.ofString "script") (by decide)).trans hc1
  have ct₂ := upd_eq (m := cm0) (x := Str.ofString "step") (v := v2)
  generalize upd cm0 (Str.ofString "step") v2 = cm2 at *
  have r₁₂ := rep_turn kx₂ r₁
  have G₂ := G.keep s₂.K
  have hcs := s₂.F.cellOf (x := Str.ofString "script") (c := L + 1) rfl cs₂
  have hct := s₂.F.cellOf (x := Str.ofString "step") (c := L + 2) rfl ct₂
  -- names
  refine blk_cons (at_assignCK (d := dL (namesOf ns)) s₂ rfl rfl (EvD.cast (ev_compL (cl := [(Str.ofString "step", L + 2), (Str.ofString "script", L + 1)]) (xs := List.range 4) (fun (i : Nat) => .int (0 + (i : Int))) (fun _ => true) (fun (c : Nat) => .int (ns.sum + stepOf ns * (c : Int))) rfl (by decide) rfl (by decide) rfl
    (ev_srcR hh (ev_callT (G₂.bin G.bRange rfl rfl rfl rfl) (evA_cons ev_const_int evA_nil) fun h' vs k' rs => ty_range1 rs (by decide) (by decide))) (by simp) fun c C u B' h' hx k kx kb l rx => ⟨evIfs_nil, fun _ => ?_⟩) ?_) fun v3 h₃ s₃ r₃ kx₃ => ?_)
  · have hc4 : c < 4 := List.mem_range.mp hx
    exact ev_bin (ev_callB ((G₂.keep k).bin G.bSum rfl rfl rfl rfl) (evA_cons (ev_name (ldn_cell rfl rfl rfl (cellK hcs k)) (r₁₂.lift kx)) evA_nil) fun h' vs k' rs => bi_sum hh rs) (ev_bin (ev_name (ldn_cell rfl rfl rfl (cellK hct k)) (r₂.lift kx)) (ev_name l rx.z) fun h' a b _ p q => op_mul p q (IntMulOk.of_right (by
      match c, hc4 with
      | 0, _ => decide
      | 1, _ => decide
      | 2, _ => decide
      | 3, _ => decide))) fun h' a b _ p q => op_add p q
  · rw [filt_true, namesOf, dL, List.map_map]; rfl
  have cs₃ := (upd_ne (m := cm2) (x := Str.ofString "names") (v := v3) (y := Str.ofString "script") (by decide)).trans cs₂
  have cn₃ := upd_eq (m := cm2) (x := Str.ofString "names") (v := v3)
  generalize upd cm2 (Str.ofString "names") v3 = cm3 at *
  have r₁₃ := rep_turn kx₃ r₁₂
  have G₃ := G.keep s₃.K
  -- orders
  refine blk_cons (at_assignCK (d := dR (ordersOf ns)) s₃ rfl rfl (EvD.cast (ev_compL (cl := []) (xs := ns.take 3 ++ [5, 2]) PyData.int (fun _ => true) (fun x => dL (arranged x)) rfl (by decide) rfl (by decide) rfl
    (ev_srcL hh (ev_bin (d₁ := dL (ns.take 3)) (d₂ := dL [5, 2]) (EvD.cast (ev_slice (ev_name (s₃.F.ldc rfl rfl cs₃) r₁₃) evP_none (evP_some ev_const_int) evP_none (by simp) (by simp; omega) (by intro o i; exact ⟨_, by with_unfolding_all rfl⟩)) (congrArg PyData.list ((pick_upto _ 3).trans List.map_take.symm))) (ev_list (evA_cons ev_const_int (evA_cons ev_const_int evA_nil))) fun h' a b _ p q => op_addLI p q (by simp; omega)))
    (by simp; omega) fun x C u B' h' hx k kx kb l rx => ⟨evIfs_nil, fun _ => ev_callG ((G₃.keep k).fn gA rfl rfl rfl) ((fA.keep s₃.K).keep k) (evA_cons (ev_name l rx) evA_nil) fun h' vs k' hl' rs => ?_⟩) ?_) fun v4 h₄ s₄ r₄ kx₄ => ?_)
  · obtain ⟨u1, rfl, q1⟩ := rs.one_inv
    exact law_arranged hl' ((G₃.keep k).keep k') (((fA.keep s₃.K).keep k).keep k') hh (by omega) q1
  · rw [filt_true, ordersOf, dR, List.map_map]; rfl
  have cn₄ := (upd_ne (m := cm3) (x := Str.ofString "orders") (v := v4) (y := Str.ofString "names") (by decide)).trans cn₃
  have co₄ := upd_eq (m := cm3) (x := Str.ofString "orders") (v := v4)
  generalize upd cm3 (Str.ofString "orders") v4 = cm4 at *
  have r₃₄ := rep_turn kx₄ r₃
  have G₄ := G.keep s₄.K
  have lnN := names_len ns
  have hk := orders_len ns
  have hOk := orders_ok ns
  have hcn := s₄.F.cellOf (x := Str.ofString "names") (c := L + 3) rfl cn₄
  -- stairs
  refine blk_cons (at_assignCK (d := .list ((stairsOf ns).map dR)) s₄ rfl rfl (EvD.cast (ev_compL (cl := [(Str.ofString "names", L + 3)]) (xs := ordersOf ns) dL (fun _ => true) (fun o => dR (stairOf (namedOf ns o))) rfl (by decide) rfl (by decide) rfl
    (ev_srcL hh (ev_name (s₄.F.ldc rfl rfl co₄) r₄)) (by omega) fun o C u B' h' hx k kx kb l rx => ⟨evIfs_nil, fun _ => ?_⟩) ?_) fun v5 h₅ s₅ r₅ kx₅ => ?_)
  · have ho := hOk o hx
    refine ev_callP ((G₄.keep k).fn gD rfl rfl rfl) ((fD.keep s₄.K).keep k) (evA_consV (ev_nameV ((G₄.keep k).fn gO rfl rfl rfl)) (evA_cons (EvD.cast (d' := dL (namedOf ns o)) (ev_compL (cl := [(Str.ofString "names", L + 3)]) (xs := o) PyData.int (fun _ => true) (fun c => .int ((namesOf ns).getD c.toNat 0)) rfl (by decide) rfl (by decide) rfl
      (ev_srcL hh (ev_name l rx)) (by rw [ho.len]; decide) fun c C2 u2 B2 h2 hx2 k2 kx2 kb2 l2 rx2 => ⟨evIfs_nil, fun _ => ?_⟩) ?_) (evA_cons (ev_list (evA_cons (ev_list evA_nil) evA_nil)) evA_nil))) fun h' vs k' hl' ⟨ws, hvs, rs⟩ => ?_
    · have hc := ho.mem c hx2
      exact ev_at (ev_name (ldn_cell rfl rfl rfl (cellK (cellK hcn k) k2)) ((r₃₄.lift kx).lift kx2)) (ev_name l2 (by rw [Int.toNat_of_nonneg hc.1]; exact rx2)) (by omega) (by omega)
    · rw [filt_true, namedOf, dL, List.map_map]; rfl
    · subst hvs
      obtain ⟨u1, u2, rfl, q1, q2⟩ := rs.two_inv
      exact reduce_stair hl' ((G₄.keep k).keep k') (((fD.keep s₄.K).keep k).keep k') (k' _ _ (k _ _ (s₄.K _ _ hT))) hT0 (k' _ _ (k _ _ (s₄.K _ _ hoT0))) hcT0 hnT0 (((fO.keep s₄.K).keep k).keep k') hh (by omega) q1 q2 (by rw [named_len ho]; decide)
  · rw [filt_true, stairsOf, List.map_map]; rfl
  have cn₅ := (upd_ne (m := cm4) (x := Str.ofString "stairs") (v := v5) (y := Str.ofString "names") (by decide)).trans cn₄
  have co₅ := (upd_ne (m := cm4) (x := Str.ofString "stairs") (v := v5) (y := Str.ofString "orders") (by decide)).trans co₄
  have ct₅ := upd_eq (m := cm4) (x := Str.ofString "stairs") (v := v5)
  generalize upd cm4 (Str.ofString "stairs") v5 = cm5 at *
  have r₃₅ := rep_turn kx₅ r₃₄
  have r₄₅ := rep_turn kx₅ r₄
  have G₅ := G.keep s₅.K
  have hstair : ∀ st ∈ stairsOf ns, st.length = 5 ∧ ∀ i, i < 5 → (rowOf st i).length = i := fun st hst => by
    obtain ⟨o, ho, rfl⟩ := List.mem_map.mp hst
    exact ⟨by rw [stair_len, named_len (hOk o ho)], fun i hi => row_len (hOk o ho) (by omega)⟩
  have lst : (stairsOf ns).length = (ordersOf ns).length := by simp [stairsOf]
  -- lows
  have hct₅ := s₅.F.cellOf (x := Str.ofString "stairs") (c := L + 5) rfl ct₅
  refine blk_cons (at_assignCompC (cl := [(Str.ofString "stairs", L + 5)]) (xs := List.range 5) (fun (i : Nat) => .int (0 + (i : Int))) (fun _ => true) (fun i => dL ((List.range i).map fun j => medLow (cornerOf ns i j))) s₅ rfl rfl (fun _ => rfl) (fun _ => rfl) rfl (by decide) rfl
    (ev_srcR hh (ev_callT (G₅.bin G.bRange rfl rfl rfl rfl) (evA_cons ev_const_int evA_nil) fun h' vs k' rs => ty_range1 rs (by decide) (by decide))) (by simp) (fun i C c u B' h' hx k kx kb hc rx => ⟨evIfs_nil, fun _ => ?_⟩) fun vLo h₆ s₆ rLo kx₆ => ?_)
  · have hi5 : i < 5 := List.mem_range.mp hx
    refine EvD.cast (ev_compC (cl := [(Str.ofString "stairs", L + 5), (Str.ofString "i", c)]) (xs := List.range i) (fun (i : Nat) => .int (0 + (i : Int))) (fun _ => true) (fun j => .int (medLow (cornerOf ns i j))) rfl (fun _ => rfl) (fun _ => rfl) rfl (by decide) rfl
      (ev_srcR hh (ev_callT ((G₅.keep k).bin G.bRange rfl rfl rfl rfl) (evA_cons (ev_name (ldn_cell rfl rfl rfl hc) rx.z) evA_nil) fun h' vs k' rs => ty_rangeN rs (by omega))) (by simp; omega) fun j C2 c2 u2 B2 h2 hx2 k2 kx2 kb2 hc2 rx2 => ⟨evIfs_nil, fun _ => ?_⟩) ?_
    · have hj : j < i := List.mem_range.mp hx2
      refine ev_callG (((G₅.keep k).keep k2).fn gM rfl rfl rfl) (((fM.keep s₅.K).keep k).keep k2) (evA_cons (EvD.cast (d' := dL (cornerOf ns i j)) (ev_compL (cl := [(Str.ofString "j", c2), (Str.ofString "i", c)]) (xs := stairsOf ns) dR (fun _ => true) (fun st => .int ((rowOf st i).getD j 0)) rfl (by decide) rfl (by decide) rfl
        (ev_srcL hh (ev_name (ldn_cell rfl rfl rfl (cellK (cellK hct₅ k) k2)) ((r₅.lift kx).lift kx2))) (by omega) fun st C3 u3 B3 h3 hx3 k3 kx3 kb3 l3 rx3 => ⟨evIfs_nil, fun _ => ?_⟩) ?_) evA_nil) fun h' vs k' hl' rs => ?_
      · obtain ⟨e1, e2⟩ := hstair st hx3
        have e3 := e2 i hi5
        exact ev_at (ev_row (ev_name l3 rx3) (ev_name (ldn_cell rfl rfl rfl (cellK (cellK hc k2) k3)) ((rx.z.lift kx2).lift kx3)) (by omega) (by omega)) (ev_name (ldn_cell rfl rfl rfl (cellK hc2 k3)) (rx2.z.lift kx3)) (by omega) (by omega)
      · rw [filt_true, cornerOf, dL, List.map_map]; rfl
      · obtain ⟨u1, rfl, q1⟩ := rs.one_inv
        have e4 := corner_len ns i j
        exact median_low hl' (((G₅.keep k).keep k2).keep k') ((((fM.keep s₅.K).keep k).keep k2).keep k') (by omega) q1 (by omega) (by omega)
    · rw [filt_true, dL, List.map_map]; rfl
  have rLo : Rep (BF B (fEnv 16 .none pm cd doc L a)) h₆ vLo (dR (lowsOf ns)) := by
    rw [filt_true] at rLo
    rw [lowsOf, dR, List.map_map]; exact rLo
  have mLo₆ := upd_eq (m := m0) (x := Str.ofString "lows") (v := vLo)
  generalize upd m0 (Str.ofString "lows") vLo = m6 at *
  have r₃₆ := rep_turn kx₆ r₃₅
  have r₄₆ := rep_turn kx₆ r₄₅
  have r₆ := rep_turn kx₆ r₅
  have ct₆ := ct₅
  have G₆ := G.keep s₆.K
  -- highs
  have hct₆ := s₆.F.cellOf (x := Str.ofString "stairs") (c := L + 5) rfl ct₆
  refine blk_cons (at_assignCompC (cl := [(Str.ofString "stairs", L + 5)]) (xs := List.range 5) (fun (i : Nat) => .int (0 + (i : Int))) (fun _ => true) (fun i => dL ((List.range i).map fun j => medHigh (cornerOf ns i j))) s₆ rfl rfl (fun _ => rfl) (fun _ => rfl) rfl (by decide) rfl
    (ev_srcR hh (ev_callT (G₆.bin G.bRange rfl rfl rfl rfl) (evA_cons ev_const_int evA_nil) fun h' vs k' rs => ty_range1 rs (by decide) (by decide))) (by simp) (fun i C c u B' h' hx k kx kb hc rx => ⟨evIfs_nil, fun _ => ?_⟩) fun vHi h₇ s₇ rHi kx₇ => ?_)
  · have hi5 : i < 5 := List.mem_range.mp hx
    refine EvD.cast (ev_compC (cl := [(Str.ofString "stairs", L + 5), (Str.ofString "i", c)]) (xs := List.range i) (fun (i : Nat) => .int (0 + (i : Int))) (fun _ => true) (fun j => .int (medHigh (cornerOf ns i j))) rfl (fun _ => rfl) (fun _ => rfl) rfl (by decide) rfl
      (ev_srcR hh (ev_callT ((G₆.keep k).bin G.bRange rfl rfl rfl rfl) (evA_cons (ev_name (ldn_cell rfl rfl rfl hc) rx.z) evA_nil) fun h' vs k' rs => ty_rangeN rs (by omega))) (by simp; omega) fun j C2 c2 u2 B2 h2 hx2 k2 kx2 kb2 hc2 rx2 => ⟨evIfs_nil, fun _ => ?_⟩) ?_
    · have hj : j < i := List.mem_range.mp hx2
      refine ev_callG (((G₆.keep k).keep k2).fn gH rfl rfl rfl) (((fH.keep s₆.K).keep k).keep k2) (evA_cons (EvD.cast (d' := dL (cornerOf ns i j)) (ev_compL (cl := [(Str.ofString "j", c2), (Str.ofString "i", c)]) (xs := stairsOf ns) dR (fun _ => true) (fun st => .int ((rowOf st i).getD j 0)) rfl (by decide) rfl (by decide) rfl
        (ev_srcL hh (ev_name (ldn_cell rfl rfl rfl (cellK (cellK hct₆ k) k2)) ((r₆.lift kx).lift kx2))) (by omega) fun st C3 u3 B3 h3 hx3 k3 kx3 kb3 l3 rx3 => ⟨evIfs_nil, fun _ => ?_⟩) ?_) evA_nil) fun h' vs k' hl' rs => ?_
      · obtain ⟨e1, e2⟩ := hstair st hx3
        have e3 := e2 i hi5
        exact ev_at (ev_row (ev_name l3 rx3) (ev_name (ldn_cell rfl rfl rfl (cellK (cellK hc k2) k3)) ((rx.z.lift kx2).lift kx3)) (by omega) (by omega)) (ev_name (ldn_cell rfl rfl rfl (cellK hc2 k3)) (rx2.z.lift kx3)) (by omega) (by omega)
      · rw [filt_true, cornerOf, dL, List.map_map]; rfl
      · obtain ⟨u1, rfl, q1⟩ := rs.one_inv
        have e4 := corner_len ns i j
        exact median_high hl' (((G₆.keep k).keep k2).keep k') ((((fH.keep s₆.K).keep k).keep k2).keep k') (by omega) q1 (by omega) (by omega)
    · rw [filt_true, dL, List.map_map]; rfl
  have rHi : Rep (BF B (fEnv 16 .none pm cd doc L a)) h₇ vHi (dR (highsOf ns)) := by
    rw [filt_true] at rHi
    rw [highsOf, dR, List.map_map]; exact rHi
  have mLo₇ := (upd_ne (m := m6) (x := Str.ofString "highs") (v := vHi) (y := Str.ofString "lows") (by decide)).trans mLo₆
  have mHi₇ := upd_eq (m := m6) (x := Str.ofString "highs") (v := vHi)
  generalize upd m6 (Str.ofString "highs") vHi = m7 at *
  have r₃₇ := rep_turn kx₇ r₃₆
  have r₄₇ := rep_turn kx₇ r₄₆
  have rLo₇ := rep_turn kx₇ rLo
  have G₇ := G.keep s₇.K
  -- counts
  have hco₇ := s₇.F.cellOf (x := Str.ofString "orders") (c := L + 4) rfl co₅
  refine blk_cons (at_assignCompC (cl := [(Str.ofString "orders", L + 4)]) (xs := List.range 4) (fun (i : Nat) => .int (0 + (i : Int))) (fun _ => true) (fun i => dR ((List.range 4).map fun c => cellOf ns i c)) s₇ rfl rfl (fun _ => rfl) (fun _ => rfl) rfl (by decide) rfl
    (ev_srcR hh (ev_callT (G₇.bin G.bRange rfl rfl rfl rfl) (evA_cons ev_const_int evA_nil) fun h' vs k' rs => ty_range1 rs (by decide) (by decide))) (by simp) (fun i C c u B' h' hx k kx kb hc rx => ⟨evIfs_nil, fun _ => ?_⟩) fun vCo h₈ s₈ rCo kx₈ => ?_)
  · have hi4 : i < 4 := List.mem_range.mp hx
    refine EvD.cast (ev_compC (cl := [(Str.ofString "orders", L + 4), (Str.ofString "i", c)]) (xs := List.range 4) (fun (i : Nat) => .int (0 + (i : Int))) (fun _ => true) (fun j => dL (cellOf ns i j)) rfl (fun _ => rfl) (fun _ => rfl) rfl (by decide) rfl
      (ev_srcR hh (ev_callT ((G₇.keep k).bin G.bRange rfl rfl rfl rfl) (evA_cons ev_const_int evA_nil) fun h' vs k' rs => ty_range1 rs (by decide) (by decide))) (by simp) fun j C2 c2 u2 B2 h2 hx2 k2 kx2 kb2 hc2 rx2 => ⟨evIfs_nil, fun _ => ?_⟩) ?_
    · have hj : j < 4 := List.mem_range.mp hx2
      refine EvD.cast (ev_compL (cl := [(Str.ofString "i", c), (Str.ofString "c", c2)]) (xs := ordersOf ns) dL (fun _ => true) (fun o => .int ((((o.take (i + 1)).filter fun t => decide (t ≤ (j : Int))).length : Nat) : Int)) rfl (by decide) rfl (by decide) rfl
        (ev_srcL hh (ev_name (ldn_cell rfl rfl rfl (cellK (cellK hco₇ k) k2)) ((r₄₇.lift kx).lift kx2))) (by omega) fun o C3 u3 B3 h3 hx3 k3 kx3 kb3 l3 rx3 => ⟨evIfs_nil, fun _ => ?_⟩) ?_
      · have ho := hOk o hx3
        have hlen : ((o.take (i + 1)).filter fun t => decide (t ≤ (j : Int))).length ≤ 4 := Nat.le_trans (List.length_filter_le _ _) (by simp [ho.len]; omega)
        refine ev_callB ((((G₇.keep k).keep k2).keep k3).bin G.bLen rfl rfl rfl rfl) (evA_cons (ev_compL (cl := [(Str.ofString "c", c2)]) (xs := o.take (i + 1)) PyData.int (fun t => decide (t ≤ (j : Int))) PyData.int rfl (by decide) rfl (by decide) rfl
          (ev_srcL hh (EvD.cast (ev_slice (ev_name l3 rx3) evP_none (evP_some (ev_bin (ev_name (ldn_cell rfl rfl rfl (cellK (cellK hc k2) k3)) ((rx.z.lift kx2).lift kx3)) ev_const_int fun h' a b _ p q => op_succ p q)) evP_none (by simp) (by simp [ho.len]) (by intro o i; exact ⟨_, by with_unfolding_all rfl⟩)) (by rw [pick_upto, ← List.map_take]))) (by simp [ho.len]; omega)
          fun t C4 u4 B4 h4 hx4 k4 kx4 kb4 l4 rx4 => ⟨evIfs_one (evB_cmp (ev_name l4 rx4) (ev_name (ldn_cell rfl rfl rfl (cellK (cellK hc2 k3) k4)) ((rx2.z.lift kx3).lift kx4)) fun h' a b _ p q => op_le p q), fun _ => ev_name l4 rx4⟩) evA_nil) fun h' vs k' rs => EvD.cast (bi_len rs (by rw [List.length_map]; omega)) (by rw [List.length_map])
      · rw [filt_true, cellOf, dL, List.map_map]; rfl
    · rw [filt_true, dR, List.map_map]; rfl
  have rCo : Rep (BF B (fEnv 16 .none pm cd doc L a)) h₈ vCo (.list ((countsOf ns).map dR)) := by
    rw [filt_true] at rCo
    rw [countsOf, List.map_map]; exact rCo
  have mLo₈ := (upd_ne (m := m7) (x := Str.ofString "counts") (v := vCo) (y := Str.ofString "lows") (by decide)).trans mLo₇
  have mHi₈ := (upd_ne (m := m7) (x := Str.ofString "counts") (v := vCo) (y := Str.ofString "highs") (by decide)).trans mHi₇
  have mCo₈ := upd_eq (m := m7) (x := Str.ofString "counts") (v := vCo)
  generalize upd m7 (Str.ofString "counts") vCo = m8 at *
  have r₃₈ := rep_turn kx₈ r₃₇
  have rLo₈ := rep_turn kx₈ rLo₇
  have rHi₈ := rep_turn kx₈ rHi
  have G₈ := G.keep s₈.K
  have lco : (countsOf ns).length = 4 := by simp [countsOf]
  have hline : ∀ line ∈ countsOf ns, line.length = 4 ∧ ∀ cell ∈ line, cell.length = (ordersOf ns).length := fun line hl => by
    obtain ⟨i, _, rfl⟩ := List.mem_map.mp hl
    refine ⟨by simp, fun cell hc => ?_⟩
    obtain ⟨c, _, rfl⟩ := List.mem_map.mp hc
    exact cell_len ns i c
  -- half
  refine blk_cons (at_assignCompL (cl := []) (xs := countsOf ns) dR (fun _ => true) (fun line => dL (line.map fun cell => reached cell 0)) s₈ rfl rfl (by decide) rfl (by decide) rfl
    (ev_srcL hh (ev_name (s₈.F.ld rfl mCo₈) rCo)) (by omega) (fun line C u B' h' hx k kx kb l rx => ⟨evIfs_nil, fun _ => ?_⟩) fun vHa h₉ s₉ rHa kx₉ => ?_)
  · obtain ⟨e1, e2⟩ := hline line hx
    refine EvD.cast (ev_compL (cl := []) (xs := line) dL (fun _ => true) (fun cell => .int (reached cell 0)) rfl (by decide) rfl (by decide) rfl (ev_srcL hh (ev_name l rx)) (by omega) fun cell C2 u2 B2 h2 hx2 k2 kx2 kb2 l2 rx2 => ⟨evIfs_nil, fun _ => ?_⟩) ?_
    · refine ev_callG (((G₈.keep k).keep k2).fn gR rfl rfl rfl) (((fR.keep s₈.K).keep k).keep k2) (evA_cons (ev_name l2 rx2) (evA_cons ev_const_int evA_nil)) fun h' vs k' hl' rs => ?_
      obtain ⟨u1, u2, rfl, q1, q2⟩ := rs.two_inv
      have e3 := e2 cell hx2
      exact law_reached hl' (((G₈.keep k).keep k2).keep k') ((((fR.keep s₈.K).keep k).keep k2).keep k') hh (by omega) q1 q2 (by omega)
    · rw [filt_true, dL, List.map_map]; rfl
  have rHa : Rep (BF B (fEnv 16 .none pm cd doc L a)) h₉ vHa (dR (halfOf ns 0)) := by
    rw [filt_true] at rHa
    rw [halfOf, dR, List.map_map]; exact rHa
  have mLo₉ := (upd_ne (m := m8) (x := Str.ofString "half") (v := vHa) (y := Str.ofString "lows") (by decide)).trans mLo₈
  have mHi₉ := (upd_ne (m := m8) (x := Str.ofString "half") (v := vHa) (y := Str.ofString "highs") (by decide)).trans mHi₈
  have mCo₉ := (upd_ne (m := m8) (x := Str.ofString "half") (v := vHa) (y := Str.ofString "counts") (by decide)).trans mCo₈
  have mHa₉ := upd_eq (m := m8) (x := Str.ofString "half") (v := vHa)
  generalize upd m8 (Str.ofString "half") vHa = m9 at *
  have r₃₉ := rep_turn kx₉ r₃₈
  have rLo₉ := rep_turn kx₉ rLo₈
  have rHi₉ := rep_turn kx₉ rHi₈
  have rCo₉ := rep_turn kx₉ rCo
  have G₉ := G.keep s₉.K
  -- more
  refine blk_cons (at_assignCompL (cl := []) (xs := countsOf ns) dR (fun _ => true) (fun line => dL (line.map fun cell => reached cell 1)) s₉ rfl rfl (by decide) rfl (by decide) rfl
    (ev_srcL hh (ev_name (s₉.F.ld rfl mCo₉) rCo₉)) (by omega) (fun line C u B' h' hx k kx kb l rx => ⟨evIfs_nil, fun _ => ?_⟩) fun vMo hA sA rMo kxA => ?_)
  · obtain ⟨e1, e2⟩ := hline line hx
    refine EvD.cast (ev_compL (cl := []) (xs := line) dL (fun _ => true) (fun cell => .int (reached cell 1)) rfl (by decide) rfl (by decide) rfl (ev_srcL hh (ev_name l rx)) (by omega) fun cell C2 u2 B2 h2 hx2 k2 kx2 kb2 l2 rx2 => ⟨evIfs_nil, fun _ => ?_⟩) ?_
    · refine ev_callG (((G₉.keep k).keep k2).fn gR rfl rfl rfl) (((fR.keep s₉.K).keep k).keep k2) (evA_cons (ev_name l2 rx2) (evA_cons ev_const_int evA_nil)) fun h' vs k' hl' rs => ?_
      obtain ⟨u1, u2, rfl, q1, q2⟩ := rs.two_inv
      have e3 := e2 cell hx2
      exact law_reached hl' (((G₉.keep k).keep k2).keep k') ((((fR.keep s₉.K).keep k).keep k2).keep k') hh (by omega) q1 q2 (by omega)
    · rw [filt_true, dL, List.map_map]; rfl
  have rMo : Rep (BF B (fEnv 16 .none pm cd doc L a)) hA vMo (dR (halfOf ns 1)) := by
    rw [filt_true] at rMo
    rw [halfOf, dR, List.map_map]; exact rMo
  have mLoA := (upd_ne (m := m9) (x := Str.ofString "more") (v := vMo) (y := Str.ofString "lows") (by decide)).trans mLo₉
  have mHiA := (upd_ne (m := m9) (x := Str.ofString "more") (v := vMo) (y := Str.ofString "highs") (by decide)).trans mHi₉
  have mCoA := (upd_ne (m := m9) (x := Str.ofString "more") (v := vMo) (y := Str.ofString "counts") (by decide)).trans mCo₉
  have mHaA := (upd_ne (m := m9) (x := Str.ofString "more") (v := vMo) (y := Str.ofString "half") (by decide)).trans mHa₉
  have mMoA := upd_eq (m := m9) (x := Str.ofString "more") (v := vMo)
  generalize upd m9 (Str.ofString "more") vMo = mA at *
  have r₃A := rep_turn kxA r₃₉
  have rLoA := rep_turn kxA rLo₉
  have rHiA := rep_turn kxA rHi₉
  have rCoA := rep_turn kxA rCo₉
  have rHaA := rep_turn kxA rHa
  have GA := G.keep sA.K
  have DA := D.keep sA.K
  have hloA : ∃ b o, Base.lo ≤ b ∧ vg hA b = some o := by
    obtain ⟨o, e⟩ := sA.F.alive (fEnv 16 .none pm cd doc L a).locals (.inl rfl)
    exact ⟨_, o, O.2.1, e⟩
  -- the squares
  refine blk_cons (blk_if (b := (!true || !true)) sA.live (evB_or2
    (evB_not (evB_val (ev_callG (GA.fn gS rfl rfl rfl) (fS.keep sA.K) (evA_cons (ev_name (sA.F.ld rfl mLoA) rLoA) (evA_cons (ev_name (sA.F.ldc rfl rfl cn₅) r₃A) (evA_cons (ev_name (sA.F.ld rfl mHaA) rHaA) evA_nil))) fun h' vs k' hl' rs => ?_)))
    (evB_not (evB_val (ev_callG (GA.fn gS rfl rfl rfl) (fS.keep sA.K) (evA_cons (ev_name (sA.F.ld rfl mHiA) rHiA) (evA_cons (ev_name (sA.F.ldc rfl rfl cn₅) r₃A) (evA_cons (ev_name (sA.F.ld rfl mMoA) rMo) evA_nil))) fun h' vs k' hl' rs => ?_)))) (fun e => by cases e) fun _ hC kC => blk_nil ?_)
  · obtain ⟨u1, u2, u3, rfl, q1, q2, q3⟩ := rs.three_inv
    exact law_is_square (A := A.deeper (fEnv 16 .none pm cd doc L a)) ok.low hl' (GA.keep k') ((fS.keep sA.K).keep k') (DA.sld.keep k') (DA.twc.keep k') (DA.byt.keep k') hh (O.ok' sA k') (by omega) (by omega) (let ⟨b, o, x, y⟩ := hloA; ⟨b, o, x, k' _ _ y⟩) q1 q2 q3
  · obtain ⟨u1, u2, u3, rfl, q1, q2, q3⟩ := rs.three_inv
    exact law_is_square (A := A.deeper (fEnv 16 .none pm cd doc L a)) ok.high hl' (GA.keep k') ((fS.keep sA.K).keep k') (DA.sld.keep k') (DA.twc.keep k') (DA.byt.keep k') hh (O.ok' sA k') (by omega) (by omega) (let ⟨b, o, x, y⟩ := hloA; ⟨b, o, x, k' _ _ y⟩) q1 q2 q3
  have sC := sA.more kC
  have GC := G.keep sC.K
  -- the medians
  refine blk_cons (blk_if (b := false) sC.live (evB_cmp (d₁ := dR (halfOf ns 1)) (EvD.cast (ev_compL (cl := []) (xs := countsOf ns) dR (fun _ => true) (fun line => dL (line.map medLow)) rfl (by decide) rfl (by decide) rfl
    (ev_srcL hh (ev_name (sC.F.ld rfl mCoA) (rCoA.keep kC))) (by omega) fun line C u B' h' hx k kx kb l rx => ⟨evIfs_nil, fun _ => ?_⟩) ?_) (ev_name (sC.F.ld rfl mMoA) (rMo.keep kC)) fun h' a b _ p q => op_neS p q (shaped_rows _) (by omega)) (fun e => by cases e) fun _ hE kE => blk_nil ?_)
  · obtain ⟨e1, e2⟩ := hline line hx
    refine EvD.cast (ev_compL (cl := []) (xs := line) dL (fun _ => true) (fun cell => .int (medLow cell)) rfl (by decide) rfl (by decide) rfl (ev_srcL hh (ev_name l rx)) (by omega) fun cell C2 u2 B2 h2 hx2 k2 kx2 kb2 l2 rx2 => ⟨evIfs_nil, fun _ => ?_⟩) ?_
    · refine ev_callG (((GC.keep k).keep k2).fn gM rfl rfl rfl) (((fM.keep sC.K).keep k).keep k2) (evA_cons (ev_name l2 rx2) evA_nil) fun h' vs k' hl' rs => ?_
      obtain ⟨u1, rfl, q1⟩ := rs.one_inv
      have e3 := e2 cell hx2
      exact median_low hl' (((GC.keep k).keep k2).keep k') ((((fM.keep sC.K).keep k).keep k2).keep k') (by omega) q1 (by omega) (by omega)
    · rw [filt_true, dL, List.map_map]; rfl
  · rw [filt_true, ← ok.ml, dR, List.map_map]; rfl
  have sE := sC.more kE
  have GE := G.keep sE.K
  refine at_ret1 sE (ev_cmp (d₁ := dR (halfOf ns 0)) (EvD.cast (ev_compL (cl := []) (xs := countsOf ns) dR (fun _ => true) (fun line => dL (line.map medHigh)) rfl (by decide) rfl (by decide) rfl
    (ev_srcL hh (ev_name (sE.F.ld rfl mCoA) ((rCoA.keep kC).keep kE))) (by omega) fun line C u B' h' hx k kx kb l rx => ⟨evIfs_nil, fun _ => ?_⟩) ?_) (ev_name (sE.F.ld rfl mHaA) ((rHaA.keep kC).keep kE)) fun h' a b _ p q => op_eqS p q (shaped_rows _) (by omega))
  · obtain ⟨e1, e2⟩ := hline line hx
    refine EvD.cast (ev_compL (cl := []) (xs := line) dL (fun _ => true) (fun cell => .int (medHigh cell)) rfl (by decide) rfl (by decide) rfl (ev_srcL hh (ev_name l rx)) (by omega) fun cell C2 u2 B2 h2 hx2 k2 kx2 kb2 l2 rx2 => ⟨evIfs_nil, fun _ => ?_⟩) ?_
    · refine ev_callG (((GE.keep k).keep k2).fn gH rfl rfl rfl) (((fH.keep sE.K).keep k).keep k2) (evA_cons (ev_name l2 rx2) evA_nil) fun h' vs k' hl' rs => ?_
      obtain ⟨u1, rfl, q1⟩ := rs.one_inv
      have e3 := e2 cell hx2
      exact median_high hl' (((GE.keep k).keep k2).keep k') ((((fH.keep sE.K).keep k).keep k2).keep k') (by omega) q1 (by omega) (by omega)
    · rw [filt_true, dL, List.map_map]; rfl
  · rw [filt_true, ← ok.mh, dR, List.map_map]; rfl
end
end OpA
namespace OpA
variable [Base]

theorem sortI_sorted (xs : List Int) : (sortI xs).Pairwise (fun a b => a ≤ b) :=
  (List.pairwise_mergeSort (le := fun (a b : Int) => decide (a ≤ b)) (by intro a b c h1 h2; simp at *; omega) (by intro a b; simp; omega) xs).imp fun h => by simpa using h
theorem sorted_nth : ∀ (l : List Int), l.Pairwise (fun a b => a ≤ b) → ∀ (m : Nat), m < l.length → ∀ t : Int, (l.getD m 0 ≤ t ↔ m < (l.filter fun x => decide (x ≤ t)).length)
  | [], _, m, hm, _ => by simp at hm
  | a :: l, h, m, hm, t => by
    have h1 := List.pairwise_cons.mp h
    by_cases hat : a ≤ t
    · rw [List.filter_cons, if_pos (by simpa using hat), List.length_cons]
      cases m with
      | zero => simp [hat]
      | succ m =>
        have := sorted_nth l h1.2 m (by simpa using hm) t
        rw [List.getD_cons_succ, this]; omega
    · have hn : l.filter (fun x => decide (x ≤ t)) = [] := List.filter_eq_nil_iff.mpr fun x hx => by
        have := h1.1 x hx; simp; omega
      rw [List.filter_cons, if_neg (by simpa using hat), hn]
      cases m with
      | zero => simp; omega
      | succ m =>
        have hm' : m < l.length := by simpa using hm
        have := h1.1 l[m] (List.getElem_mem hm')
        rw [List.getD_cons_succ, List.getD_eq_getElem?_getD, List.getElem?_eq_getElem hm']
        simp; omega
theorem nth_le (xs : List Int) {m : Nat} (hm : m < xs.length) (t : Int) : (sortI xs).getD m 0 ≤ t ↔ m < (xs.filter fun x => decide (x ≤ t)).length := by
  rw [sorted_nth _ (sortI_sorted xs) m (by rw [len_sortI]; exact hm) t, ((List.mergeSort_perm xs _).filter _).length_eq]
theorem nth_mem (xs : List Int) {m : Nat} (hm : m < xs.length) : (sortI xs).getD m 0 ∈ xs := by
  have hm' : m < (sortI xs).length := by rw [len_sortI]; exact hm
  rw [List.getD_eq_getElem?_getD, List.getElem?_eq_getElem hm', Option.getD_some]
  exact (List.mergeSort_perm xs _).mem_iff.mp (List.getElem_mem hm')

/-- each item of xs that p takes, m + 1 times -/
def rp (m : Nat) (p : Int → Bool) : List Int → List Int
  | [] => []
  | x :: xs => if p x then x :: (List.replicate m x ++ rp m p xs) else rp m p xs
theorem rp_mem {m : Nat} {p : Int → Bool} : ∀ {xs : List Int} {y : Int}, y ∈ rp m p xs → y ∈ xs
  | [], _, h => h
  | x :: xs, y, h => by
    unfold rp at h
    split at h
    · rcases List.mem_cons.mp h with rfl | h
      · simp
      · rcases List.mem_append.mp h with h | h
        · rw [List.eq_of_mem_replicate h]; simp
        · exact List.mem_cons_of_mem _ (rp_mem h)
    · exact List.mem_cons_of_mem _ (rp_mem h)
theorem drop_reps {x : Int} : ∀ (m : Nat) {L : List Int}, (∀ y ∈ L, x < y) → (List.replicate m x ++ L).dropWhile (· == x) = L
  | 0, [], _ => rfl
  | 0, y :: L, h => by
    have := h y (by simp)
    have hne : (y == x) = false := by simp; omega
    simp [List.dropWhile_cons, hne]
  | m + 1, L, h => by
    rw [List.replicate_succ, List.cons_append, List.dropWhile_cons]
    simp only [beq_self_eq_true, if_true]
    exact drop_reps m h
theorem sld_rp {m : Nat} {T : List Int} (hT : (T = [] ∧ m = 0) ∨ ∃ t, T = [t]) (p q : Int → Bool) : ∀ xs : List Int, xs.Pairwise (fun a b => a < b) → (∀ x ∈ xs, ∀ t ∈ T, x < t) →
    sld (rp m p xs ++ T) (rp m q xs ++ T) = (xs.filter (fun x => p x && !q x), xs.filter (fun x => q x && !p x))
  | [], _, _ => by
    rcases hT with ⟨rfl, _⟩ | ⟨t, rfl⟩
    · simp [rp, sld_nil]
    · simp only [rp, List.nil_append, List.filter_nil]
      rw [sld_eq _ _ (by omega) (by omega)]
      simp [sld_nil]
  | x :: xs, h, hx => by
    have h1 := List.pairwise_cons.mp h
    have ih := sld_rp hT p q xs h1.2 (fun y hy => hx y (List.mem_cons_of_mem _ hy))
    have gt : ∀ r : Int → Bool, ∀ y ∈ rp m r xs ++ T, x < y := fun r y hy => by
      rcases List.mem_append.mp hy with hy | hy
      · exact h1.1 y (rp_mem hy)
      · exact hx x (by simp) y hy
    have e : ∀ r : Int → Bool, rp m r (x :: xs) ++ T = if r x then x :: (List.replicate m x ++ (rp m r xs ++ T)) else rp m r xs ++ T := fun r => by
      rw [rp]; split <;> simp
    have dr : ∀ r : Int → Bool, (List.replicate m x ++ (rp m r xs ++ T)).dropWhile (· == x) = rp m r xs ++ T := fun r => drop_reps m (gt r)
    rw [e p, e q, List.filter_cons, List.filter_cons]
    cases hp : p x <;> cases hq : q x <;> simp only [Bool.not_true, Bool.not_false, Bool.and_true, Bool.and_false, Bool.true_and, Bool.false_and, if_true, Bool.false_eq_true, if_false]
    · exact ih
    · -- only q
      have gp := gt p
      cases hR : rp m p xs ++ T with
      | nil =>
        have hT0 : T = [] := (List.append_eq_nil_iff.mp hR).2
        have hm : m = 0 := by
          rcases hT with ⟨_, h⟩ | ⟨t, rfl⟩
          · exact h
          · cases hT0
        subst hm
        rw [hR, sld_nil] at ih
        rw [sld_nil]
        have e1 := congrArg Prod.fst ih
        have e2 := congrArg Prod.snd ih
        simp only at e1 e2
        rw [← e1, ← e2]; rfl
      | cons y ys =>
        rw [hR] at ih gp
        rw [sld_gt _ _ (gp y (by simp)), dr q, ih]
    · -- only p
      have gq := gt q
      cases hR : rp m q xs ++ T with
      | nil =>
        have hT0 : T = [] := (List.append_eq_nil_iff.mp hR).2
        have hm : m = 0 := by
          rcases hT with ⟨_, h⟩ | ⟨t, rfl⟩
          · exact h
          · cases hT0
        subst hm
        rw [hR, sld_nil'] at ih
        rw [sld_nil']
        have e1 := congrArg Prod.fst ih
        have e2 := congrArg Prod.snd ih
        simp only at e1 e2
        rw [← e1, ← e2]; rfl
      | cons y ys =>
        rw [hR] at ih gq
        rw [sld_lt _ _ (gq y (by simp)), dr p, ih]
    · rw [sld_eq _ _ (by omega) (by omega), dr p, dr q, ih]
theorem rp_zero (p : Int → Bool) : ∀ xs : List Int, rp 0 p xs = xs.filter p
  | [] => rfl
  | x :: xs => by rw [rp, List.filter_cons, rp_zero p xs]; rfl
theorem rp_perm (p : Int → Bool) : ∀ xs : List Int, (rp 1 p xs).Perm (xs.filter p ++ xs.filter p)
  | [] => .nil
  | x :: xs => by
    rw [rp, List.filter_cons]
    have ih := rp_perm p xs
    split
    · show (x :: (x :: rp 1 p xs)).Perm _
      rw [List.cons_append]
      refine .cons x ?_
      exact (ih.cons x).trans List.perm_middle.symm
    · exact ih
theorem rp_sorted (p : Int → Bool) : ∀ xs : List Int, xs.Pairwise (fun a b => a < b) → (rp 1 p xs).Pairwise (fun a b => a ≤ b)
  | [], _ => .nil
  | x :: xs, h => by
    have h1 := List.pairwise_cons.mp h
    have ih := rp_sorted p xs h1.2
    have g : ∀ y ∈ rp 1 p xs, x ≤ y := fun y hy => Int.le_of_lt (h1.1 y (rp_mem hy))
    rw [rp]
    split
    · show (x :: (x :: rp 1 p xs)).Pairwise _
      refine .cons (fun y hy => ?_) (.cons g ih)
      rcases List.mem_cons.mp hy with rfl | hy
      · exact Int.le_refl _
      · exact g y hy
    · exact ih
theorem sort_dbl (p : Int → Bool) (xs : List Int) (h : xs.Pairwise (fun a b => a < b)) : sortI (xs.filter p ++ xs.filter p) = rp 1 p xs :=
  List.Perm.eq_of_pairwise (le := fun a b => a ≤ b) (fun a b _ _ h1 h2 => by omega) (sortI_sorted _) (rp_sorted p xs h) ((List.mergeSort_perm _ _).trans (rp_perm p xs).symm)
end OpA
namespace OpA
variable [Base]

/-- a row that is told by how many of its items lie at or under each name -/
theorem row_eq {n0 n1 n2 n3 : Int} (l0 : n0 < n1) (l1 : n1 < n2) (l2 : n2 < n3) {a : Nat → Nat} (a0 : a 0 = 0) (st : ∀ t, t < 4 → a t ≤ a (t + 1) ∧ a (t + 1) ≤ a t + 1) {row : List Int}
    (hl : row.length = a 4) (hj : ∀ j, j < a 4 → ∀ t, t < 4 → (row.getD j 0 ≤ [n0, n1, n2, n3].getD t 0 ↔ j < a (t + 1))) (hm : ∀ x ∈ row, x ∈ [n0, n1, n2, n3]) :
    row = [n0, n1, n2, n3].filter (fun x => decide (x ∈ row)) ∧ ∀ t, t < 4 → ([n0, n1, n2, n3].getD t 0 ∈ row ↔ a t < a (t + 1)) := by
  have hs : [n0, n1, n2, n3].Pairwise (fun x y => x < y) := by
    simp only [List.pairwise_cons, List.mem_cons, List.not_mem_nil, or_false, forall_eq_or_imp, forall_eq, List.Pairwise.nil, and_true, false_implies, implies_true]
    omega
  have hlen : [n0, n1, n2, n3].length = 4 := rfl
  generalize [n0, n1, n2, n3] = ns at hs hlen hj hm ⊢
  clear l0 l1 l2
  have lt : ∀ {t u : Nat}, t < u → u < 4 → ns.getD t 0 < ns.getD u 0 := fun {t u} h hu => by
    have ht : t < ns.length := by omega
    have hu' : u < ns.length := by omega
    simp only [List.getD_eq_getElem?_getD, List.getElem?_eq_getElem ht, List.getElem?_eq_getElem hu', Option.getD_some]
    exact List.pairwise_iff_getElem.mp hs t u ht hu' h
  have at_row : ∀ {j : Nat} (h : j < row.length), row.getD j 0 = row[j] := fun h => by rw [List.getD_eq_getElem?_getD, List.getElem?_eq_getElem h, Option.getD_some]
  have le4 : ∀ d t, t + d = 4 → a t ≤ a 4 := fun d => by
    induction d with
    | zero => intro t h; have : t = 4 := h; rw [this]; exact Nat.le_refl _
    | succ d ih => intro t h; exact Nat.le_trans (st t (by omega)).1 (ih (t + 1) (by omega))
  -- the name at a place, and what it says of the place
  have pick : ∀ j, j < a 4 → ∃ t, t < 4 ∧ row.getD j 0 = ns.getD t 0 := fun j h => by
    have hr : j < row.length := by omega
    obtain ⟨t, ht, e⟩ := List.mem_iff_getElem.mp (hm _ (List.getElem_mem hr))
    refine ⟨t, by omega, ?_⟩
    rw [at_row hr, ← e, List.getD_eq_getElem?_getD, List.getElem?_eq_getElem ht, Option.getD_some]
  have tell : ∀ j, j < a 4 → ∀ t, t < 4 → row.getD j 0 = ns.getD t 0 → a t ≤ j ∧ j < a (t + 1) := fun j h t ht e => by
    refine ⟨?_, (hj j h t ht).mp (Int.le_of_eq e)⟩
    cases t with
    | zero => rw [a0]; exact Nat.zero_le _
    | succ u =>
      refine Nat.not_lt.mp fun q => ?_
      have h1 := (hj j h u (by omega)).mpr q
      have h2 : ns.getD u 0 < ns.getD (u + 1) 0 := lt (Nat.lt_succ_self u) ht
      omega
  have mem : ∀ t, t < 4 → (ns.getD t 0 ∈ row ↔ a t < a (t + 1)) := fun t ht => by
    constructor
    · intro h
      obtain ⟨j, hr, e⟩ := List.mem_iff_getElem.mp h
      have := tell j (by omega) t ht ((at_row hr).trans e)
      omega
    · intro h
      have h4 := le4 (3 - t) (t + 1) (by omega)
      obtain ⟨u, hu, e⟩ := pick (a t) (by omega)
      have x := (hj (a t) (by omega) t ht).mpr h
      have hr : a t < row.length := by omega
      have : u = t := by
        refine Nat.le_antisymm (Nat.not_lt.mp fun q => ?_) (Nat.not_lt.mp fun q => ?_)
        · have := lt q hu
          omega
        · have h1 := (tell (a t) (by omega) u hu e).2
          have h2 : ∀ d, u + 1 + d ≤ 4 → a (u + 1) ≤ a (u + 1 + d) := fun d => by
            induction d with
            | zero => intro _; exact Nat.le_refl _
            | succ d ih => intro hd; exact Nat.le_trans (ih (by omega)) (st _ (by omega)).1
          have h3 := h2 (t - (u + 1)) (by omega)
          rw [show u + 1 + (t - (u + 1)) = t from by omega] at h3
          omega
      rw [← this, ← e, at_row hr]
      exact List.getElem_mem hr
  have sorted : row.Pairwise (fun x y => x < y) := List.pairwise_iff_getElem.mpr fun i j hi hj' hij => by
    obtain ⟨t, ht, e⟩ := pick i (by omega)
    have h1 := tell i (by omega) t ht e
    have h2 := st t ht
    have h3 := mt (hj j (by omega) t ht).mp (by omega)
    rw [at_row hj'] at h3
    rw [at_row hi] at e
    omega
  have nodup : ∀ {l : List Int}, l.Pairwise (fun x y => x < y) → l.Nodup := fun h => h.imp fun q => Int.ne_of_lt q
  refine ⟨List.Perm.eq_of_pairwise (le := fun x y => x < y) (fun x y _ _ h1 h2 => absurd h1 (Int.lt_asymm h2)) sorted (hs.filter _) ?_, mem⟩
  refine (List.perm_ext_iff_of_nodup (nodup sorted) (nodup (hs.filter _))).mpr fun x => ?_
  rw [List.mem_filter, decide_eq_true_iff]
  exact ⟨fun h => ⟨hm x h, h⟩, fun h => h.2⟩
end OpA
namespace OpA
variable [Base]

theorem pick_filter (f : Int → Bool) (n0 n1 n2 n3 : Int) (g : Nat → Bool) (hg : ∀ c, c < 4 → g c = f ([n0, n1, n2, n3].getD c 0)) :
    ((List.range 4).filter g).map (fun c => [n0, n1, n2, n3].getD c 0) = [n0, n1, n2, n3].filter f := by
  have e : [n0, n1, n2, n3] = (List.range 4).map (fun c => [n0, n1, n2, n3].getD c 0) := rfl
  conv => rhs; rw [e, List.filter_map]
  congr 1
  exact List.filter_congr fun c hc => hg c (List.mem_range.mp hc)
theorem turns_ok : ∀ p0 p1 p2 p3 q0 q1 q2 q3 : Bool,
    (0 ≤ b2i q0 - b2i p0 ∧ b2i q0 - b2i p0 ≤ 1) → (0 ≤ b2i q0 - b2i p0 + (b2i q1 - b2i p1) ∧ b2i q0 - b2i p0 + (b2i q1 - b2i p1) ≤ 1) →
    (0 ≤ b2i q0 - b2i p0 + (b2i q1 - b2i p1) + (b2i q2 - b2i p2) ∧ b2i q0 - b2i p0 + (b2i q1 - b2i p1) + (b2i q2 - b2i p2) ≤ 1) →
    b2i q0 - b2i p0 + (b2i q1 - b2i p1) + (b2i q2 - b2i p2) + (b2i q3 - b2i p3) = 1 →
    byTurns [b2i q0 - b2i p0, b2i q1 - b2i p1, b2i q2 - b2i p2, b2i q3 - b2i p3] = true := by decide +kernel
theorem mk_eq (rows : List (List Int)) (i : Nat) (n : Int) : mk rows i n = b2i (decide (n ∈ rowOf rows (i + 1))) - b2i (decide (n ∈ rowOf rows i)) := by
  unfold mk
  cases decide (n ∈ rowOf rows (i + 1)) <;> cases decide (n ∈ rowOf rows i) <;> rfl
theorem b2i_eq {p : Prop} [Decidable p] {a b : Nat} (h : p ↔ a < b) (hs : a ≤ b ∧ b ≤ a + 1) : b2i (decide p) = (b : Int) - a := by
  by_cases hp : p
  · have := h.mp hp
    rw [decide_eq_true hp]
    show (1 : Int) = _
    omega
  · have := mt h.mpr hp
    rw [decide_eq_false hp]
    show (0 : Int) = _
    omega
theorem sq_of {n0 n1 n2 n3 : Int} (l0 : n0 < n1) (l1 : n1 < n2) (l2 : n2 < n3) {H : Nat → Nat → Nat} (h0 : ∀ t, t ≤ 4 → H 0 t = 0) (hz : ∀ i, i ≤ 4 → H i 0 = 0) (hf : ∀ i, i ≤ 4 → H i 4 = i)
    (st : ∀ i, i ≤ 4 → ∀ t, t < 4 → H i t ≤ H i (t + 1) ∧ H i (t + 1) ≤ H i t + 1) (sd : ∀ i, i < 4 → ∀ t, t ≤ 4 → H i t ≤ H (i + 1) t ∧ H (i + 1) t ≤ H i t + 1)
    {rows sums : List (List Int)} (lr : rows.length = 5) (hl : ∀ i, i ≤ 4 → (rowOf rows i).length = i)
    (hj : ∀ i, i ≤ 4 → ∀ j, j < i → ∀ t, t < 4 → ((rowOf rows i).getD j 0 ≤ [n0, n1, n2, n3].getD t 0 ↔ j < H i (t + 1))) (hm : ∀ i, i ≤ 4 → ∀ x ∈ rowOf rows i, x ∈ [n0, n1, n2, n3])
    (ls : sums.length = 4) (lc : ∀ i, i < 4 → (rowOf sums i).length = 4) (hs : ∀ i c, i < 4 → c < 4 → (rowOf sums i).getD c 0 = (H (i + 1) (c + 1) : Int)) :
    SqOk rows [n0, n1, n2, n3] sums := by
  have R : ∀ i, i ≤ 4 → rowOf rows i = [n0, n1, n2, n3].filter (fun x => decide (x ∈ rowOf rows i)) ∧ ∀ t, t < 4 → ([n0, n1, n2, n3].getD t 0 ∈ rowOf rows i ↔ H i t < H i (t + 1)) := fun i hi =>
    row_eq l0 l1 l2 (hz i hi) (st i hi) (by rw [hl i hi, hf i hi]) (fun j h => hj i hi j (by rw [hf i hi] at h; exact h)) (hm i hi)
  have pw : [n0, n1, n2, n3].Pairwise (fun a b => a < b) := by simp; omega
  have M : ∀ i, i < 4 → ∀ t, t < 4 → mk rows i ([n0, n1, n2, n3].getD t 0) = ((H (i + 1) (t + 1) : Int) - H (i + 1) t) - ((H i (t + 1) : Int) - H i t) := fun i hi t ht => by
    rw [mk_eq, b2i_eq ((R (i + 1) (by omega)).2 t ht) (st (i + 1) (by omega) t ht), b2i_eq ((R i (by omega)).2 t ht) (st i (by omega) t ht)]
  have mg : ∀ i c, c < 4 → (marksAt rows [n0, n1, n2, n3] i).getD c 0 = mk rows i ([n0, n1, n2, n3].getD c 0) := fun i c hc => by
    have : c = 0 ∨ c = 1 ∨ c = 2 ∨ c = 3 := by omega
    rcases this with rfl | rfl | rfl | rfl <;> rfl
  have gone : ∀ i, goneAt rows [n0, n1, n2, n3] i = [n0, n1, n2, n3].filter (fun x => decide (x ∈ rowOf rows i) && !decide (x ∈ rowOf rows (i + 1))) := fun i =>
    pick_filter _ n0 n1 n2 n3 _ fun c hc => by
      rw [mg i c hc, mk_eq]
      cases decide ([n0, n1, n2, n3].getD c 0 ∈ rowOf rows (i + 1)) <;> cases decide ([n0, n1, n2, n3].getD c 0 ∈ rowOf rows i) <;> rfl
  have come : ∀ i, comeAt rows [n0, n1, n2, n3] i = [n0, n1, n2, n3].filter (fun x => decide (x ∈ rowOf rows (i + 1)) && !decide (x ∈ rowOf rows i)) := fun i =>
    pick_filter _ n0 n1 n2 n3 _ fun c hc => by
      rw [mg i c hc, mk_eq]
      cases decide ([n0, n1, n2, n3].getD c 0 ∈ rowOf rows (i + 1)) <;> cases decide ([n0, n1, n2, n3].getD c 0 ∈ rowOf rows i) <;> rfl
  have Z : ∀ p q : Int → Bool, sld ([n0, n1, n2, n3].filter p) ([n0, n1, n2, n3].filter q) = ([n0, n1, n2, n3].filter (fun x => p x && !q x), [n0, n1, n2, n3].filter (fun x => q x && !p x)) := fun p q => by
    have := sld_rp (m := 0) (T := []) (.inl ⟨rfl, rfl⟩) p q [n0, n1, n2, n3] pw (fun _ _ _ h => by cases h)
    rwa [List.append_nil, List.append_nil, rp_zero, rp_zero] at this
  refine ⟨lr, rfl, ls, lc, fun i hi => by rw [hl i (by omega)]; omega, fun i hi => ?_, fun i hi => ?_, fun i hi => ?_, fun i hi => ?_, fun i c hi hc => ?_⟩
  · have r1 := (R i (by omega)).1
    have r2 := (R (i + 1) (by omega)).1
    rw [gone i, come i, ← Z, ← r1, ← r2]
  · have r1 := (R i (by omega)).1
    have r2 := (R (i + 1) (by omega)).1
    rw [gone i, come i, ← Z, ← r1, ← r2]
  · have r1 := (R i (by omega)).1
    have r2 := (R (i + 1) (by omega)).1
    have e1 := sort_dbl (fun x => decide (x ∈ rowOf rows i)) _ pw
    have e2 := sort_dbl (fun x => decide (x ∈ rowOf rows (i + 1))) _ pw
    rw [← r1] at e1
    rw [← r2] at e2
    rw [e1, e2, gone i, come i]
    refine sld_rp (m := 1) (.inr ⟨_, rfl⟩) _ _ _ pw fun x hx t ht => ?_
    simp at hx ht
    omega
  · have e : marksAt rows [n0, n1, n2, n3] i = [mk rows i n0, mk rows i n1, mk rows i n2, mk rows i n3] := rfl
    have m0 := M i hi 0 (by omega)
    have m1 := M i hi 1 (by omega)
    have m2 := M i hi 2 (by omega)
    have m3 := M i hi 3 (by omega)
    have f1 := hf i (by omega)
    have f2 := hf (i + 1) (by omega)
    have z1 := hz i (by omega)
    have z2 := hz (i + 1) (by omega)
    have d1 := sd i hi 1 (by omega)
    have d2 := sd i hi 2 (by omega)
    have d3 := sd i hi 3 (by omega)
    rw [e]
    simp only [List.getD_cons_zero, List.getD_cons_succ, Nat.zero_add, Nat.reduceAdd] at m0 m1 m2 m3
    rw [mk_eq] at m0 m1 m2 m3
    rw [mk_eq, mk_eq, mk_eq, mk_eq]
    refine turns_ok _ _ _ _ _ _ _ _ ?_ ?_ ?_ ?_ <;> rw [m0] <;> (try rw [m1]) <;> (try rw [m2]) <;> (try rw [m3]) <;> omega
  · rw [hs i c hi hc]
    have e : ∀ k, marksAt rows [n0, n1, n2, n3] k = [mk rows k n0, mk rows k n1, mk rows k n2, mk rows k n3] := fun _ => rfl
    have S : ∀ k, k < 4 → ((marksAt rows [n0, n1, n2, n3] k).take (c + 1)).sum = (H (k + 1) (c + 1) : Int) - H k (c + 1) := fun k hk => by
      have m0 := M k hk 0 (by omega)
      have m1 := M k hk 1 (by omega)
      have m2 := M k hk 2 (by omega)
      have m3 := M k hk 3 (by omega)
      have z1 := hz k (by omega)
      have z2 := hz (k + 1) (by omega)
      simp only [List.getD_cons_zero, List.getD_cons_succ, Nat.zero_add, Nat.reduceAdd] at m0 m1 m2 m3
      rw [e k]
      have : c = 0 ∨ c = 1 ∨ c = 2 ∨ c = 3 := by omega
      rcases this with rfl | rfl | rfl | rfl <;> simp <;> omega
    have S0 := S 0 (by omega)
    have S1 := S 1 (by omega)
    have S2 := S 2 (by omega)
    have S3 := S 3 (by omega)
    have hh := h0 (c + 1) (by omega)
    have r4 : List.range 4 = [0, 1, 2, 3] := rfl
    rw [r4]
    have : i = 0 ∨ i = 1 ∨ i = 2 ∨ i = 3 := by omega
    rcases this with rfl | rfl | rfl | rfl <;> simp only [List.take_succ_cons, List.take_zero, List.map_cons, List.map_nil, List.sum_cons, List.sum_nil, S0, S1, S2, S3, Nat.zero_add, Nat.reduceAdd] <;> omega
end OpA
namespace OpA
variable [Base]

/-- how many of the first i places of an order are among the first t -/
def cntO (o : List Int) (i t : Nat) : Nat := ((o.take i).filter fun x => decide (x < (t : Int))).length
def nO (O : List (List Int)) (i t j : Nat) : Nat := (O.filter fun o => decide (j < cntO o i t)).length
def hO (O : List (List Int)) (e i t : Nat) : Nat := ((List.range 4).filter fun j => decide (O.length + e ≤ 2 * nO O i t j)).length
def GoodO (o : List Int) : Prop := (∀ t, t < 5 → cntO o 0 t = 0) ∧ (∀ i, i < 5 → cntO o i 0 = 0 ∧ cntO o i 4 = i) ∧ (∀ i, i < 5 → ∀ t, t < 4 → cntO o i t ≤ cntO o i (t + 1) ∧ cntO o i (t + 1) ≤ cntO o i t + 1) ∧ (∀ i, i < 4 → ∀ t, t < 5 → cntO o i t ≤ cntO o (i + 1) t ∧ cntO o (i + 1) t ≤ cntO o i t + 1)
theorem arr_good (x : Int) : GoodO (arranged x) := by
  rw [arranged_by, fmod_cases1]
  unfold GoodO
  rcases fmod_cases x with h | h | h | h <;> rcases fmod_cases3 (x.fdiv 4) with h' | h' | h' <;> rcases fmod_cases2 ((x.fdiv 4).fdiv 3) with h'' | h'' <;> rw [h, h', h''] <;> decide +kernel
theorem orders_good (ns : List Int) : ∀ o ∈ ordersOf ns, GoodO o := fun o ho => by
  obtain ⟨x, _, rfl⟩ := List.mem_map.mp ho; exact arr_good x
theorem down_len (P : Nat → Bool) (hP : ∀ j, P (j + 1) = true → P j = true) : ∀ n j, j < ((List.range n).filter P).length ↔ j < n ∧ P j = true
  | 0, j => by simp
  | n + 1, j => by
    have dn : ∀ d k, P (k + d) = true → P k = true := fun d => by
      induction d with
      | zero => exact fun k h => h
      | succ d ih => exact fun k h => ih k (hP (k + d) h)
    have ih := down_len P hP n
    rw [List.range_succ, List.filter_append, List.length_append]
    cases hn : P n with
    | true =>
      have all : ((List.range n).filter P).length = n := by
        rw [List.filter_eq_self.mpr fun k hk => ?_, List.length_range]
        have hk' := List.mem_range.mp hk
        exact dn (n - k) k (by rw [Nat.add_sub_cancel' (by omega)]; exact hn)
      simp only [all, List.filter_cons, hn, if_true, List.filter_nil, List.length_cons, List.length_nil]
      refine ⟨fun h => ⟨by omega, ?_⟩, fun h => by omega⟩
      exact dn (n - j) j (by rw [Nat.add_sub_cancel' (by omega)]; exact hn)
    | false =>
      simp only [List.filter_cons, hn, List.filter_nil, List.length_nil, Nat.add_zero, Bool.false_eq_true, if_false]
      rw [ih j]
      refine ⟨fun h => ⟨by omega, h.2⟩, fun h => ⟨?_, h.2⟩⟩
      by_cases hj : j = n
      · subst hj; rw [hn] at h; cases h.2
      · omega
theorem filter_le {α : Type} (p q : α → Bool) : ∀ l : List α, (∀ x ∈ l, p x = true → q x = true) → (l.filter p).length ≤ (l.filter q).length
  | [], _ => Nat.le_refl _
  | x :: l, h => by
    have ih := filter_le p q l fun y hy => h y (List.mem_cons_of_mem _ hy)
    have hx := h x (by simp)
    rw [List.filter_cons, List.filter_cons]
    cases hp : p x with
    | true => rw [hx hp]; simp; exact ih
    | false => cases q x <;> simp <;> omega
theorem filter_not {α : Type} (p : α → Bool) : ∀ l : List α, (l.filter p).length + (l.filter (fun x => !p x)).length = l.length
  | [] => rfl
  | x :: l => by
    have ih := filter_not p l
    rw [List.filter_cons, List.filter_cons]
    cases hp : p x <;> simp <;> omega
theorem nO_le {O : List (List Int)} {i t j i' t' j' : Nat} (h : ∀ o ∈ O, j < cntO o i t → j' < cntO o i' t') : nO O i t j ≤ nO O i' t' j' :=
  filter_le _ _ O fun o ho hp => by simpa using h o ho (by simpa using hp)
theorem hO_iff (O : List (List Int)) (e i t j : Nat) : j < hO O e i t ↔ j < 4 ∧ O.length + e ≤ 2 * nO O i t j := by
  unfold hO
  rw [down_len _ (fun j h => ?_) 4 j]
  · simp
  · simp only [decide_eq_true_eq] at h ⊢
    have : nO O i t (j + 1) ≤ nO O i t j := nO_le fun o _ h => by omega
    omega
theorem hO_le4 (O : List (List Int)) (e i t : Nat) : hO O e i t ≤ 4 := by
  refine Nat.le_of_not_lt fun h => ?_
  have := (hO_iff O e i t 4).mp h; omega
theorem hO_mono {O : List (List Int)} {e i t i' t' : Nat} (h : ∀ o ∈ O, cntO o i t ≤ cntO o i' t') : hO O e i t ≤ hO O e i' t' := by
  refine Nat.le_of_not_lt fun hlt => ?_
  have h1 := (hO_iff O e i t _).mp hlt
  have h2 : nO O i t (hO O e i' t') ≤ nO O i' t' (hO O e i' t') := nO_le fun o ho q => Nat.lt_of_lt_of_le q (h o ho)
  exact Nat.lt_irrefl _ ((hO_iff O e i' t' _).mpr ⟨h1.1, by omega⟩)
theorem hO_step {O : List (List Int)} {e i t i' t' : Nat} (h : ∀ o ∈ O, cntO o i' t' ≤ cntO o i t + 1) : hO O e i' t' ≤ hO O e i t + 1 := by
  refine Nat.le_of_not_lt fun hlt => ?_
  have h1 := (hO_iff O e i' t' _).mp hlt
  have h2 : nO O i' t' (hO O e i t + 1) ≤ nO O i t (hO O e i t) := nO_le fun o ho q => by have := h o ho; omega
  exact Nat.lt_irrefl _ ((hO_iff O e i t _).mpr ⟨by omega, by omega⟩)
theorem nO_all {O : List (List Int)} {i t c j : Nat} (h : ∀ o ∈ O, cntO o i t = c) : nO O i t j = if j < c then O.length else 0 := by
  unfold nO
  split
  · rw [List.filter_eq_self.mpr fun o ho => by simp [h o ho]; assumption]
  · rw [List.filter_eq_nil_iff.mpr fun o ho => by simp [h o ho]; omega]; rfl
theorem hO_const {O : List (List Int)} {e i t c : Nat} (hk : 1 ≤ O.length) (he : e ≤ 1) (hc : c ≤ 4) (h : ∀ o ∈ O, cntO o i t = c) : hO O e i t = c := by
  have key : ∀ j, j < hO O e i t ↔ j < c := fun j => by
    rw [hO_iff, nO_all h]
    split <;> omega
  have k1 := key c
  have k2 := key (hO O e i t)
  omega

/-- the middles -/
theorem medLow_le {xs : List Int} (hx : 1 ≤ xs.length) (v : Int) : medLow xs ≤ v ↔ xs.length + 0 ≤ 2 * (xs.filter fun x => decide (x ≤ v)).length := by
  unfold medLow
  rw [nth_le xs (by omega) v]; omega
theorem medHigh_le {xs : List Int} (hx : 1 ≤ xs.length) (v : Int) : medHigh xs ≤ v ↔ xs.length + 1 ≤ 2 * (xs.filter fun x => decide (x ≤ v)).length := by
  unfold medHigh
  rw [nth_le xs (by omega) v]; omega
theorem medLow_mem {xs : List Int} (hx : 1 ≤ xs.length) : medLow xs ∈ xs := nth_mem xs (by omega)
theorem medHigh_mem {xs : List Int} (hx : 1 ≤ xs.length) : medHigh xs ∈ xs := nth_mem xs (by omega)
end OpA
namespace OpA
variable [Base]

theorem step_pos (ns : List Int) : 1 ≤ stepOf ns := by unfold stepOf; split <;> omega
theorem names_eq (ns : List Int) : namesOf ns = [ns.sum + stepOf ns * 0, ns.sum + stepOf ns * 1, ns.sum + stepOf ns * 2, ns.sum + stepOf ns * 3] := rfl
theorem name_at (ns : List Int) {k : Nat} (hk : k < 4) : (namesOf ns).getD k 0 = ns.sum + stepOf ns * (k : Int) := by
  have : k = 0 ∨ k = 1 ∨ k = 2 ∨ k = 3 := by omega
  rcases this with rfl | rfl | rfl | rfl <;> rfl
theorem name_le (ns : List Int) {c : Int} {t : Nat} (h0 : 0 ≤ c) (h4 : c < 4) (ht : t < 4) : (namesOf ns).getD c.toNat 0 ≤ (namesOf ns).getD t 0 ↔ c < ((t + 1 : Nat) : Int) := by
  have hs := step_pos ns
  rw [name_at ns (by omega), name_at ns ht, Int.toNat_of_nonneg h0]
  have e1 : ns.sum + stepOf ns * c ≤ ns.sum + stepOf ns * (t : Int) ↔ stepOf ns * c ≤ stepOf ns * (t : Int) := by omega
  rw [e1, Int.mul_le_mul_left (by omega)]
  omega
theorem name_mem (ns : List Int) {c : Int} (h0 : 0 ≤ c) (h4 : c < 4) : (namesOf ns).getD c.toNat 0 ∈ namesOf ns := by
  have : c.toNat < (namesOf ns).length := by rw [names_len]; omega
  rw [List.getD_eq_getElem?_getD, List.getElem?_eq_getElem this, Option.getD_some]
  exact List.getElem_mem _
theorem take_len {ns o : List Int} (h : ArrOk o) {i : Nat} (hi : i ≤ 4) : ((namedOf ns o).take i).length = i := by
  rw [List.length_take, named_len h]; omega
theorem stair_le {ns o : List Int} (h : ArrOk o) {i j t : Nat} (hi : i ≤ 4) (hj : j < i) (ht : t < 4) : (rowOf (stairOf (namedOf ns o)) i).getD j 0 ≤ (namesOf ns).getD t 0 ↔ j < cntO o i (t + 1) := by
  rw [stair_row _ (by rw [named_len h]; exact hi), nth_le _ (by rw [take_len h hi]; exact hj)]
  unfold namedOf cntO
  rw [← List.map_take, List.filter_map, List.length_map]
  rw [List.filter_congr (q := fun x => decide (x < ((t + 1 : Nat) : Int))) fun c hc => ?_]
  have hm := h.mem c (List.mem_of_mem_take hc)
  exact decide_eq_decide.mpr (name_le ns hm.1 hm.2 ht)
theorem stair_mem {ns o : List Int} (h : ArrOk o) {i j : Nat} (hi : i ≤ 4) (hj : j < i) : (rowOf (stairOf (namedOf ns o)) i).getD j 0 ∈ namesOf ns := by
  rw [stair_row _ (by rw [named_len h]; exact hi)]
  have := List.mem_of_mem_take (nth_mem ((namedOf ns o).take i) (m := j) (by rw [take_len h hi]; exact hj))
  obtain ⟨c, hc, e⟩ := List.mem_map.mp this
  rw [← e]
  have hm := h.mem c hc
  exact name_mem ns hm.1 hm.2
theorem corner_cnt (ns : List Int) {i j t : Nat} (hi : i ≤ 4) (hj : j < i) (ht : t < 4) : ((cornerOf ns i j).filter fun x => decide (x ≤ (namesOf ns).getD t 0)).length = nO (ordersOf ns) i (t + 1) j := by
  unfold cornerOf stairsOf nO
  rw [List.map_map, List.filter_map, List.length_map]
  rw [List.filter_congr (q := fun o => decide (j < cntO o i (t + 1))) fun o ho => ?_]
  exact decide_eq_decide.mpr (stair_le (orders_ok ns o ho) hi hj ht)
theorem corner_mem (ns : List Int) {i j : Nat} (hi : i ≤ 4) (hj : j < i) : ∀ x ∈ cornerOf ns i j, x ∈ namesOf ns := fun x hx => by
  unfold cornerOf stairsOf at hx
  rw [List.map_map] at hx
  obtain ⟨o, ho, rfl⟩ := List.mem_map.mp hx
  exact stair_mem (orders_ok ns o ho) hi hj
theorem rows_at (f : Nat → Nat → Int) {i : Nat} (hi : i ≤ 4) : rowOf ((List.range 5).map fun i => (List.range i).map fun j => f i j) i = (List.range i).map fun j => f i j := by
  unfold rowOf
  rw [List.getD_eq_getElem?_getD, List.getElem?_map, List.getElem?_range (by omega)]; rfl
theorem half_at (ns : List Int) (e : Int) {i : Nat} (hi : i < 4) : rowOf (halfOf ns e) i = (List.range 4).map fun c => reached (cellOf ns i c) e := by
  unfold rowOf halfOf countsOf
  rw [List.getD_eq_getElem?_getD, List.getElem?_map, List.getElem?_map, List.getElem?_range (by omega)]
  simp only [Option.map_some, Option.getD_some, List.map_map]; rfl
theorem map_getD (f : Nat → Int) {n j : Nat} (hj : j < n) : ((List.range n).map f).getD j 0 = f j := by
  rw [List.getD_eq_getElem?_getD, List.getElem?_map, List.getElem?_range hj]; rfl
theorem cell_eq (ns : List Int) (i c : Nat) : cellOf ns i c = (ordersOf ns).map fun o => ((cntO o (i + 1) (c + 1) : Nat) : Int) := by
  unfold cellOf cntO
  refine List.map_congr_left fun o ho => ?_
  congr 2
  refine List.filter_congr fun x _ => decide_eq_decide.mpr ?_
  omega
theorem cell_cnt (ns : List Int) (i c j : Nat) : ((cellOf ns i c).filter fun x => decide (1 + (j : Int) ≤ x)).length = nO (ordersOf ns) (i + 1) (c + 1) j := by
  rw [cell_eq, List.filter_map, List.length_map]
  unfold nO
  rw [List.filter_congr (q := fun o => decide (j < cntO o (i + 1) (c + 1))) fun o ho => ?_]
  refine decide_eq_decide.mpr ?_
  show 1 + (j : Int) ≤ ((cntO o (i + 1) (c + 1) : Nat) : Int) ↔ _
  omega
theorem reached_eq (ns : List Int) (e i c : Nat) : reached (cellOf ns i c) (e : Int) = (hO (ordersOf ns) e (i + 1) (c + 1) : Int) := by
  unfold reached hO
  congr 2
  refine List.filter_congr fun j _ => decide_eq_decide.mpr ?_
  rw [cell_cnt, cell_len]
  omega
theorem sq_ok (ns : List Int) (e : Nat) (he : e ≤ 1) (med : List Int → Int) (hle : ∀ xs : List Int, 1 ≤ xs.length → ∀ v, med xs ≤ v ↔ xs.length + e ≤ 2 * (xs.filter fun x => decide (x ≤ v)).length) (hmem : ∀ xs : List Int, 1 ≤ xs.length → med xs ∈ xs) :
    SqOk ((List.range 5).map fun i => (List.range i).map fun j => med (cornerOf ns i j)) (namesOf ns) (halfOf ns (e : Int)) := by
  have hs := step_pos ns
  have ol := (orders_len ns).1
  have g := orders_good ns
  rw [names_eq]
  refine sq_of (H := hO (ordersOf ns) e) (by omega) (by omega) (by omega) (fun t ht => ?_) (fun i hi => ?_) (fun i hi => ?_) (fun i hi t ht => ?_) (fun i hi t ht => ?_) (by simp) (fun i hi => ?_) (fun i hi j hj t ht => ?_) (fun i hi x hx => ?_) (by simp [halfOf, countsOf]) (fun i hi => ?_) (fun i c hi hc => ?_)
  · exact hO_const (by omega) he (by omega) fun o ho => (g o ho).1 t (by omega)
  · exact hO_const (by omega) he (by omega) fun o ho => ((g o ho).2.1 i (by omega)).1
  · exact hO_const (by omega) he (by omega) fun o ho => ((g o ho).2.1 i (by omega)).2
  · exact ⟨hO_mono fun o ho => ((g o ho).2.2.1 i (by omega) t ht).1, hO_step fun o ho => ((g o ho).2.2.1 i (by omega) t ht).2⟩
  · exact ⟨hO_mono fun o ho => ((g o ho).2.2.2 i hi t (by omega)).1, hO_step fun o ho => ((g o ho).2.2.2 i hi t (by omega)).2⟩
  · rw [rows_at (fun i j => med (cornerOf ns i j)) hi]; simp
  · rw [rows_at (fun i j => med (cornerOf ns i j)) hi, map_getD (fun j => med (cornerOf ns i j)) hj, ← names_eq, hle _ (by rw [corner_len]; omega), corner_cnt ns hi hj ht, corner_len, hO_iff]
    omega
  · rw [rows_at (fun i j => med (cornerOf ns i j)) hi] at hx
    obtain ⟨j, hj, rfl⟩ := List.mem_map.mp hx
    rw [← names_eq]
    exact corner_mem ns hi (List.mem_range.mp hj) _ (hmem _ (by rw [corner_len]; omega))
  · rw [half_at ns _ hi]; simp
  · rw [half_at ns _ hi, map_getD (fun c => reached (cellOf ns i c) (e : Int)) hc, reached_eq]
theorem cell_rng (ns : List Int) {i c : Nat} (hi : i < 4) (hc : c < 4) : ∀ x ∈ cellOf ns i c, 0 ≤ x ∧ x ≤ 4 := fun x hx => by
  rw [cell_eq] at hx
  obtain ⟨o, ho, rfl⟩ := List.mem_map.mp hx
  have h1 : cntO o (i + 1) (c + 1) ≤ (o.take (i + 1)).length := List.length_filter_le _ _
  have h2 := List.length_take_le (i + 1) o
  omega
theorem med_reached (ns : List Int) (e e' : Nat) (hee : e + e' = 1) (med : List Int → Int) (hle : ∀ xs : List Int, 1 ≤ xs.length → ∀ v, med xs ≤ v ↔ xs.length + e ≤ 2 * (xs.filter fun x => decide (x ≤ v)).length) (hmem : ∀ xs : List Int, 1 ≤ xs.length → med xs ∈ xs)
    {i c : Nat} (hi : i < 4) (hc : c < 4) : med (cellOf ns i c) = reached (cellOf ns i c) (e' : Int) := by
  have ol := (orders_len ns).1
  have hl : 1 ≤ (cellOf ns i c).length := by rw [cell_len]; omega
  have hm := cell_rng ns hi hc _ (hmem _ hl)
  have h4 := hO_le4 (ordersOf ns) e' (i + 1) (c + 1)
  rw [reached_eq]
  have key : ∀ j, j < 4 → (j < hO (ordersOf ns) e' (i + 1) (c + 1) ↔ ¬ med (cellOf ns i c) ≤ (j : Int)) := fun j hj => by
    rw [hO_iff, hle _ hl, ← cell_cnt]
    have h1 := filter_not (fun x => decide (x ≤ (j : Int))) (cellOf ns i c)
    have h2 : ((cellOf ns i c).filter fun x => !decide (x ≤ (j : Int))) = (cellOf ns i c).filter fun x => decide (1 + (j : Int) ≤ x) :=
      List.filter_congr fun x _ => by
        by_cases hx : x ≤ (j : Int)
        · rw [decide_eq_true hx, decide_eq_false (by omega)]; rfl
        · rw [decide_eq_false hx, decide_eq_true (by omega)]; rfl
    rw [h2] at h1
    rw [cell_len] at h1 ⊢
    omega
  have k0 := key 0 (by omega)
  have k1 := key 1 (by omega)
  have k2 := key 2 (by omega)
  have k3 := key 3 (by omega)
  omega
theorem law_okB (ns : List Int) : LawOk ns := by
  refine ⟨?_, ?_, ?_, ?_⟩
  · exact sq_ok ns 0 (by omega) medLow (fun xs h v => medLow_le h v) (fun xs h => medLow_mem h)
  · exact sq_ok ns 1 (by omega) medHigh (fun xs h v => medHigh_le h v) (fun xs h => medHigh_mem h)
  · unfold halfOf countsOf
    rw [List.map_map, List.map_map]
    refine List.map_congr_left fun i hi => ?_
    show ((List.range 4).map fun c => cellOf ns i c).map medLow = ((List.range 4).map fun c => cellOf ns i c).map fun cell => reached cell 1
    rw [List.map_map, List.map_map]
    refine List.map_congr_left fun c hc => ?_
    exact med_reached ns 0 1 rfl medLow (fun xs h v => medLow_le h v) (fun xs h => medLow_mem h) (List.mem_range.mp hi) (List.mem_range.mp hc)
  · unfold halfOf countsOf
    rw [List.map_map, List.map_map]
    refine List.map_congr_left fun i hi => ?_
    show ((List.range 4).map fun c => cellOf ns i c).map medHigh = ((List.range 4).map fun c => cellOf ns i c).map fun cell => reached cell 0
    rw [List.map_map, List.map_map]
    refine List.map_congr_left fun c hc => ?_
    exact med_reached ns 1 0 rfl medHigh (fun xs h v => medHigh_le h v) (fun xs h => medHigh_mem h) (List.mem_range.mp hi) (List.mem_range.mp hc)
end OpA
namespace OpA
theorem least_above (h : Heap) : ∀ N, (∀ b o, h.get? b = some o → b < N) → ∃ n, (∀ b o, h.get? b = some o → b < n) ∧ ∀ L, (∀ b o, h.get? b = some o → b < L) → n ≤ L
  | 0, hN => ⟨0, hN, fun _ _ => Nat.zero_le _⟩
  | N + 1, hN => by
    by_cases hq : ∀ b o, h.get? b = some o → b < N
    · exact least_above h N hq
    · refine ⟨N + 1, hN, fun L hL => ?_⟩
      refine Nat.lt_of_not_le fun hle => hq fun b o e => Nat.lt_of_lt_of_le (hL b o e) hle
theorem law_ok (ns : List Int) : LawOk ns := by
  letI : Base := ⟨⟨0⟩⟩
  exact law_okB ns
end OpA
set_option maxHeartbeats 8000000 in
theorem PySem.Challenge.cw_op0042_01_holds : PySem.Challenge.rw_op0042_01.Holds := by
  w_on
  o_law
  k_head
  case hw => w_witness2
  k_fill
  intro w s₀ s₁ mg mb G Y fa o pm cd doc dV kV ho hd hcd hD hmg hg args vals as hpre hlay hrd hwl hlo
  have KX := kIn_of Y
  wrow_args hpre hlay hrd hwl hlo
  rename_i ns _ _ _ _ _ _ _ l vs _ hL ra w1 r0 hI hr hlen _
  obtain ⟨lo, hlo1, hlo2⟩ := OpA.least_above s₁.heap s₁.heap.objs.size fun b o e => Heap.lt_size e
  letI : OpA.Base := ⟨⟨lo⟩⟩
  have T := G.T
  have hkV : kV = .none := hD.noKw
  have hdV : dV = .none := hD.none rfl
  subst hkV hdV
  have nD : ∀ {o' : Obj} {fd}, o'.data = .func fd → OpA.NoD o' := fun e _ _ q => by rw [e] at q; cases q
  have f : OpA.FnAt s₁.heap 16 .none fa := ⟨o, pm, cd, doc, OpA.get_vg ho (nD hd), hd, hcd⟩
  have GX : OpA.Gx mg mb s₁.heap := by
    refine ⟨T.nolimit, T.g, T.b, ?_, ?_, ?_, ?_, ?_, ?_, ?_, ?_, ?_⟩
    all_goals exact ⟨mg_none_of KX T.g rfl, (T.builtins _ (by decide)).trans (by decide +kernel)⟩
  have DD : OpA.Defs mg s₁.heap := by
    refine ⟨?_, ?_, ?_, ?_, ?_, ?_, ?_, ?_, ?_, ?_⟩
    all_goals first
      | exact ⟨_, mg_of KX T.g rfl, ⟨_, _, _, _, OpA.get_vg (KX _ _ rfl) (nD rfl), rfl, ⟨_, _, _, _, rfl, KX _ _ rfl, rfl, rfl⟩⟩⟩
      | skip
    exact ⟨_, _, _, _, _, mg_of KX T.g rfl, ⟨_, _, _, _, OpA.get_vg (KX _ _ rfl) (nD rfl), rfl, ⟨_, _, _, _, rfl, KX _ _ rfl, rfl, rfl⟩⟩, OpA.get_vg (KX _ _ rfl) (fun _ _ q => by cases q), mg_of KX T.g rfl, OpA.get_vg (KX _ _ rfl) (fun _ _ q => by cases q), rfl, fun _ _ q => by cases q⟩
  have hh : callerA.handled = none := rfl
  have E := OpA.law_main (prog := PySem.Challenge.rw_op0042_01.row.prog) (w := w) (A := callerA) (B := fun _ => False) (OpA.law_ok ns) (fun _ q => q.elim) GX f DD hh ⟨[], rfl, fun _ q => by cases q⟩ (by decide) (by decide)
    (fun L hL => hlo2 L fun b o e => by obtain ⟨o', e', _⟩ := OpA.vg_some e; exact hL b o' e')
    (v := .ref l) (ns := ns) ?_ (by omega)
  · refine E s₁ _ _ OpA.Keep.rfl' (fun _ q => q.elim) fun v h' tk k p => ?_
    cases p.bool_inv
    refine GoodW.toG ⟨.inl ⟨.bool true, .bool true, [], rfl, fun _ => rfl, ?_, ?_, fun _ => ⟨.nil, fun _ q => by cases q⟩⟩, ?_, rfl, hg⟩
    · exact .bool true
    · exact postW_of (by wrow_shape) (by wtm_val) (by first | rfl | decide | simp)
    · intro b o e
      have hb : b < OpA.Base.lo := hlo1 b o e
      have := k b o (by unfold OpA.vg; rw [if_pos hb]; exact e)
      unfold OpA.vg at this; rw [if_pos hb] at this; exact this
  · cases w1 with
    | list e q =>
      obtain ⟨o', e', c', n', d'⟩ := hL
      rw [e] at e'
      cases e'
      cases d'
      exact .list (fun q => q) (OpA.lg e) (OpA.RepAll.ofInts hI)
