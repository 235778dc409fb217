import PyProof.Rows.All
import Wide.All
import OpenK.AllK
import Wide.FinOn
import PySem.Challenge.RW_pg0083_01
set_option Elab.async false
section -- F1
open PySem PySem.Spec PySem.W PyProof.Rows
set_option Elab.async false
set_option maxRecDepth 100000
namespace Mine

/-- values: data without dicts; a dict of ints by ints; the one order object -/
inductive DV where
  | p (d : PyData)
  | dict (es : List (Int × Int))
  | order

noncomputable abbrev G := Nat → Option DV
noncomputable def gset (Γ : G) (i : Nat) (d : DV) : G := fun j => if j = i then some d else Γ j
noncomputable def gdrop (Γ : G) (O : List Nat) : G := fun j => if O.contains j then none else Γ j

/-- an object that may be changed in place: a namespace or a dict, a cell, a list -/
noncomputable def Mut (o : Obj) : Prop := (∃ es n, o.data = .dict es n) ∨ (∃ v, o.data = .cell v) ∨ ∃ vs n, o = { cls := .type "list", data := .seq vs n }
/-- no tuple -/
noncomputable def NotFix (o : Obj) : Prop := ∀ vs n, o ≠ { cls := .type "tuple", data := .seq vs n }
theorem Mut.notFix {o : Obj} (m : Mut o) : NotFix o := fun vs n q => by
  subst q
  rcases m with ⟨_, _, h1⟩ | ⟨_, h1⟩ | ⟨_, _, h1⟩
  · cases h1
  · cases h1
  · exact absurd (Value.type.inj (congrArg Obj.cls h1)) (by decide)
theorem Mut.no_fields {o : Obj} (m : Mut o) : ∀ vs, o.data ≠ .fields vs := fun vs q => by
  rcases m with ⟨_, _, h1⟩ | ⟨_, h1⟩ | ⟨_, _, h1⟩
  · rw [h1] at q; cases q
  · rw [h1] at q; cases q
  · rw [h1] at q; cases q

structure Cx where
  prog : Program
  w : World
  hb : Heap
  tab : Addr
  mg : Str → Option Value
  mb : Str → Option Value
  Tab : Heap → Prop
  Ord : Heap → Value → List Addr → Prop
  tabGet : ∀ h : Heap, Tab h → ∃ o vs, h.get? tab = some o ∧ o.data = .fields vs ∧ o.cls = .none
  tabKeep : ∀ h h' : Heap, Tab h → (∀ b o vs, h.get? b = some o → o.data = .fields vs → (o.cls = .none ∨ o.cls = .type "code") → h'.get? b = some o) → Tab h'
  ordKeep : ∀ (h h' : Heap) v as, Ord h v as → (∀ b ∈ as, ∀ o, h.get? b = some o → h'.get? b = some o) →
    (∀ b vs n, h.get? b = some { cls := .type "tuple", data := .seq vs n } → h'.get? b = some { cls := .type "tuple", data := .seq vs n }) → Ord h' v as
  ordLt : ∀ (h : Heap) v as, Ord h v as → ∀ b ∈ as, (∃ o, h.get? b = some o) ∧ b ≠ tab
  gl : hb.Ns mainGlobals mg
  bl : hb.Ns builtinsNs mb
  glTab : mainGlobals ≠ tab
  blTab : builtinsNs ≠ tab
  lim : ∀ h : Heap, (∀ b o, hb.get? b = some o → b ≠ tab → h.get? b = some o) → h.NoLimit

variable {C : Cx}
/-- an address of the call's own -/
noncomputable def Above (C : Cx) (b : Addr) : Prop := C.hb.get? b = none ∧ sysModules < b

/-- all but the addresses of S and the code's table stays -/
structure Keep (C : Cx) (S : List Addr) (h h' : Heap) : Prop where
  get : ∀ b o, h.get? b = some o → b ∉ S → b ≠ C.tab → h'.get? b = some o
  live : ∀ b o, h.get? b = some o → ∃ o', h'.get? b = some o'
  tab : C.Tab h'

theorem Keep.refl {S : List Addr} {h : Heap} (t : C.Tab h) : Keep C S h h := ⟨fun _ _ e _ _ => e, fun _ o e => ⟨o, e⟩, t⟩
theorem Keep.trans {S : List Addr} {h h' h'' : Heap} (a : Keep C S h h') (b : Keep C S h' h'') : Keep C S h h'' :=
  ⟨fun x o e hs ht => b.get x o (a.get x o e hs ht) hs ht, fun x o e => let ⟨o', e'⟩ := a.live x o e; b.live x o' e', b.tab⟩
theorem Keep.mono {S S' : List Addr} {h h' : Heap} (a : Keep C S h h') (hs : ∀ b ∈ S, b ∈ S') : Keep C S' h h' :=
  ⟨fun x o e hx ht => a.get x o e (fun q => hx (hs x q)) ht, a.live, a.tab⟩
theorem Keep.nil {S : List Addr} {h h' : Heap} (a : Keep C [] h h') : Keep C S h h' := a.mono (fun _ hb => nomatch hb)
theorem Keep.of_all {h h' : Heap} (t : C.Tab h) (k : ∀ b o, h.get? b = some o → h'.get? b = some o) : Keep C [] h h' :=
  ⟨fun b o e _ _ => k b o e, fun b o e => ⟨o, k b o e⟩, C.tabKeep h h' t fun b o _ e _ _ => k b o e⟩
theorem Keep.push {h : Heap} (t : C.Tab h) (o : Obj) : Keep C [] h (h.push o) :=
  .of_all t (fun _ _ e => Heap.get?_push_of_some _ e)

noncomputable abbrev lobj (vs : Array Value) (n : Nat) : Obj := { cls := .type "list", data := .seq vs n }
noncomputable abbrev tobj (vs : Array Value) (n : Nat) : Obj := { cls := .type "tuple", data := .seq vs n }
mutual
/-- what a value reads as: exact objects alone -/
inductive Rd (h : Heap) : Value → PyData → List Addr → Prop
  | none : Rd h .none .none []
  | bool (b) : Rd h (.bool b) (.bool b) []
  | int (i t) : Rd h (.int i t) (.int i) []
  | str (x t) : Rd h (.str x t) (.str x) []
  | list {a vs n xs as} : h.get? a = some (lobj vs n) → RdAll h vs.toList xs as → Rd h (.ref a) (.list xs) (a :: as)
  | tuple {a vs n xs as} : h.get? a = some (tobj vs n) → RdAll h vs.toList xs as → Rd h (.ref a) (.tuple xs) as
inductive RdAll (h : Heap) : List Value → List PyData → List Addr → Prop
  | nil : RdAll h [] [] []
  | cons {v vs d ds as bs} : Rd h v d as → RdAll h vs ds bs → RdAll h (v :: vs) (d :: ds) (as ++ bs)
end
mutual
theorem Rd.reads {h : Heap} {v : Value} {d : PyData} {as : List Addr} : Rd h v d as → Reads h v d as
  | .none => .none
  | .bool b => .bool b
  | .int i t => .int i t
  | .str x t => .str x t
  | .list e r => .list e rfl rfl r.reads
  | .tuple e r => .tuple e rfl rfl r.reads
theorem RdAll.reads {h : Heap} {vs : List Value} {ds : List PyData} {as : List Addr} : RdAll h vs ds as → ReadsAll h vs ds as
  | .nil => .nil
  | .cons r rs => .cons r.reads rs.reads
end

theorem tab_ne {h : Heap} (t : C.Tab h) {a : Addr} {o : Obj} (e : h.get? a = some o) (hd : ∀ vs, o.data ≠ .fields vs) : a ≠ C.tab := by
  rintro rfl
  obtain ⟨o', vs, e', hd', _⟩ := C.tabGet h t
  rw [e] at e'; cases e'; exact hd vs hd'

theorem notFix_of {S : List Addr} {h : Heap} (hm : ∀ b ∈ S, ∃ o, h.get? b = some o ∧ Mut o) : ∀ b ∈ S, ∀ o, h.get? b = some o → NotFix o := fun b hb o e => by
  obtain ⟨o', e', m⟩ := hm b hb
  rw [e] at e'; cases e'; exact m.notFix
noncomputable abbrev Gets (C : Cx) (S : List Addr) (h h' : Heap) : Prop := ∀ b o, h.get? b = some o → b ∉ S → b ≠ C.tab → h'.get? b = some o
mutual
theorem rd_keep {S : List Addr} {h h' : Heap} (k : Gets C S h h') (t : C.Tab h) (hm : ∀ b ∈ S, ∀ o, h.get? b = some o → NotFix o) {v : Value} {d : PyData} {as : List Addr} :
    Rd h v d as → (∀ b ∈ as, b ∉ S) → Rd h' v d as
  | .none, _ => .none
  | .bool b, _ => .bool b
  | .int i t, _ => .int i t
  | .str x t, _ => .str x t
  | .list (a := a) e r, hs => .list (k a _ e (hs a (.head _)) (tab_ne t e fun _ q => nomatch q)) (rdAll_keep k t hm r fun b hb => hs b (.tail _ hb))
  | .tuple (a := a) e r, hs => by
    exact .tuple (k a _ e (fun q => hm a q _ e _ _ rfl) (tab_ne t e fun _ q => nomatch q)) (rdAll_keep k t hm r hs)
theorem rdAll_keep {S : List Addr} {h h' : Heap} (k : Gets C S h h') (t : C.Tab h) (hm : ∀ b ∈ S, ∀ o, h.get? b = some o → NotFix o) {vs : List Value} {ds : List PyData} {as : List Addr} :
    RdAll h vs ds as → (∀ b ∈ as, b ∉ S) → RdAll h' vs ds as
  | .nil, _ => .nil
  | .cons r rs, hs => .cons (rd_keep k t hm r fun b hb => hs b (List.mem_append_left _ hb)) (rdAll_keep k t hm rs fun b hb => hs b (List.mem_append_right _ hb))
end

mutual
theorem rd_lt {h : Heap} {v : Value} {d : PyData} {as : List Addr} : Rd h v d as → ∀ b ∈ as, b < h.objs.size
  | .none, _, hb => nomatch hb
  | .bool _, _, hb => nomatch hb
  | .int _ _, _, hb => nomatch hb
  | .str _ _, _, hb => nomatch hb
  | .list e r, b, hb => by
    rcases List.mem_cons.mp hb with rfl | hb
    · exact Heap.lt_size e
    · exact rdAll_lt r b hb
  | .tuple _ r, b, hb => rdAll_lt r b hb
theorem rdAll_lt {h : Heap} {vs : List Value} {ds : List PyData} {as : List Addr} : RdAll h vs ds as → ∀ b ∈ as, b < h.objs.size
  | .nil, _, hb => nomatch hb
  | .cons r rs, b, hb => by
    rcases List.mem_append.mp hb with hb | hb
    · exact rd_lt r b hb
    · exact rdAll_lt rs b hb
end

/-- ints as a dict's pairs -/
inductive IPairs : List (Int × Value) → List (Int × Int) → Prop
  | nil : IPairs [] []
  | cons {k v t kvs es} : IPairs kvs es → IPairs ((k, .int v t) :: kvs) ((k, v) :: es)

noncomputable def Rv (C : Cx) (S : List Addr) (h : Heap) (v : Value) : DV → Prop
  | .p d => ∃ as, Rd h v d as ∧ ∀ b ∈ as, b ∉ S
  | .dict es => ∃ a kvs, v = .ref a ∧ a ∉ S ∧ Above C a ∧ h.DictOf (intKind C.prog C.w) a kvs ∧ IPairs kvs es
  | .order => ∃ as, C.Ord h v as ∧ ∀ b ∈ as, b ∉ S

theorem dictOf_get {h : Heap} {a : Addr} {kvs : List (Int × Value)} (x : h.DictOf (intKind C.prog C.w) a kvs) : ∃ o es n, h.get? a = some o ∧ o.data = .dict es n ∧ o.cls = .type "dict" := by
  obtain ⟨o, es, ep, ho, hc, hd, _⟩ := x
  exact ⟨o, es, ep, ho, hd, hc.1⟩
theorem dictOf_at {h h' : Heap} {a : Addr} {kvs : List (Int × Value)} (x : h.DictOf (intKind C.prog C.w) a kvs) (e : ∀ o, h.get? a = some o → h'.get? a = some o) : h'.DictOf (intKind C.prog C.w) a kvs := by
  obtain ⟨o, es, ep, ho, r⟩ := x
  exact ⟨o, es, ep, e o ho, r⟩

theorem Rv.keep {M S : List Addr} {h h' : Heap} (k : Gets C M h h') (t : C.Tab h) (hm : ∀ b ∈ M, ∀ o, h.get? b = some o → NotFix o) (hsub : ∀ b ∈ M, b ∈ S) {v : Value} {d : DV} (r : Rv C S h v d) : Rv C S h' v d := by
  cases d with
  | p d => obtain ⟨as, r, hs⟩ := r; exact ⟨as, rd_keep k t hm r (fun b hb q => hs b hb (hsub b q)), hs⟩
  | dict es =>
    obtain ⟨a, kvs, rfl, hs, hl, hd, hp⟩ := r
    refine ⟨a, kvs, rfl, hs, hl, dictOf_at hd fun o e => k a o e (fun q => hs (hsub a q)) ?_, hp⟩
    obtain ⟨o', es', n', e', hd', _⟩ := dictOf_get hd
    exact tab_ne t e' fun _ q => by rw [hd'] at q; cases q
  | order =>
    obtain ⟨as, r, hs⟩ := r
    exact ⟨as, C.ordKeep h h' v as r (fun b hb o e => k b o e (fun q => hs b hb (hsub b q)) (C.ordLt h v as r b hb).2) fun b vs n e => k b _ e (fun q => hm b q _ e _ _ rfl) (tab_ne t e fun _ q => nomatch q), hs⟩

/-- nothing is to be avoided but what stands -/
theorem Rv.sub {S S' : List Addr} {h : Heap} {v : Value} {d : DV} (r : Rv C S h v d) (hs : ∀ b ∈ S', b ∈ S) : Rv C S' h v d := by
  cases d with
  | p d => obtain ⟨as, r, q⟩ := r; exact ⟨as, r, fun b hb x => q b hb (hs b x)⟩
  | dict es => obtain ⟨a, kvs, e, q, r⟩ := r; exact ⟨a, kvs, e, fun x => q (hs a x), r⟩
  | order => obtain ⟨as, r, q⟩ := r; exact ⟨as, r, fun b hb x => q b hb (hs b x)⟩

/-- kept by a pure step -/
theorem Rv.pure {S : List Addr} {h h' : Heap} (k : Keep C [] h h') (t : C.Tab h) {v : Value} {d : DV} (r : Rv C S h v d) : Rv C S h' v d :=
  Rv.keep k.get t (fun _ hb => nomatch hb) (fun _ hb => nomatch hb) r

noncomputable def At (env : Env) (m : Str → Option Value) (h : Heap) (x : Str) (v : Value) : Prop :=
  (env.kindOf x = some .local ∧ m x = some v) ∨ ((env.kindOf x = some .cell ∨ env.kindOf x = some .free) ∧ ∃ c, env.cells.lookup x = some c ∧ h.IsCell c (some v))

structure HOk (C : Cx) (h : Heap) : Prop where
  base : ∀ b o, C.hb.get? b = some o → b ≠ C.tab → h.get? b = some o
  tab : C.Tab h
theorem HOk.keep {S : List Addr} {h h' : Heap} (x : HOk C h) (k : Keep C S h h') (hl : ∀ b ∈ S, C.hb.get? b = none) : HOk C h' :=
  ⟨fun b o e ht => k.get b o (x.base b o e ht) (fun q => by rw [hl b q] at e; cases e) ht, k.tab⟩
theorem HOk.pure {h h' : Heap} (x : HOk C h) (k : Keep C [] h h') : HOk C h' := x.keep k fun _ hb => nomatch hb
theorem HOk.gl {h : Heap} (x : HOk C h) : h.Ns mainGlobals C.mg := C.gl.at' fun o e => x.base _ o e C.glTab
theorem HOk.bl {h : Heap} (x : HOk C h) : h.Ns builtinsNs C.mb := C.bl.at' fun o e => x.base _ o e C.blTab
theorem above_of {h : Heap} (x : HOk C h) {b : Addr} (hb : h.objs.size ≤ b) : Above C b := by
  constructor
  · cases e : C.hb.get? b with
    | none => rfl
    | some o =>
      exfalso
      by_cases ht : b = C.tab
      · subst ht
        obtain ⟨o', vs, e', _, _⟩ := C.tabGet h x.tab
        exact absurd (Heap.lt_size e') (Nat.not_lt.mpr hb)
      · exact absurd (Heap.lt_size (x.base b o e ht)) (Nat.not_lt.mpr hb)
  · obtain ⟨o, _, _, e, _⟩ := x.gl
    have h1 : mainGlobals < h.objs.size := Heap.lt_size e
    have h2 : sysModules < mainGlobals := by decide
    exact Nat.lt_of_lt_of_le (Nat.lt_trans h2 h1) hb

structure Rel (C : Cx) (τ : List Str) (S : List Addr) (env : Env) (Γ : G) (h : Heap) : Prop where
  ok : HOk C h
  live : ∀ b ∈ S, ∃ o, h.get? b = some o
  loc : ∃ m, h.Ns env.locals m ∧ ∀ i d, Γ i = some d → ∃ x v, τ[i]? = some x ∧ At env m h x v ∧ Rv C S h v d

theorem At.keep {env : Env} {m : Str → Option Value} {h h' : Heap} {x : Str} {v : Value} (a : At env m h x v) (k : ∀ c, h.IsCell c (some v) → h'.IsCell c (some v)) : At env m h' x v :=
  a.imp id fun ⟨hk, c, e, hc⟩ => ⟨hk, c, e, k c hc⟩
theorem cell_pure {h h' : Heap} (k : Keep C [] h h') (t : C.Tab h) {c : Addr} {v : Option Value} (x : h.IsCell c v) : h'.IsCell c v := by
  obtain ⟨o, e, hd⟩ := x
  refine ⟨o, k.get c o e (fun q => nomatch q) ?_, hd⟩
  rintro rfl
  obtain ⟨o', vs, e', hd', _⟩ := C.tabGet h t
  rw [e] at e'; cases e'; rw [hd] at hd'; cases hd'
theorem ns_pure {h h' : Heap} (k : Keep C [] h h') (t : C.Tab h) {a : Addr} {m : Str → Option Value} (x : h.Ns a m) : h'.Ns a m := by
  obtain ⟨o, es, ep, e, hd, r⟩ := x
  refine ⟨o, es, ep, k.get a o e (fun q => nomatch q) ?_, hd, r⟩
  rintro rfl
  obtain ⟨o', vs, e', hd', _⟩ := C.tabGet h t
  rw [e] at e'; cases e'; rw [hd] at hd'; cases hd'
theorem mut_pure {h h' : Heap} (k : Keep C [] h h') (t : C.Tab h) {S : List Addr} (x : ∀ b ∈ S, ∃ o, h.get? b = some o ∧ Mut o) : ∀ b ∈ S, ∃ o, h'.get? b = some o ∧ Mut o := fun b hb => by
  obtain ⟨o, e, hm⟩ := x b hb
  exact ⟨o, k.get b o e (fun q => nomatch q) (tab_ne t e hm.no_fields), hm⟩

theorem Rel.pure {τ : List Str} {S : List Addr} {env : Env} {Γ : G} {h h' : Heap} (r : Rel C τ S env Γ h) (k : Keep C [] h h') : Rel C τ S env Γ h' := by
  refine ⟨r.ok.pure k, fun b hb => let ⟨o, e⟩ := r.live b hb; k.live b o e, ?_⟩
  obtain ⟨m, hn, hv⟩ := r.loc
  refine ⟨m, ns_pure k r.ok.tab hn, fun i d e => ?_⟩
  obtain ⟨x, v, ex, a, rv⟩ := hv i d e
  exact ⟨x, v, ex, a.keep fun c hc => cell_pure k r.ok.tab hc, rv.pure k r.ok.tab⟩

structure AOk (n : Nat) (A : Around) : Prop where
  handled : A.handled = none
  depth : A.depth + n < recursionLimit
  units : A.units + 100 * n < cLine

structure FnEnv (κ : Str → Option NameKind) (env : Env) : Prop where
  kind : env.scope.kind = .function
  glob : env.globals = mainGlobals
  bins : env.builtins = builtinsNs
  is : ∀ x, env.kindOf x = κ x

/-- the expression is reckoned by f -/
noncomputable def SE (C : Cx) (τ : List Str) (κ : Str → Option NameKind) (n : Nat) (e : Expr) (f : G → Option DV) : Prop :=
  ∀ (env : Env) (S : List Addr) (A : Around) (s : Shared) (Γ : G) (d : DV) (Q : Value → Shared → Prop) (E : Value → Shared → Prop),
    AOk n A → FnEnv κ env → Rel C τ S env Γ s.heap → f Γ = some d →
    (∀ v h' tk, Keep C [] s.heap h' → Rv C S h' v d → Q v { s with heap := h', toks := tk }) →
    wpAny (model C.prog C.w) A (eval e env) Q E s

/-- the test -/
noncomputable def SB (C : Cx) (τ : List Str) (κ : Str → Option NameKind) (n : Nat) (e : Expr) (f : G → Option Bool) : Prop :=
  ∀ (env : Env) (S : List Addr) (A : Around) (s : Shared) (Γ : G) (b : Bool) (Q : Bool → Shared → Prop) (E : Value → Shared → Prop),
    AOk n A → FnEnv κ env → Rel C τ S env Γ s.heap → f Γ = some b →
    (∀ h' tk, Keep C [] s.heap h' → Q b { s with heap := h', toks := tk }) →
    wpAny (model C.prog C.w) A (isTrue e env (eval e env)) Q E s

noncomputable abbrev dint (i : Int) : DV := .p (.int i)
noncomputable abbrev dstr (x : Str) : DV := .p (.str x)
noncomputable abbrev dbool (b : Bool) : DV := .p (.bool b)

section
variable {τ : List Str} {κ : Str → Option NameKind} {n : Nat}

theorem rv_int {S : List Addr} {h : Heap} {i : Int} {t : Tok} : Rv C S h (.int i t) (dint i) := ⟨[], .int i t, fun _ hb => nomatch hb⟩
theorem rv_str {S : List Addr} {h : Heap} {x : Str} {t : Tok} : Rv C S h (.str x t) (dstr x) := ⟨[], .str x t, fun _ hb => nomatch hb⟩
theorem rv_bool {S : List Addr} {h : Heap} {b : Bool} : Rv C S h (.bool b) (dbool b) := ⟨[], .bool b, fun _ hb => nomatch hb⟩
theorem of_int {S : List Addr} {h : Heap} {v : Value} {i : Int} (r : Rv C S h v (dint i)) : ∃ t, v = .int i t := by
  obtain ⟨as, r, _⟩ := r; cases r; exact ⟨_, rfl⟩
theorem of_str {S : List Addr} {h : Heap} {v : Value} {x : Str} (r : Rv C S h v (dstr x)) : ∃ t, v = .str x t := by
  obtain ⟨as, r, _⟩ := r; cases r; exact ⟨_, rfl⟩
theorem of_bool {S : List Addr} {h : Heap} {v : Value} {b : Bool} (r : Rv C S h v (dbool b)) : v = .bool b := by
  obtain ⟨as, r, _⟩ := r; cases r; rfl

theorem se_int {i : Int} {k : Nat} {pos : Pos} : SE C τ κ n (.Constant (.int i) k pos) (fun _ => some (dint i)) := by
  intro env S A s Γ d Q E _ _ r e h
  cases e
  exact wpAny_Constant_int (h _ _ _ (.refl r.ok.tab) rv_int)
theorem se_str {x : Str} {k : Nat} {pos : Pos} : SE C τ κ n (.Constant (.str x) k pos) (fun _ => some (dstr x)) := by
  intro env S A s Γ d Q E _ _ r e h
  cases e
  exact wpAny_Constant_str (h _ _ _ (.refl r.ok.tab) rv_str)
theorem se_bool {b : Bool} {k : Nat} {pos : Pos} : SE C τ κ n (.Constant (.bool b) k pos) (fun _ => some (dbool b)) := by
  intro env S A s Γ d Q E _ _ r e h
  cases e
  exact wpAny_Constant_bool (h _ _ s.toks (.refl r.ok.tab) rv_bool)

theorem se_name {x : Str} {pos : Pos} (i : Nat) (hx : τ[i]? = some x) (hd : (x == ("__debug__" : Str)) = false := by decide) (hc : (x == ("__classdict__" : Str)) = false := by decide) : SE C τ κ n (.Name x pos) (fun Γ => Γ i) := by
  intro env S A s Γ d Q E _ fe r e h
  obtain ⟨m, hn, hv⟩ := r.loc
  obtain ⟨x', v, ex, a, rv⟩ := hv i d e
  rw [hx] at ex; cases ex
  have fin := h v s.heap s.toks (.refl r.ok.tab) rv
  rcases a with ⟨hk, hm⟩ | ⟨hk | hk, c, hl, hcell⟩
  · exact wpAny_Name (wpAny_loadName_local fe.kind hk hn hm fin) hd
  · exact wpAny_Name (wpAny_loadName_cell fe.kind hk hl hcell fin) hd
  · exact wpAny_Name (wpAny_loadName_free fe.kind hk hl hcell fin hc) hd

/-- two expressions, one behind the other, then a step of their values -/
theorem two {l r : Expr} {f g : G → Option DV} (hl : SE C τ κ n l f) (hr : SE C τ κ n r g) {env : Env} {S : List Addr} {A : Around} {s : Shared} {Γ : G} {a b : DV} {Q : Value → Value → Shared → Prop} {E : Value → Shared → Prop}
    (ha : AOk n A) (fe : FnEnv κ env) (re : Rel C τ S env Γ s.heap) (ea : f Γ = some a) (eb : g Γ = some b)
    (h : ∀ u v h' tk, Keep C [] s.heap h' → Rel C τ S env Γ h' → Rv C S h' u a → Rv C S h' v b → Q u v { s with heap := h', toks := tk }) :
    wpAny (model C.prog C.w) A (eval l env) (fun u s₁ => wpAny (model C.prog C.w) A (eval r env) (fun v s₂ => Q u v s₂) E s₁) E s := by
  refine hl env S A s Γ a _ E ha fe re ea fun u h₁ tk₁ k₁ ru => ?_
  have re₁ := re.pure k₁
  refine hr env S A _ Γ b _ E ha fe re₁ eb fun v h₂ tk₂ k₂ rv => ?_
  exact h u v h₂ tk₂ (k₁.trans k₂) (re₁.pure k₂) (ru.pure k₂ re₁.ok.tab) rv
end
end Mine
end
section -- F2
open PySem PySem.Spec PySem.W PyProof.Rows
set_option Elab.async false
set_option maxRecDepth 100000
namespace Mine
variable {C : Cx} {τ : List Str} {κ : Str → Option NameKind} {n : Nat}

noncomputable def op2 (o : DV → DV → Option DV) (f g : G → Option DV) : G → Option DV := fun Γ =>
  match f Γ, g Γ with
  | some a, some b => o a b
  | _, _ => none
theorem op2_some {o : DV → DV → Option DV} {f g : G → Option DV} {Γ : G} {d : DV} (h : op2 o f g Γ = some d) : ∃ a b, f Γ = some a ∧ g Γ = some b ∧ o a b = some d := by
  unfold op2 at h
  split at h
  · exact ⟨_, _, by assumption, by assumption, h⟩
  · cases h

/-- a step of two values that changes nothing that stood -/
noncomputable def Op2 (C : Cx) (n : Nat) (t : Value → Value → Sem Value) (o : DV → DV → Option DV) : Prop :=
  ∀ (S : List Addr) (A : Around) (s : Shared) (a b d : DV) (u v : Value) (Q : Value → Shared → Prop) (E : Value → Shared → Prop),
    AOk n A → HOk C s.heap → (∀ x ∈ S, ∃ o, s.heap.get? x = some o) → Rv C S s.heap u a → Rv C S s.heap v b → o a b = some d →
    (∀ r h' tk, Keep C [] s.heap h' → Rv C S h' r d → Q r { s with heap := h', toks := tk }) → wpAny (model C.prog C.w) A (t u v) Q E s

theorem se_bin {l r : Expr} {op : Operator} {pos : Pos} {f g : G → Option DV} {o : DV → DV → Option DV} (hl : SE C τ κ n l f) (hr : SE C τ κ n r g) (ho : Op2 C n (binaryOp op) o) :
    SE C τ κ n (.BinOp l op r pos) (op2 o f g) := by
  intro env S A s Γ d Q E ha fe re e h
  obtain ⟨a, b, ea, eb, ed⟩ := op2_some e
  refine wpAny_BinOp (two hl hr (Q := fun u v s₂ => wpAny (model C.prog C.w) A (binaryOp op u v) Q E s₂) ha fe re ea eb fun u v h' tk k re' ru rv => ?_)
  exact ho S A _ a b d u v Q E ha re'.ok re'.live ru rv ed fun r h'' tk' k' rr => h r h'' tk' (k.trans k') rr

theorem se_cmp {l r : Expr} {op : CmpOp} {pos : Pos} {f g : G → Option DV} {o : DV → DV → Option DV} (hl : SE C τ κ n l f) (hr : SE C τ κ n r g) (ho : Op2 C n (compareOp op) o) (hm : behindInMarks op r = false) :
    SE C τ κ n (.Compare l [op] [r] pos) (op2 o f g) := by
  intro env S A s Γ d Q E ha fe re e h
  obtain ⟨a, b, ea, eb, ed⟩ := op2_some e
  refine wpAny_Compare1 (two hl hr (Q := fun u v s₂ => wpAny (model C.prog C.w) A (compareOp op u v) Q E s₂) ha fe re ea eb fun u v h' tk k re' ru rv => ?_) hm
  exact ho S A _ a b d u v Q E ha re'.ok re'.live ru rv ed fun r h'' tk' k' rr => h r h'' tk' (k.trans k') rr

noncomputable def asB : Option DV → Option Bool
  | some (.p (.bool b)) => some b
  | _ => none
theorem asB_some {x : Option DV} {b : Bool} (h : asB x = some b) : x = some (dbool b) := by
  unfold asB at h
  split at h
  · cases h; rfl
  · cases h

theorem sb_cmp {l r : Expr} {op : CmpOp} {pos : Pos} {f g : G → Option DV} {o : DV → DV → Option DV} (hl : SE C τ κ n l f) (hr : SE C τ κ n r g) (ho : Op2 C n (compareOp op) o) (hm : behindInMarks op r = false) :
    SB C τ κ n (.Compare l [op] [r] pos) (fun Γ => asB (op2 o f g Γ)) := by
  intro env S A s Γ b Q E ha fe re e h
  obtain ⟨x, y, ea, eb, ed⟩ := op2_some (asB_some e)
  refine wpAny_isTrue_Compare1 (two hl hr (Q := fun u v s₂ => wpAny (model C.prog C.w) A (compareOp op u v) (fun c s₃ => wpAny (model C.prog C.w) A (truthy c) Q E s₃) E s₂) ha fe re ea eb fun u v h' tk k re' ru rv => ?_) hm
  refine ho S A _ x y _ u v _ E ha re'.ok re'.live ru rv ed fun r h'' tk' k' rr => ?_
  rw [of_bool rr]
  exact wpAny_truthy_bool (h h'' tk' (k.trans k'))

noncomputable def fIf (ft : G → Option Bool) (fb fo : G → Option DV) : G → Option DV := fun Γ => match ft Γ with | some true => fb Γ | some false => fo Γ | none => none
noncomputable def bOr (f g : G → Option Bool) : G → Option Bool := fun Γ => match f Γ with | some true => some true | some false => g Γ | none => none
noncomputable def bAnd (f g : G → Option Bool) : G → Option Bool := fun Γ => match f Γ with | some false => some false | some true => g Γ | none => none
theorem se_ifexp {t b o : Expr} {pos : Pos} {ft : G → Option Bool} {fb fo : G → Option DV} (ht : SB C τ κ n t ft) (hb : SE C τ κ n b fb) (ho : SE C τ κ n o fo) :
    SE C τ κ n (.IfExp t b o pos) (fIf ft fb fo) := by
  intro env S A s Γ d Q E ha fe re e h
  unfold fIf at e
  cases q : ft Γ with
  | none => rw [q] at e; cases e
  | some c =>
    rw [q] at e
    refine wpAny_IfExp (ht env S A s Γ c _ E ha fe re q fun h' tk k => ?_)
    have re' := re.pure k
    cases c with
    | true => exact hb env S A _ Γ d Q E ha fe re' e fun v h'' tk' k' rv => h v h'' tk' (k.trans k') rv
    | false => exact ho env S A _ Γ d Q E ha fe re' e fun v h'' tk' k' rv => h v h'' tk' (k.trans k') rv

/-- and, or of tests -/
theorem sb_or2 {x y : Expr} {pos : Pos} {f g : G → Option Bool} (hx : SB C τ κ n x f) (hy : SB C τ κ n y g) :
    SB C τ κ n (.BoolOp .Or [x, y] pos) (bOr f g) := by
  intro env S A s Γ b Q E ha fe re e h
  unfold bOr at e
  refine wpAny_isTrue_BoolOp ?_
  cases q : f Γ with
  | none => rw [q] at e; cases e
  | some c =>
    rw [q] at e
    refine wpAny_allTrue_Or_cons (hx env S A s Γ c _ E ha fe re q fun h' tk k => ?_)
    cases c with
    | true => cases e; exact h h' tk k
    | false =>
      refine wpAny_allTrue_Or_cons (hy env S A _ Γ b _ E ha fe (re.pure k) e fun h'' tk' k' => ?_)
      cases b with
      | true => exact h h'' tk' (k.trans k')
      | false => exact wpAny_allTrue_Or_nil (h h'' tk' (k.trans k'))
theorem sb_and2 {x y : Expr} {pos : Pos} {f g : G → Option Bool} (hx : SB C τ κ n x f) (hy : SB C τ κ n y g) :
    SB C τ κ n (.BoolOp .And [x, y] pos) (bAnd f g) := by
  intro env S A s Γ b Q E ha fe re e h
  unfold bAnd at e
  refine wpAny_isTrue_BoolOp ?_
  cases q : f Γ with
  | none => rw [q] at e; cases e
  | some c =>
    rw [q] at e
    refine wpAny_allTrue_And_cons (hx env S A s Γ c _ E ha fe re q fun h' tk k => ?_)
    cases c with
    | false => cases e; exact h h' tk k
    | true =>
      refine wpAny_allTrue_And_cons (hy env S A _ Γ b _ E ha fe (re.pure k) e fun h'' tk' k' => ?_)
      cases b with
      | false => exact h h'' tk' (k.trans k')
      | true => exact wpAny_allTrue_And_nil (h h'' tk' (k.trans k'))

-- the operators of ints
noncomputable def oInt (g : Int → Int → Int) : DV → DV → Option DV
  | .p (.int a), .p (.int b) => some (dint (g a b))
  | _, _ => none
noncomputable def oIntB (g : Int → Int → Bool) : DV → DV → Option DV
  | .p (.int a), .p (.int b) => some (dbool (g a b))
  | _, _ => none
theorem op_int {t : Value → Value → Sem Value} {g : Int → Int → Int} (h : ∀ (A : Around) (s : Shared) (a b : Int) (p q : Tok) (Q E : Value → Shared → Prop), Q (.int (g a b) s.toks) { s with toks := s.toks + 1 } → wpAny (model C.prog C.w) A (t (.int a p) (.int b q)) Q E s) :
    Op2 C n t (oInt g) := by
  intro S A s a b d u v Q E _ ho _ ru rv e k
  unfold oInt at e
  split at e
  · cases e
    obtain ⟨t1, rfl⟩ := of_int ru
    obtain ⟨t2, rfl⟩ := of_int rv
    exact h A s _ _ _ _ Q E (k _ _ _ (.refl ho.tab) rv_int)
  · cases e
theorem op_intB {t : Value → Value → Sem Value} {g : Int → Int → Bool} (h : ∀ (A : Around) (s : Shared) (a b : Int) (p q : Tok) (Q E : Value → Shared → Prop), Q (.bool (g a b)) s → wpAny (model C.prog C.w) A (t (.int a p) (.int b q)) Q E s) :
    Op2 C n t (oIntB g) := by
  intro S A s a b d u v Q E _ ho _ ru rv e k
  unfold oIntB at e
  split at e
  · cases e
    obtain ⟨t1, rfl⟩ := of_int ru
    obtain ⟨t2, rfl⟩ := of_int rv
    exact h A s _ _ _ _ Q E (k _ _ s.toks (.refl ho.tab) rv_bool)
  · cases e
theorem op_sub : Op2 C n (binaryOp .Sub) (oInt (· - ·)) := op_int fun _ _ _ _ _ _ _ _ h => sub_int h
theorem op_lt : Op2 C n (compareOp .Lt) (oIntB fun a b => decide (a < b)) := op_intB fun _ _ _ _ _ _ _ _ h => lt_int h
theorem op_gt : Op2 C n (compareOp .Gt) (oIntB fun a b => decide (b < a)) := op_intB fun _ _ _ _ _ _ _ _ h => gt_int h
theorem op_le : Op2 C n (compareOp .LtE) (oIntB fun a b => decide (a ≤ b)) := op_intB fun _ _ _ _ _ _ _ _ h => le_int h

noncomputable def oMod : DV → DV → Option DV
  | .p (.int a), .p (.int b) => if b = 0 then none else some (dint (a.fmod b))
  | _, _ => none
theorem op_mod : Op2 C n (binaryOp .Mod) oMod := by
  intro S A s a b d u v Q E _ ho _ ru rv e k
  unfold oMod at e
  split at e
  · split at e
    · cases e
    · rename_i hb
      cases e
      obtain ⟨t1, rfl⟩ := of_int ru
      obtain ⟨t2, rfl⟩ := of_int rv
      exact mod_int hb (k _ _ _ (.refl ho.tab) rv_int)
  · cases e

noncomputable def oMulI : DV → DV → Option DV
  | .p (.int a), .p (.int b) => if a.natAbs < 2 ^ 60 ∧ b.natAbs < 2 ^ 60 then some (dint (a * b)) else none
  | _, _ => none
noncomputable def oLen : Nat := 2 ^ 20
/-- + of ints, of texts, of lists -/
noncomputable def oAdd : DV → DV → Option DV
  | .p (.int a), .p (.int b) => some (dint (a + b))
  | .p (.str x), .p (.str y) => if x.length + y.length ≤ sizeLine then some (dstr (x ++ y)) else none
  | .p (.list xs), .p (.list ys) => if xs.length + ys.length ≤ sizeLine then some (.p (.list (xs ++ ys))) else none
  | _, _ => none
end Mine
end
section -- F3
open PySem PySem.Spec PySem.W PyProof.Rows
set_option Elab.async false
set_option maxRecDepth 100000
namespace Mine
variable {C : Cx} {τ : List Str} {κ : Str → Option NameKind} {n : Nat}

theorem rdAll_append {h : Heap} : ∀ {us vs : List Value} {xs ys : List PyData} {as bs : List Addr}, RdAll h us xs as → RdAll h vs ys bs → RdAll h (us ++ vs) (xs ++ ys) (as ++ bs)
  | [], _, [], _, _, _, .nil, r => r
  | _ :: _, _, _ :: _, _, _, _, .cons r rs, q => by
    rw [List.append_assoc]
    exact .cons r (rdAll_append rs q)
theorem rdAll_length {h : Heap} : ∀ {us : List Value} {xs : List PyData} {as : List Addr}, RdAll h us xs as → us.length = xs.length
  | [], [], _, .nil => rfl
  | _ :: _, _ :: _, _, .cons _ rs => by rw [List.length_cons, List.length_cons, rdAll_length rs]
theorem rdAll_get {h : Heap} : ∀ {us : List Value} {xs : List PyData} {as : List Addr}, RdAll h us xs as → ∀ {i : Nat} {d : PyData}, xs[i]? = some d → ∃ v bs, us[i]? = some v ∧ Rd h v d bs ∧ ∀ b ∈ bs, b ∈ as
  | [], [], _, .nil, i, d, e => by simp at e
  | v :: us, x :: xs, _, .cons r rs, i, d, e => by
    cases i with
    | zero => simp at e; subst e; exact ⟨v, _, rfl, r, fun b hb => List.mem_append_left _ hb⟩
    | succ i =>
      simp only [List.getElem?_cons_succ] at e
      obtain ⟨u, bs, e1, r1, h1⟩ := rdAll_get rs e
      exact ⟨u, bs, by simpa using e1, r1, fun b hb => List.mem_append_right _ (h1 b hb)⟩

/-- a new list of values at hand -/
theorem rv_new {S : List Addr} {h : Heap} (t : C.Tab h) (hs : ∀ x ∈ S, ∃ o, h.get? x = some o) {vs : List Value} {xs : List PyData} {as : List Addr} (r : RdAll h vs xs as) (ha : ∀ b ∈ as, b ∉ S) :
    Rv C S (h.push (lobj vs.toArray 0)) (.ref h.objs.size) (.p (.list xs)) := by
  refine ⟨h.objs.size :: as, .list (Heap.get?_push_size _ rfl) ?_, fun b hb => ?_⟩
  · exact rdAll_keep (S := []) (Keep.push t _).get t (fun _ hb => nomatch hb) r (fun _ _ hb => nomatch hb)
  · rcases List.mem_cons.mp hb with rfl | hb
    · exact fun q => let ⟨_, e⟩ := hs _ q; Nat.lt_irrefl _ (Heap.lt_size e)
    · exact ha b hb
theorem rv_newT {S : List Addr} {h : Heap} (t : C.Tab h) {vs : List Value} {xs : List PyData} {as : List Addr} (r : RdAll h vs xs as) (ha : ∀ b ∈ as, b ∉ S) :
    Rv C S (h.push (tobj vs.toArray 0)) (.ref h.objs.size) (.p (.tuple xs)) :=
  ⟨as, .tuple (Heap.get?_push_size _ rfl) (rdAll_keep (S := []) (Keep.push t _).get t (fun _ hb => nomatch hb) r (fun _ _ hb => nomatch hb)), ha⟩

theorem op_add : Op2 C n (binaryOp .Add) oAdd := by
  intro S A s a b d u v Q E _ ho hs ru rv e k
  unfold oAdd at e
  split at e
  · cases e
    obtain ⟨t1, rfl⟩ := of_int ru
    obtain ⟨t2, rfl⟩ := of_int rv
    exact add_int (k _ _ _ (.refl ho.tab) rv_int)
  · split at e
    · rename_i hz
      cases e
      obtain ⟨t1, rfl⟩ := of_str ru
      obtain ⟨t2, rfl⟩ := of_str rv
      exact add_str (fun t' tk => k _ _ _ (.refl ho.tab) rv_str) hz
    · cases e
  · split at e
    · rename_i hz
      cases e
      obtain ⟨as, ru, hu⟩ := ru
      obtain ⟨bs, rv, hv⟩ := rv
      cases ru with
      | @list a1 v1 n1 x1 as1 e1 r1 =>
        cases rv with
        | @list a2 v2 n2 x2 as2 e2 r2 =>
          refine P.add_list e1 e2 (k _ _ s.toks (Keep.push ho.tab _) ?_) ?_
          · have := rv_new (C := C) (S := S) ho.tab hs (rdAll_append r1 r2) fun b hb => by
              rcases List.mem_append.mp hb with hb | hb
              · exact hu b (.tail _ hb)
              · exact hv b (.tail _ hb)
            have e : (v1.toList ++ v2.toList).toArray = v1 ++ v2 := by apply Array.ext'; simp
            rw [e] at this; exact this
          · rw [← rdAll_length r1, ← rdAll_length r2] at hz
            simpa using hz
    · cases e
  · cases e

/-- a text as often as an int says -/
noncomputable def oMulS : DV → DV → Option DV
  | .p (.str x), .p (.int k) => if 0 ≤ k ∧ k < 1000 ∧ x.length < 1000 then some (dstr (Txt.mul x k)) else none
  | .p (.int a), .p (.int b) => if 0 ≤ a ∧ a < 2 ^ 30 ∧ 0 ≤ b ∧ b < 2 ^ 30 then some (dint (a * b)) else none
  | _, _ => none
theorem mulOk_small {x : Str} {k : Int} (h0 : 0 ≤ k) (h1 : k < 1000) (h2 : x.length < 1000) : MulOk x k := by
  refine ⟨?_, fun a _ => ?_, fun a _ => ?_⟩
  · simp only [Bool.or_eq_false_iff, decide_eq_false_iff_not]; omega
  · have : (1000 : Int) ≤ (2 ^ 63 - 1) / k := by
      refine (Int.le_ediv_iff_mul_le (by omega)).mpr ?_
      omega
    omega
  · have hk : k.toNat < 1000 := by omega
    have : x.length * k.toNat ≤ 1000 * 1000 := Nat.mul_le_mul (Nat.le_of_lt h2) (Nat.le_of_lt hk)
    have e : ∀ m : Nat, m ≤ 1000000 → Builtin.Str.tooLong m = false := fun m hm => by
      unfold Builtin.Str.tooLong
      simp only [decide_eq_false_iff_not, gt_iff_lt, sizeLine]
      omega
    exact e _ this
theorem op_mulS : Op2 C n (binaryOp .Mult) oMulS := by
  intro S A s a b d u v Q E _ ho hs ru rv e k
  unfold oMulS at e
  split at e
  · split at e
    · rename_i hz
      cases e
      obtain ⟨t1, rfl⟩ := of_str ru
      obtain ⟨t2, rfl⟩ := of_int rv
      exact SB.mul (mulOk_small hz.1 hz.2.1 hz.2.2) fun t' tk => k _ _ _ (.refl ho.tab) rv_str
    · cases e
  · split at e
    · rename_i hz
      cases e
      obtain ⟨t1, rfl⟩ := of_int ru
      obtain ⟨t2, rfl⟩ := of_int rv
      exact mul_int (k _ _ _ (.refl ho.tab) rv_int) (by mul_fits)
    · cases e
  · cases e

/-- == of ints, bools, texts, and of lists and tuples at any depth -/
noncomputable def oEqB : DV → DV → Option Bool
  | .p (.int a), .p (.int b) => some (a == b)
  | .p (.bool a), .p (.bool b) => some (a == b)
  | .p (.str a), .p (.str b) => some (a == b)
  | .p (.list a), .p (.list b) => if (PyData.list a).canLay0 && (PyData.list b).canLay0 && decide ((PyData.list a).depth ≤ 9) then some (PyData.eqv (.list a) (.list b)) else none
  | _, _ => none
noncomputable def oEq (a b : DV) : Option DV := (oEqB a b).map dbool
noncomputable def oNe (a b : DV) : Option DV := (oEqB a b).map fun c => dbool (!c)
theorem op_eq (hn : 1 ≤ n) : Op2 C n (compareOp .Eq) oEq := by
  intro S A s a b d u v Q E ha ho hs ru rv e k
  unfold oEq oEqB at e
  split at e
  · cases e
    obtain ⟨t1, rfl⟩ := of_int ru
    obtain ⟨t2, rfl⟩ := of_int rv
    exact eq_int (k _ _ s.toks (.refl ho.tab) rv_bool)
  · cases e
    rw [of_bool ru, of_bool rv]
    exact eq_bool (k _ _ s.toks (.refl ho.tab) rv_bool)
  · cases e
    obtain ⟨t1, rfl⟩ := of_str ru
    obtain ⟨t2, rfl⟩ := of_str rv
    exact eq_str (k _ _ s.toks (.refl ho.tab) rv_bool)
  · split at e
    · rename_i hz
      cases e
      simp only [Bool.and_eq_true, decide_eq_true_eq] at hz
      obtain ⟨as, ru, hu⟩ := ru
      obtain ⟨bs, rv, hv⟩ := rv
      refine SeqAt.compareEq_reads ru.reads rv.reads hz.1.1 hz.1.2 ?_ (k _ _ s.toks (.refl ho.tab) rv_bool)
      have := ha.units
      have := Nat.min_le_left (PyData.list ‹List PyData›).depth (PyData.list ‹List PyData›).depth
      omega
    · cases e
  · cases e
end Mine
end
section -- F4
open PySem PySem.Spec PySem.W PyProof.Rows
set_option Elab.async false
set_option maxRecDepth 100000
namespace Mine
variable {C : Cx} {τ : List Str} {κ : Str → Option NameKind} {n : Nat}

theorem op_ne (hn : 1 ≤ n) : Op2 C n (compareOp .NotEq) oNe := by
  intro S A s a b d u v Q E ha ho hs ru rv e k
  unfold oNe oEqB at e
  split at e
  · cases e
    obtain ⟨t1, rfl⟩ := of_int ru
    obtain ⟨t2, rfl⟩ := of_int rv
    exact ne_int (k _ _ s.toks (.refl ho.tab) rv_bool)
  · cases e
    rw [of_bool ru, of_bool rv]
    exact ne_bool (k _ _ s.toks (.refl ho.tab) rv_bool)
  · cases e
    obtain ⟨t1, rfl⟩ := of_str ru
    obtain ⟨t2, rfl⟩ := of_str rv
    exact ne_str (k _ _ s.toks (.refl ho.tab) rv_bool)
  · split at e
    · rename_i hz
      cases e
      simp only [Bool.and_eq_true, decide_eq_true_eq] at hz
      obtain ⟨as, ru, hu⟩ := ru
      obtain ⟨bs, rv, hv⟩ := rv
      refine SeqAt.compareNe_reads ru.reads rv.reads hz.1.1 hz.1.2 ?_ (k _ _ s.toks (.refl ho.tab) rv_bool)
      have := ha.units
      have := Nat.min_le_left (PyData.list ‹List PyData›).depth (PyData.list ‹List PyData›).depth
      omega
    · cases e
  · cases e

-- a dict of ints
/-- == of ints, in the recursors' words: the kernel is thirty times quicker on it than on a decision -/
noncomputable def eqI (a k : Int) : Bool :=
  Int.rec (motive := fun _ => Bool) (fun m => Int.rec (motive := fun _ => Bool) (fun n => Nat.beq m n) (fun _ => false) k) (fun m => Int.rec (motive := fun _ => Bool) (fun _ => false) (fun n => Nat.beq m n) k) a
theorem eqI_eq (a k : Int) : eqI a k = decide (a = k) := by
  cases a <;> cases k
  · rename_i m n
    show Nat.beq m n = _
    rw [Bool.eq_iff_iff, Nat.beq_eq, decide_eq_true_iff, Int.ofNat.injEq]
  · exact (decide_eq_false fun h => by cases h).symm
  · exact (decide_eq_false fun h => by cases h).symm
  · rename_i m n
    show Nat.beq m n = _
    rw [Bool.eq_iff_iff, Nat.beq_eq, decide_eq_true_iff, Int.negSucc.injEq]
theorem rec_ite {α : Type} (a k : Int) (x y : α) : (Bool.rec (motive := fun _ => α) y x (eqI a k)) = if a = k then x else y := by
  rw [eqI_eq]
  by_cases h : a = k
  · rw [if_pos h, decide_eq_true h]
  · rw [if_neg h, decide_eq_false h]
noncomputable def dlook (es : List (Int × Int)) (k : Int) : Option Int :=
  List.rec (motive := fun _ => Option Int) none (fun p _ ih => Bool.rec (motive := fun _ => Option Int) ih (some p.2) (eqI p.1 k)) es
theorem dlook_cons (a v : Int) (r : List (Int × Int)) (k : Int) : dlook ((a, v) :: r) k = if a = k then some v else dlook r k := rec_ite a k _ _
theorem ipairs_look : ∀ {kvs : List (Int × Value)} {es : List (Int × Int)}, IPairs kvs es → ∀ k : Int, (∀ v, dlook es k = some v → ∃ t, valueAt kvs k = some (.int v t)) ∧ (dlook es k = none → valueAt kvs k = none)
  | _, _, .nil, k => ⟨fun v e => (by cases e), fun _ => rfl⟩
  | _, _, .cons (k := a) (v := v0) (t := t) (kvs := kvs) (es := es) r, k => by
    have ih := ipairs_look r k
    rw [dlook_cons]
    unfold valueAt
    by_cases h : a = k
    · simp only [h, if_true, List.find?_cons, decide_true]
      exact ⟨fun v e => ⟨t, by cases e; rfl⟩, fun e => by cases e⟩
    · simp only [if_neg h, List.find?_cons, decide_eq_false h]
      exact ih
theorem dict_low {a : Addr} (hl : Above C a) : (a == sysModules) = false :=
  beq_eq_false_iff_ne.mpr (Nat.ne_of_gt hl.2)
theorem intKind_int {prog : Program} {w : World} {k : Int} {t : Tok} : (intKind prog w).is k (.int k t) = true := intKind_is prog w k t

noncomputable def oIn : DV → DV → Option DV
  | .p (.int k), .dict es => some (dbool (dlook es k).isSome)
  | _, _ => none
theorem op_in : Op2 C n (compareOp .In) oIn := by
  intro S A s a b d u v Q E ha ho hs ru rv e k
  unfold oIn at e
  split at e
  · rename_i kk es
    cases e
    obtain ⟨t1, rfl⟩ := of_int ru
    obtain ⟨a', kvs, rfl, hS, hl, hd, hp⟩ := rv
    refine wpAny_in_of intKind_int (dict_low hl) hd.mapOf ?_
    have ih := ipairs_look hp kk
    cases q : dlook es kk with
    | none =>
      rw [ih.2 q]
      exact k _ _ _ (.refl ho.tab) (by rw [q]; exact rv_bool)
    | some w =>
      obtain ⟨t, e⟩ := ih.1 w q
      rw [e]
      exact k _ _ _ (.refl ho.tab) (by rw [q]; exact rv_bool)
  · cases e

/-- not in a list -/
noncomputable def oNotIn : DV → DV → Option DV
  | .p x, .p (.list ys) => if x.canLay0 && (PyData.list ys).canLay0 && decide (x.depth ≤ 9) then some (dbool (!ys.any fun y => PyData.eqv y x)) else none
  | _, _ => none
theorem canLayAll_of {ys : List PyData} (h : (PyData.list ys).canLay0 = true) : PyData.canLayAll0 ys = true := by simpa only [PyData.canLay0] using h
theorem op_notin (hn : 1 ≤ n) : Op2 C n (compareOp .NotIn) oNotIn := by
  intro S A s a b d u v Q E ha ho hs ru rv e k
  unfold oNotIn at e
  split at e
  · split at e
    · rename_i x ys hz
      cases e
      simp only [Bool.and_eq_true, decide_eq_true_eq] at hz
      obtain ⟨as, ru, hu⟩ := ru
      obtain ⟨bs, rv, hv⟩ := rv
      refine SeqAt.notIn_list_reads rv.reads ru.reads (canLayAll_of hz.1.2) hz.1.1 ?_ (k _ _ s.toks (.refl ho.tab) rv_bool)
      have := ha.units
      have := Nat.min_le_right (PyData.depthAll ys) x.depth
      omega
    · cases e
  · cases e

/-- an item -/
noncomputable def oSub : DV → DV → Option DV
  | .p (.list xs), .p (.int k) => if 0 ≤ k ∧ k < 1000000 then (xs[k.toNat]?).map DV.p else none
  | .p (.str x), .p (.int k) => if 0 ≤ k ∧ k < x.length ∧ k < 1000000 then some (dstr (Txt.item x k)) else none
  | .dict es, .p (.int k) => (dlook es k).map dint
  | _, _ => none
theorem fits_small {k : Int} (h0 : 0 ≤ k) (h1 : k < 1000000) : fitsSsize k = true := by
  simp only [fitsSsize, Bool.not_eq_true', Bool.or_eq_false_iff, decide_eq_false_iff_not]
  omega
theorem tail_str {val sl : Expr} {A : Around} {s : Shared} {Q E : Value → Shared → Prop} {x : Str} {t u : Tok} {k : Int} {ops : List Value} (h0 : 0 ≤ k) (h1 : k < x.length) (h2 : k < 1000000)
    (hops : subscripted sl false (.str x t) (.int k u) = operate ops (getItem (.str x t) (.int k u)))
    (h : Q (.str (Txt.item x k) s.toks) { s with toks := s.toks + 1 }) : wpAny (model C.prog C.w) A (subscriptTail val sl (.str x t) (.int k u)) Q E s := by
  have hc : (Txt.charAt x k).isSome = true := charAt_isSome (by omega) h1
  obtain ⟨T, id, hl, hT, hg⟩ := SB.item (prog := C.prog) (w := C.w) (A := A) (E := E) (s := s) (x := x) (t := t) (u := u) (Q := Q) (fits_small h0 h2) hc h
  exact tail_any hT hl hg hops
theorem tail_list {val sl : Expr} {A : Around} {s : Shared} {Q E : Value → Shared → Prop} {a : Addr} {vs : Array Value} {m : Nat} {u : Tok} {k : Int} {v : Value} {ops : List Value} (e : s.heap.get? a = some (lobj vs m)) (h0 : 0 ≤ k) (h1 : k < 1000000)
    (hv : vs.toList[k.toNat]? = some v) (hops : subscripted sl false (.ref a) (.int k u) = operate ops (getItem (.ref a) (.int k u))) (h : Q v s) :
    wpAny (model C.prog C.w) A (subscriptTail val sl (.ref a) (.int k u)) Q E s :=
  tail_any (T := "list") ⟨_, e, rfl⟩ slot_list_getitem.lookup (wpAny_getItem_list ⟨_, e, rfl, _, rfl⟩ h0 (by omega) (by simpa using hv) h) hops
theorem se_sub {val sl : Expr} {pos : Pos} {f g : G → Option DV} (hv : SE C τ κ n val f) (hi : SE C τ κ n sl g)
    (hs : ∀ o i, ∃ ops, subscripted sl false o i = operate ops (getItem o i)) : SE C τ κ n (.Subscript val sl pos) (op2 oSub f g) := by
  intro env S A s Γ d Q E ha fe re e h
  obtain ⟨a, b, ea, eb, ed⟩ := op2_some e
  refine Subscript_ (two hv hi (Q := fun u v s₂ => wpAny (model C.prog C.w) A (subscriptTail val sl u v) Q E s₂) ha fe re ea eb fun u v h' tk k re' ru rv => ?_)
  obtain ⟨ops, hops⟩ := hs u v
  unfold oSub at ed
  split at ed
  · rename_i xs kk
    split at ed
    · rename_i hz
      obtain ⟨t2, rfl⟩ := of_int rv
      cases q : xs[kk.toNat]? with
      | none => rw [q] at ed; cases ed
      | some y =>
        rw [q] at ed
        cases ed
        obtain ⟨as, ru, hu⟩ := ru
        cases ru with
        | list e1 r1 =>
          obtain ⟨w, bs, ew, rw', hw⟩ := rdAll_get r1 q
          exact tail_list e1 hz.1 hz.2 ew hops (h _ _ _ k ⟨bs, rw', fun b hb => hu b (.tail _ (hw b hb))⟩)
    · cases ed
  · rename_i x kk
    split at ed
    · rename_i hz
      cases ed
      obtain ⟨t1, rfl⟩ := of_str ru
      obtain ⟨t2, rfl⟩ := of_int rv
      exact tail_str hz.1 hz.2.1 hz.2.2 hops (h _ _ _ k rv_str)
    · cases ed
  · rename_i es kk
    obtain ⟨t2, rfl⟩ := of_int rv
    obtain ⟨a', kvs, rfl, hS, hl, hd, hp⟩ := ru
    cases q : dlook es kk with
    | none => rw [q] at ed; cases ed
    | some y =>
      rw [q] at ed
      cases ed
      obtain ⟨t, ev⟩ := (ipairs_look hp _).1 y q
      exact tail_any (T := "dict") hd.typeIs slot_dict_getitem.lookup (wpAny_getItem_of intKind_int hd.mapOf ev (h _ _ _ k rv_int)) hops
  · cases ed
end Mine
end
section -- F5
open PySem PySem.Spec PySem.Calls PySem.W PyProof.Rows
set_option Elab.async false
set_option maxRecDepth 100000
namespace Mine
variable {C : Cx} {τ : List Str} {κ : Str → Option NameKind} {n : Nat}

inductive RvAll (C : Cx) (S : List Addr) (h : Heap) : List Value → List DV → Prop
  | nil : RvAll C S h [] []
  | cons {v vs d ds} : Rv C S h v d → RvAll C S h vs ds → RvAll C S h (v :: vs) (d :: ds)
theorem RvAll.pure {S : List Addr} {h h' : Heap} (k : Keep C [] h h') (t : C.Tab h) : ∀ {vs : List Value} {ds : List DV}, RvAll C S h vs ds → RvAll C S h' vs ds
  | _, _, .nil => .nil
  | _, _, .cons r rs => .cons (r.pure k t) (rs.pure k t)
theorem rvAll2 {S : List Addr} {h : Heap} {vs : List Value} {a b : DV} (rs : RvAll C S h vs [a, b]) : ∃ v1 v2, vs = [v1, v2] ∧ Rv C S h v1 a ∧ Rv C S h v2 b := by
  cases rs with
  | cons r1 rs =>
    cases rs with
    | cons r2 rs => cases rs; exact ⟨_, _, rfl, r1, r2⟩
theorem rvAll3 {S : List Addr} {h : Heap} {vs : List Value} {a b c : DV} (rs : RvAll C S h vs [a, b, c]) : ∃ v1 v2 v3, vs = [v1, v2, v3] ∧ Rv C S h v1 a ∧ Rv C S h v2 b ∧ Rv C S h v3 c := by
  cases rs with
  | cons r1 rs =>
    obtain ⟨_, _, rfl, r2, r3⟩ := rvAll2 rs
    exact ⟨_, _, _, rfl, r1, r2, r3⟩

noncomputable def SEs (C : Cx) (τ : List Str) (κ : Str → Option NameKind) (n : Nat) (es : List Expr) (f : G → Option (List DV)) : Prop :=
  ∀ (env : Env) (S : List Addr) (A : Around) (s : Shared) (Γ : G) (pos : Pos) (ds : List DV) (Q : List Value → Shared → Prop) (E : Value → Shared → Prop),
    AOk n A → FnEnv κ env → Rel C τ S env Γ s.heap → f Γ = some ds →
    (∀ vs h' tk, Keep C [] s.heap h' → RvAll C S h' vs ds → Q vs { s with heap := h', toks := tk }) →
    wpAny (model C.prog C.w) A (spliced (backTo pos (starEach es env))) Q E s
noncomputable def fnil : G → Option (List DV) := fun _ => some []
noncomputable def fcons (f : G → Option DV) (g : G → Option (List DV)) : G → Option (List DV) := fun Γ =>
  match f Γ, g Γ with
  | some a, some b => some (a :: b)
  | _, _ => none
theorem fcons_some {f : G → Option DV} {g : G → Option (List DV)} {Γ : G} {ds : List DV} (h : fcons f g Γ = some ds) : ∃ a b, f Γ = some a ∧ g Γ = some b ∧ ds = a :: b := by
  unfold fcons at h
  split at h
  · cases h; exact ⟨_, _, by assumption, by assumption, rfl⟩
  · cases h
theorem ses_nil : SEs C τ κ n [] fnil := by
  intro env S A s Γ pos ds Q E _ _ re e h
  cases e
  exact args_nil (h [] s.heap s.toks (.refl re.ok.tab) .nil)
theorem ses_cons {e : Expr} {es : List Expr} {f : G → Option DV} {g : G → Option (List DV)} (he : SE C τ κ n e f) (hes : SEs C τ κ n es g) (hst : ∀ env, starEach (e :: es) env = (false, eval e env) :: starEach es env) :
    SEs C τ κ n (e :: es) (fcons f g) := by
  intro env S A s Γ pos ds Q E ha fe re ed h
  obtain ⟨a, b, ea, eb, rfl⟩ := fcons_some ed
  refine args_cons (he env S A s Γ a _ E ha fe re ea fun v h₁ tk₁ k₁ rv => ?_) (hst env)
  have re₁ := re.pure k₁
  refine hes env S A _ Γ pos b _ E ha fe re₁ eb fun vs h₂ tk₂ k₂ rs => ?_
  exact h _ _ _ (k₁.trans k₂) (.cons (rv.pure k₂ re₁.ok.tab) rs)

/-- data alone -/
noncomputable def asP : List DV → Option (List PyData)
  | [] => some []
  | .p d :: r => match asP r with
    | some ds => some (d :: ds)
    | none => none
  | _ :: _ => none
theorem rdAll_of {S : List Addr} {h : Heap} : ∀ {vs : List Value} {ds : List DV} {xs : List PyData}, RvAll C S h vs ds → asP ds = some xs → ∃ as, RdAll h vs xs as ∧ ∀ b ∈ as, b ∉ S
  | _, _, xs, .nil, e => by cases e; exact ⟨[], .nil, fun _ hb => nomatch hb⟩
  | _, _, xs, .cons (d := d) (ds := ds) r rs, e => by
    cases d with
    | p d =>
      cases q : asP ds with
      | none => simp [asP, q] at e
      | some ys =>
        simp [asP, q] at e
        subst e
        obtain ⟨as, r, ha⟩ := r
        obtain ⟨bs, rs, hb⟩ := rdAll_of rs q
        refine ⟨as ++ bs, .cons r rs, fun b hm => ?_⟩
        rcases List.mem_append.mp hm with hm | hm
        · exact ha b hm
        · exact hb b hm
    | dict => simp [asP] at e
    | order => simp [asP] at e

noncomputable def fList (f : G → Option (List DV)) : G → Option DV := fun Γ => match f Γ with
  | some ds => match asP ds with
    | some xs => if xs.length ≤ 1000 then some (.p (.list xs)) else none
    | none => none
  | none => none
noncomputable def fTuple (f : G → Option (List DV)) : G → Option DV := fun Γ => match f Γ with
  | some ds => match asP ds with
    | some xs => if xs.length ≤ 1000 then some (.p (.tuple xs)) else none
    | none => none
  | none => none
theorem size_small {m : Nat} (h : m ≤ 1000) : m ≤ sizeLine := Nat.le_trans h (by decide)
theorem se_list {es : List Expr} {pos : Pos} {f : G → Option (List DV)} (hes : SEs C τ κ n es f) : SE C τ κ n (.List es pos) (fList f) := by
  intro env S A s Γ d Q E ha fe re ed h
  unfold fList at ed
  split at ed
  · rename_i ds eds
    split at ed
    · rename_i xs exs
      split at ed
      · rename_i hz
        cases ed
        refine List_ (hes env S A s Γ pos ds _ E ha fe re eds fun vs h₁ tk₁ k₁ rs => ?_)
        have re₁ := re.pure k₁
        obtain ⟨as, rs, has⟩ := rdAll_of rs exs
        refine wpAny_newObj_type (h _ _ tk₁ (k₁.trans (Keep.push re₁.ok.tab _)) (rv_new re₁.ok.tab re₁.live rs has)) ?_
        show vs.toArray.size ≤ sizeLine
        rw [List.size_toArray, rdAll_length rs]; exact size_small hz
      · cases ed
    · cases ed
  · cases ed
theorem se_tuple {es : List Expr} {k : Nat} {pos : Pos} {f : G → Option (List DV)} (hes : SEs C τ κ n es f) : SE C τ κ n (.Tuple es k pos) (fTuple f) := by
  intro env S A s Γ d Q E ha fe re ed h
  unfold fTuple at ed
  split at ed
  · rename_i ds eds
    split at ed
    · rename_i xs exs
      split at ed
      · rename_i hz
        cases ed
        refine Tuple_ (hes env S A s Γ pos ds _ E ha fe re eds fun vs h₁ tk₁ k₁ rs => ?_)
        have re₁ := re.pure k₁
        obtain ⟨as, rs, has⟩ := rdAll_of rs exs
        refine wpAny_newObj_type (h _ _ tk₁ (k₁.trans (Keep.push re₁.ok.tab _)) (rv_newT re₁.ok.tab rs has)) ?_
        show vs.toArray.size ≤ sizeLine
        rw [List.size_toArray, rdAll_length rs]; exact size_small hz
      · cases ed
    · cases ed
  · cases ed

/-- what a call of a value gives -/
noncomputable def FS (C : Cx) (n : Nat) (fv : Value) (F : List DV → Option DV) : Prop :=
  ∀ (S : List Addr) (A : Around) (s : Shared) (vs : List Value) (ds : List DV) (d : DV) (Q : Value → Shared → Prop) (E : Value → Shared → Prop),
    AOk n A → HOk C s.heap → (∀ x ∈ S, ∃ o, s.heap.get? x = some o) → RvAll C S s.heap vs ds → F ds = some d →
    (∀ v h' tk, Keep C [] s.heap h' → Rv C S h' v d → Q v { s with heap := h', toks := tk }) →
    wpAny (model C.prog C.w) A (call fv vs) Q E s

noncomputable def fCall (F : List DV → Option DV) (g : G → Option (List DV)) : G → Option DV := fun Γ => match g Γ with
  | some ds => F ds
  | none => none

/-- a name of the module's, or a builtin one -/
theorem glob_name {x : Str} {pos : Pos} {v : Value} {env : Env} {A : Around} {s : Shared} {Q : Value → Shared → Prop} {E : Value → Shared → Prop} (fe : FnEnv κ env) (ho : HOk C s.heap) (hk : κ x = some .globalImplicit)
    (hv : C.mg x = some v ∨ (C.mg x = none ∧ C.mb x = some v)) (hd : (x == ("__debug__" : Str)) = false) (h : Q v s) : wpAny (model C.prog C.w) A (eval (.Name x pos) env) Q E s := by
  refine Name_function_global fe.kind ((fe.is x).trans hk) ?_ hd
  rcases hv with hv | ⟨h1, h2⟩
  · exact loadGlobal_global (by rw [fe.glob]; exact ho.gl) hv h
  · exact loadGlobal_builtin (by rw [fe.glob]; exact ho.gl) h1 (by rw [fe.bins]; exact ho.bl) h2 h

theorem callWith_nil {M : Model} {A : Around} {E : Value → Shared → Prop} {s : Shared} {pos : Pos} {f : Value} {P : Heap → Prop} {Q : Value → Shared → Prop}
    (hk : ∀ h, P h → ∃ k, (k = Keeper.frame ∨ k = Keeper.machine ∨ k = Keeper.boundFrame) ∧ Looks M h (keeperOf f) k) (hp : P s.heap) (h : wpAny M A (call f []) Q E s) : wpAny M A (callWith pos f [] [] []) Q E s :=
  callWith_of (P := P) rfl hk (evalArgs_nil3 ⟨hp, h⟩)

/-- a call of a def of the module's: its name, its arguments -/
theorem se_call {x : Str} {p pos : Pos} {e : Expr} {es : List Expr} {fa : Addr} {fo : Obj} {fd : FuncData} {F : List DV → Option DV} {g : G → Option (List DV)} (hes : SEs C τ κ n (e :: es) g) (hF : FS C n (.ref fa) F)
    (hg : C.mg x = some (.ref fa)) (hob : C.hb.get? fa = some fo) (hfd : fo.data = .func fd) (hft : fa ≠ C.tab) (hk : κ x = some .globalImplicit) (hd : (x == ("__debug__" : Str)) = false)
    (hst : ∀ env, starEach (e :: es) env = (false, eval e env) :: starEach es env) (hpl : ∀ env, (backTo pos (starEach es env)).any (·.1) = false)
    (hev : ∀ env, eval (.Call (.Name x p) (e :: es) [] pos) env = (do callWith pos (← eval (.Name x p) env) [] (backTo pos (starEach (e :: es) env)) (backToKw pos (keywordEach [] env)))) :
    SE C τ κ n (.Call (.Name x p) (e :: es) [] pos) (fCall F g) := by
  intro env S A s Γ d Q E ha fe re ed h
  unfold fCall at ed
  split at ed
  · rename_i ds eds
    refine Call_ (glob_name fe re.ok hk (.inl hg) hd ?_) (hev env)
    have hb := hes env S A s Γ pos ds (fun vs s₁ => HOk C s₁.heap ∧ wpAny (model C.prog C.w) A (call (.ref fa) vs) Q E s₁) E ha fe re eds fun vs h₁ tk₁ k₁ rs => by
      have re₁ := re.pure k₁
      exact ⟨re₁.ok, hF S A _ vs ds d Q E ha re₁.ok re₁.live rs ed fun v h₂ tk₂ k₂ rv => h v h₂ tk₂ (k₁.trans k₂) rv⟩
    have hsh : backTo pos (starEach (e :: es) env) = (false, (do let v ← eval e env; standAt pos; pure v)) :: backTo pos (starEach es env) ∨ True := .inr trivial
    rw [hst env] at hb ⊢
    refine callWith_of (P := HOk C) ?_ (fun h' ok => ⟨.frame, .inl rfl, ?_⟩) (Calls.evalArgs_plain hb)
    · show ((false || (backTo pos (starEach es env)).any (·.1)) || false) = false
      rw [hpl env]; rfl
    · have e' := ok.base fa fo hob hft
      obtain ⟨c0, d0, dt0, s0⟩ := fo
      cases hfd
      exact (Looks.ld (part := none) e').andThen .now
  · cases ed
end Mine
end
section -- F6
open PySem PySem.Spec PySem.Calls PySem.W PyProof.Rows
set_option Elab.async false
set_option maxRecDepth 100000
namespace Mine
variable {C : Cx} {τ : List Str} {κ : Str → Option NameKind} {n : Nat}

noncomputable def frameW (env : Env) : List Addr := env.locals :: env.cells.map (·.2)
noncomputable abbrev Own := List (Nat × Addr)
noncomputable def Mset (W : List Addr) (own : Own) : List Addr := W ++ own.map (·.2)

noncomputable def RvO (C : Cx) (S : List Addr) (h : Heap) (a : Addr) : DV → Prop
  | .p (.list xs) => ∃ vs n as, h.get? a = some (lobj vs n) ∧ RdAll h vs.toList xs as ∧ ∀ b ∈ as, b ∉ S
  | .dict es => ∃ kvs, h.DictOf (intKind C.prog C.w) a kvs ∧ IPairs kvs es
  | _ => False

/-- what is known of a variable's value -/
noncomputable def Known (C : Cx) (S : List Addr) (h : Heap) (v : Value) (d : DV) : Option Addr → Prop
  | none => Rv C S h v d
  | some a => v = .ref a ∧ RvO C S h a d

structure RelS (C : Cx) (τ : List Str) (S₀ W : List Addr) (env : Env) (Γ : G) (own : Own) (h : Heap) : Prop where
  ok : HOk C h
  lt₀ : ∀ b ∈ S₀, ∃ o, h.get? b = some o
  dis : ∀ b ∈ S₀, b ∉ Mset W own
  low : ∀ b ∈ Mset W own, Above C b
  mt : ∀ b ∈ Mset W own, ∃ o, h.get? b = some o ∧ Mut o
  nd : (Mset W own).Nodup
  wl : env.locals ∈ W
  wc : ∀ x c, env.cells.lookup x = some c → c ∈ W ∨ (c ∈ S₀ ∧ (env.func = none ∨ env.kindOf x = some .free))
  ce : ∀ x, env.kindOf x = some .cell → ∃ c, env.cells.lookup x = some c
  cnd : ∀ x y c, c ∈ W → env.cells.lookup x = some c → env.cells.lookup y = some c → x = y
  cells : ∀ x c, env.cells.lookup x = some c → ∃ v, h.IsCell c v
  loc : ∃ m, h.Ns env.locals m ∧ ∀ i d, Γ i = some d → ∃ x v, τ[i]? = some x ∧ At env m h x v ∧ Known C (S₀ ++ Mset W own) h v d (own.lookup i)

theorem RvO.rv {S S' : List Addr} {h : Heap} {a : Addr} {d : DV} (r : RvO C S h a d) (hl : Above C a) (ha : a ∉ S') (hs : ∀ b ∈ S', b ∈ S) : Rv C S' h (.ref a) d := by
  match d, r with
  | .p (.list xs), ⟨vs, m, as, e, r, q⟩ => exact ⟨a :: as, .list e r, fun b hb => by
      rcases List.mem_cons.mp hb with rfl | hb
      · exact ha
      · exact fun x => q b hb (hs b x)⟩
  | .dict es, ⟨kvs, hd, hp⟩ => exact ⟨a, kvs, rfl, ha, hl, hd, hp⟩

theorem lookup_mem {own : Own} {i : Nat} {a : Addr} (h : own.lookup i = some a) : (i, a) ∈ own := by
  induction own with
  | nil => cases h
  | cons p r ih =>
    obtain ⟨j, b⟩ := p
    rw [List.lookup_cons] at h
    cases q : i == j with
    | true => rw [q] at h; cases h; rw [eq_of_beq q]; exact .head _
    | false => rw [q] at h; exact .tail _ (ih h)
theorem lookup_none {own : Own} {i : Nat} (h : i ∉ own.map (·.1)) : own.lookup i = none := by
  induction own with
  | nil => rfl
  | cons p r ih =>
    obtain ⟨j, b⟩ := p
    rw [List.lookup_cons]
    have : (i == j) = false := beq_eq_false_iff_ne.mpr fun e => h (by rw [e]; exact .head _)
    rw [this]
    exact ih fun q => h (.tail _ q)
theorem own_in {W : List Addr} {own : Own} {i : Nat} {a : Addr} (h : (i, a) ∈ own) : a ∈ Mset W own := List.mem_append_right _ (List.mem_map.mpr ⟨_, h, rfl⟩)

theorem RelS.rel {S₀ W : List Addr} {env : Env} {Γ : G} {own : Own} {h : Heap} (r : RelS C τ S₀ W env Γ own h) : Rel C τ (S₀ ++ W) env Γ h := by
  refine ⟨r.ok, fun b hb => ?_, ?_⟩
  · rcases List.mem_append.mp hb with hb | hb
    · exact r.lt₀ b hb
    · obtain ⟨o, e, _⟩ := r.mt b (List.mem_append_left _ hb); exact ⟨o, e⟩
  · obtain ⟨m, hn, hv⟩ := r.loc
    refine ⟨m, hn, fun i d e => ?_⟩
    obtain ⟨x, v, ex, a, kn⟩ := hv i d e
    refine ⟨x, v, ex, a, ?_⟩
    cases q : own.lookup i with
    | none =>
      rw [q] at kn
      refine Rv.sub kn fun b hb => ?_
      rcases List.mem_append.mp hb with hb | hb
      · exact List.mem_append_left _ hb
      · exact List.mem_append_right _ (List.mem_append_left _ hb)
    | some c =>
      rw [q] at kn
      obtain ⟨rfl, ro⟩ := kn
      have hm := own_in (W := W) (lookup_mem q)
      refine ro.rv (r.low c hm) (fun hc => ?_) fun b hb => ?_
      · rcases List.mem_append.mp hc with hc | hc
        · exact r.dis c hc hm
        · have nd := r.nd
          unfold Mset at nd
          rw [List.nodup_append] at nd
          exact nd.2.2 c hc c (List.mem_map.mpr ⟨_, lookup_mem q, rfl⟩) rfl
      · rcases List.mem_append.mp hb with hb | hb
        · exact List.mem_append_left _ hb
        · exact List.mem_append_right _ (List.mem_append_left _ hb)

theorem RelS.relD {S₀ W : List Addr} {env : Env} {Γ : G} {own : Own} {h : Heap} (r : RelS C τ S₀ W env Γ own h) : Rel C τ (S₀ ++ Mset W own) env (gdrop Γ (own.map (·.1))) h := by
  refine ⟨r.ok, fun b hb => ?_, ?_⟩
  · rcases List.mem_append.mp hb with hb | hb
    · exact r.lt₀ b hb
    · obtain ⟨o, e, _⟩ := r.mt b hb; exact ⟨o, e⟩
  · obtain ⟨m, hn, hv⟩ := r.loc
    refine ⟨m, hn, fun i d e => ?_⟩
    unfold gdrop at e
    split at e
    · cases e
    · rename_i hi
      obtain ⟨x, v, ex, a, kn⟩ := hv i d e
      rw [lookup_none (fun q => hi (List.contains_iff_mem.mpr q))] at kn
      exact ⟨x, v, ex, a, kn⟩

theorem RvO.keep {M S : List Addr} {h h' : Heap} (k : Gets C M h h') (t : C.Tab h) (hm : ∀ b ∈ M, ∀ o, h.get? b = some o → NotFix o) (hsub : ∀ b ∈ M, b ∈ S) {a : Addr} (ha : a ∉ M) {d : DV} (r : RvO C S h a d) : RvO C S h' a d := by
  match d, r with
  | .p (.list xs), ⟨vs, m, as, e, r, q⟩ => exact ⟨vs, m, as, k a _ e ha (tab_ne t e fun _ q => nomatch q), rdAll_keep k t hm r (fun b hb x => q b hb (hsub b x)), q⟩
  | .dict es, ⟨kvs, hd, hp⟩ =>
    refine ⟨kvs, dictOf_at hd fun o e => k a o e ha ?_, hp⟩
    obtain ⟨o', es', n', e', hd', _⟩ := dictOf_get hd
    exact tab_ne t e' fun _ q => by rw [hd'] at q; cases q

theorem RelS.pure {S₀ W : List Addr} {env : Env} {Γ : G} {own : Own} {h h' : Heap} (r : RelS C τ S₀ W env Γ own h) (k : Keep C [] h h') : RelS C τ S₀ W env Γ own h' := by
  refine ⟨r.ok.pure k, fun b hb => let ⟨o, e⟩ := r.lt₀ b hb; k.live b o e, r.dis, r.low, mut_pure k r.ok.tab r.mt, r.nd, r.wl, r.wc, r.ce, r.cnd, fun x c e => ?_, ?_⟩
  · obtain ⟨v, hc⟩ := r.cells x c e; exact ⟨v, cell_pure k r.ok.tab hc⟩
  · obtain ⟨m, hn, hv⟩ := r.loc
    refine ⟨m, ns_pure k r.ok.tab hn, fun i d e => ?_⟩
    obtain ⟨x, v, ex, a, kn⟩ := hv i d e
    refine ⟨x, v, ex, a.keep fun c hc => cell_pure k r.ok.tab hc, ?_⟩
    cases q : own.lookup i with
    | none => rw [q] at kn; exact Rv.pure k r.ok.tab kn
    | some c => rw [q] at kn; exact ⟨kn.1, kn.2.keep k.get r.ok.tab (fun _ hb => nomatch hb) (fun _ hb => nomatch hb) (fun hb => nomatch hb)⟩

/-- the owned objects are let go: as any other from now on -/
theorem RelS.let_go {S₀ W : List Addr} {env : Env} {Γ : G} {own : Own} {h : Heap} (r : RelS C τ S₀ W env Γ own h) : RelS C τ S₀ W env Γ [] h := by
  have sub : ∀ b ∈ Mset W [], b ∈ Mset W own := fun b hb => by
    unfold Mset at hb
    rw [List.map_nil, List.append_nil] at hb
    exact List.mem_append_left _ hb
  refine ⟨r.ok, r.lt₀, fun b hb q => r.dis b hb (sub b q), fun b hb => r.low b (sub b hb), fun b hb => r.mt b (sub b hb), ?_, r.wl, r.wc, r.ce, r.cnd, r.cells, ?_⟩
  · have nd := r.nd
    unfold Mset at nd ⊢
    rw [List.nodup_append] at nd
    rw [List.map_nil, List.append_nil]; exact nd.1
  · obtain ⟨m, hn, hv⟩ := r.rel.loc
    refine ⟨m, hn, fun i d e => ?_⟩
    obtain ⟨x, v, ex, a, rv⟩ := hv i d e
    refine ⟨x, v, ex, a, ?_⟩
    unfold Mset
    rw [List.map_nil, List.append_nil]
    exact rv

noncomputable def atomic : DV → Bool
  | .p (.int _) => true
  | .p (.str _) => true
  | .p (.bool _) => true
  | .p .none => true
  | _ => false
theorem rv_atomic {S S' : List Addr} {h : Heap} {v : Value} {d : DV} (ha : atomic d = true) (r : Rv C S h v d) : Rv C S' h v d := by
  unfold atomic at ha
  split at ha
  · obtain ⟨as, r, _⟩ := r; cases r; exact ⟨[], by constructor, fun _ hb => nomatch hb⟩
  · obtain ⟨as, r, _⟩ := r; cases r; exact ⟨[], by constructor, fun _ hb => nomatch hb⟩
  · obtain ⟨as, r, _⟩ := r; cases r; exact ⟨[], by constructor, fun _ hb => nomatch hb⟩
  · obtain ⟨as, r, _⟩ := r; cases r; exact ⟨[], by constructor, fun _ hb => nomatch hb⟩
  · cases ha

noncomputable def evA (f : G → Option DV) (Γ : G) (O : List Nat) : Option (DV × List Nat) :=
  match f (gdrop Γ O) with
  | some d => some (d, O)
  | none => match f Γ with
    | some d => some (d, if atomic d then O else [])
    | none => none

theorem evalS {e : Expr} {f : G → Option DV} (hf : SE C τ κ n e f) {env : Env} {S₀ W : List Addr} {A : Around} {s : Shared} {Γ : G} {own : Own} {d : DV} {O' : List Nat} {Q : Value → Shared → Prop} {E : Value → Shared → Prop}
    (ha : AOk n A) (fe : FnEnv κ env) (re : RelS C τ S₀ W env Γ own s.heap) (ev : evA f Γ (own.map (·.1)) = some (d, O'))
    (h : ∀ v h' tk own', own'.map (·.1) = O' → (own' = own ∨ own' = []) → Keep C [] s.heap h' → RelS C τ S₀ W env Γ own' h' → Rv C (S₀ ++ Mset W own') h' v d → Q v { s with heap := h', toks := tk }) :
    wpAny (model C.prog C.w) A (eval e env) Q E s := by
  unfold evA at ev
  split at ev
  · rename_i d' ed
    cases ev
    exact hf env _ A s _ d Q E ha fe re.relD ed fun v h' tk k rv => h v h' tk own rfl (.inl rfl) k (re.pure k) rv
  · split at ev
    · rename_i d' ed
      cases ev
      refine hf env _ A s _ d Q E ha fe re.rel ed fun v h' tk k rv => ?_
      cases q : atomic d with
      | true => exact h v h' tk own (by simp [q]) (.inl rfl) k (re.pure k) (rv_atomic q rv)
      | false =>
        refine h v h' tk [] (by simp [q]) (.inr rfl) k (re.pure k).let_go ?_
        unfold Mset
        rw [List.map_nil, List.append_nil]; exact rv
    · cases ev
end Mine
end
section -- F7
open PySem PySem.Spec PySem.Calls PySem.W PyProof.Rows
set_option Elab.async false
set_option maxRecDepth 100000
namespace Mine
variable {C : Cx} {τ : List Str} {κ : Str → Option NameKind} {n : Nat}

inductive Res where
  | next (Γ : G) (O : List Nat)
  | ret (d : DV)

noncomputable def ResR (C : Cx) (τ : List Str) (S₀ W : List Addr) (env : Env) (fl : Flow) (own : Own) (h : Heap) : Res → Prop
  | .next Γ O => fl = .next ∧ own.map (·.1) = O ∧ RelS C τ S₀ W env Γ own h
  | .ret d => ∃ v, fl = .ret v ∧ HOk C h ∧ Rv C S₀ h v d

noncomputable def Sub (own own' : Own) (h : Heap) : Prop := ∀ p ∈ own', p ∈ own ∨ h.get? p.2 = none

structure FnS (κ : Str → Option NameKind) (env : Env) : Prop extends FnEnv κ env where
  fn : env.func ≠ none
/-- one statement; several -/
noncomputable def S1 (C : Cx) (τ : List Str) (κ : Str → Option NameKind) (n : Nat) (st : Stmt) (F : G → List Nat → Option Res) : Prop :=
  ∀ (env : Env) (S₀ W : List Addr) (own : Own) (A : Around) (s : Shared) (Γ : G) (r : Res) (Q : Flow → Shared → Prop) (E : Value → Shared → Prop),
    AOk n A → FnS κ env → RelS C τ S₀ W env Γ own s.heap → F Γ (own.map (·.1)) = some r →
    (∀ fl h' tk own', ResR C τ S₀ W env fl own' h' r → Keep C (Mset W own) s.heap h' → Sub own own' s.heap → Q fl { s with heap := h', toks := tk }) →
    wpAny (model C.prog C.w) A (exec st env) Q E s
noncomputable def SS (C : Cx) (τ : List Str) (κ : Str → Option NameKind) (n : Nat) (sts : List Stmt) (F : G → List Nat → Option Res) : Prop :=
  ∀ (env : Env) (S₀ W : List Addr) (own : Own) (A : Around) (s : Shared) (Γ : G) (r : Res) (Q : Flow → Shared → Prop) (E : Value → Shared → Prop),
    AOk n A → FnS κ env → RelS C τ S₀ W env Γ own s.heap → F Γ (own.map (·.1)) = some r →
    (∀ fl h' tk own', ResR C τ S₀ W env fl own' h' r → Keep C (Mset W own) s.heap h' → Sub own own' s.heap → Q fl { s with heap := h', toks := tk }) →
    wpAny (model C.prog C.w) A (execs sts env) Q E s

theorem Sub.refl {own : Own} {h : Heap} : Sub own own h := fun _ hp => .inl hp
theorem Sub.nil {own : Own} {h : Heap} : Sub own [] h := fun _ hp => nomatch hp
theorem Sub.of {own own' : Own} {h : Heap} (e : own' = own ∨ own' = []) : Sub own own' h := by
  rcases e with rfl | rfl
  · exact .refl
  · exact .nil
theorem Sub.trans {o1 o2 o3 : Own} {h h' : Heap} (a : Sub o1 o2 h) (b : Sub o2 o3 h') (hs : ∀ x o, h.get? x = some o → ∃ o', h'.get? x = some o') : Sub o1 o3 h := fun p hp => by
  rcases b p hp with q | q
  · exact a p q
  · refine .inr ?_
    cases e : h.get? p.2 with
    | none => rfl
    | some o => obtain ⟨o', e'⟩ := hs _ _ e; rw [q] at e'; cases e'
theorem Keep.seq {W : List Addr} {o1 o2 : Own} {h h' h'' : Heap} (a : Keep C (Mset W o1) h h') (sb : Sub o1 o2 h) (b : Keep C (Mset W o2) h' h'') : Keep C (Mset W o1) h h'' := by
  refine ⟨fun x o e hs ht => b.get x o (a.get x o e hs ht) (fun q => ?_) ht, fun x o e => let ⟨o', e'⟩ := a.live x o e; b.live x o' e', b.tab⟩
  rcases List.mem_append.mp q with q | q
  · exact hs (List.mem_append_left _ q)
  · obtain ⟨p, hp, rfl⟩ := List.mem_map.mp q
    rcases sb p hp with q' | q'
    · exact hs (List.mem_append_right _ (List.mem_map.mpr ⟨p, q', rfl⟩))
    · rw [q'] at e; cases e

noncomputable def fDone : G → List Nat → Option Res := fun Γ O => some (.next Γ O)
noncomputable def fSeq (F1 F2 : G → List Nat → Option Res) : G → List Nat → Option Res := fun Γ O => match F1 Γ O with
  | some (.next Γ' O') => F2 Γ' O'
  | some (.ret d) => some (.ret d)
  | none => none
theorem ss_nil : SS C τ κ n [] fDone := by
  intro env S₀ W own A s Γ r Q E _ _ re e h
  cases e
  exact wpAny_execs_nil (h _ _ s.toks own ⟨rfl, rfl, re⟩ (.refl re.ok.tab) .refl)
theorem ss_cons {st : Stmt} {sts : List Stmt} {F1 F2 : G → List Nat → Option Res} (h1 : S1 C τ κ n st F1) (h2 : SS C τ κ n sts F2) : SS C τ κ n (st :: sts) (fSeq F1 F2) := by
  intro env S₀ W own A s Γ r Q E ha fe re e h
  unfold fSeq at e
  refine wpAny_execs_cons ?_
  split at e
  · rename_i Γ' O' e1
    refine h1 env S₀ W own A s Γ _ _ E ha fe re e1 fun fl h' tk own' rr k sb => ?_
    obtain ⟨rfl, rfl, re'⟩ := rr
    exact h2 env S₀ W own' A _ Γ' r Q E ha fe re' e fun fl h'' tk' own'' rr' k' sb' => h fl h'' tk' own'' rr' (k.seq sb k') (sb.trans sb' k.live)
  · rename_i d e1
    cases e
    refine h1 env S₀ W own A s Γ _ _ E ha fe re e1 fun fl h' tk own' rr k sb => ?_
    have rr' := rr
    obtain ⟨v, rfl, _⟩ := rr'
    exact h _ h' tk own' rr k sb
  · cases e

noncomputable def fRet (f : G → Option DV) : G → List Nat → Option Res := fun Γ _ => (f Γ).map .ret
theorem s1_ret {e : Expr} {pos : Pos} {f : G → Option DV} (hf : SE C τ κ n e f) : S1 C τ κ n (.Return (some e) pos) (fRet f) := by
  intro env S₀ W own A s Γ r Q E ha fe re er h
  unfold fRet at er
  cases q : f Γ with
  | none => rw [q] at er; cases er
  | some d =>
    rw [q] at er
    cases er
    refine wpAny_Return_some (hf env _ A s Γ d _ E ha fe.toFnEnv re.rel q fun v h' tk k rv => ?_)
    exact h _ h' tk own ⟨v, rfl, re.ok.pure k, rv.sub fun b hb => List.mem_append_left _ hb⟩ k.nil .refl

noncomputable def fCond (ft : G → Option Bool) (F1 F2 : G → List Nat → Option Res) : G → List Nat → Option Res := fun Γ O => match ft Γ with
  | some true => F1 Γ O
  | some false => F2 Γ O
  | none => none
theorem s1_if {t : Expr} {b o : List Stmt} {pos : Pos} {ft : G → Option Bool} {F1 F2 : G → List Nat → Option Res} (ht : SB C τ κ n t ft) (hb : SS C τ κ n b F1) (ho : SS C τ κ n o F2) : S1 C τ κ n (.If t b o pos) (fCond ft F1 F2) := by
  intro env S₀ W own A s Γ r Q E ha fe re e h
  unfold fCond at e
  cases q : ft Γ with
  | none => rw [q] at e; cases e
  | some c =>
    rw [q] at e
    refine wpAny_If (ht env _ A s Γ c _ E ha fe.toFnEnv re.rel q fun h' tk k => ?_)
    cases c with
    | true => exact hb env S₀ W own A _ Γ r Q E ha fe (re.pure k) e fun fl h'' tk' own' rr k' sb => h fl h'' tk' own' rr (k.nil.trans k') (Sub.trans .refl sb k.live)
    | false => exact ho env S₀ W own A _ Γ r Q E ha fe (re.pure k) e fun fl h'' tk' own' rr k' sb => h fl h'' tk' own' rr (k.nil.trans k') (Sub.trans .refl sb k.live)

-- names stored
noncomputable def orem (own : Own) (i : Nat) : Own := own.filter fun p => !(p.1 == i)
theorem orem_lookup {own : Own} {i j : Nat} (h : j ≠ i) : (orem own i).lookup j = own.lookup j := by
  induction own with
  | nil => rfl
  | cons p r ih =>
    obtain ⟨k, b⟩ := p
    unfold orem at ih ⊢
    rw [List.filter_cons]
    by_cases hk : k = i
    · subst hk
      simp only [beq_self_eq_true, Bool.not_true, Bool.false_eq_true, if_false]
      rw [ih, List.lookup_cons]
      have : (j == k) = false := beq_eq_false_iff_ne.mpr h
      rw [this]
    · have : (!(k == i)) = true := by simp [hk]
      rw [if_pos (by simpa using this), List.lookup_cons, List.lookup_cons, ih]
theorem orem_self {own : Own} {i : Nat} : (orem own i).lookup i = none := by
  refine lookup_none fun q => ?_
  obtain ⟨p, hp, e⟩ := List.mem_map.mp q
  have := (List.mem_filter.mp hp).2
  simp [e] at this
theorem orem_sub {own : Own} {i : Nat} : ∀ p ∈ orem own i, p ∈ own := fun p hp => (List.mem_filter.mp hp).1
theorem orem_keys {own : Own} {i : Nat} : (orem own i).map (·.1) = (own.map (·.1)).filter fun j => !(j == i) := by
  unfold orem
  induction own with
  | nil => rfl
  | cons p r ih =>
    rw [List.filter_cons, List.map_cons, List.filter_cons]
    split
    · rw [List.map_cons, ih]
    · exact ih
theorem mset_sub {W : List Addr} {own own' : Own} (h : ∀ p ∈ own', p ∈ own) : ∀ b ∈ Mset W own', b ∈ Mset W own := fun b hb => by
  rcases List.mem_append.mp hb with hb | hb
  · exact List.mem_append_left _ hb
  · obtain ⟨p, hp, rfl⟩ := List.mem_map.mp hb
    exact List.mem_append_right _ (List.mem_map.mpr ⟨p, h p hp, rfl⟩)
theorem mset_orem_nodup {W : List Addr} {own : Own} {i : Nat} (nd : (Mset W own).Nodup) : (Mset W (orem own i)).Nodup := by
  unfold Mset at nd ⊢
  rw [List.nodup_append] at nd ⊢
  refine ⟨nd.1, ?_, fun a ha b hb => nd.2.2 a ha b ?_⟩
  · exact List.Pairwise.sublist (List.Sublist.map _ (List.filter_sublist)) nd.2.1
  · obtain ⟨p, hp, rfl⟩ := List.mem_map.mp hb
    exact List.mem_map.mpr ⟨p, orem_sub p hp, rfl⟩

/-- the names of a function are apart -/
noncomputable def Apart (τ : List Str) : Prop := ∀ (i j : Nat) (x : Str), τ[i]? = some x → τ[j]? = some x → i = j
theorem apart_of {τ : List Str} (h : τ.Nodup) : Apart τ := fun i j x hi hj => by
  obtain ⟨li, ei⟩ := List.getElem?_eq_some_iff.mp hi
  obtain ⟨lj, ej⟩ := List.getElem?_eq_some_iff.mp hj
  have pw := List.pairwise_iff_getElem.mp h
  rcases Nat.lt_trichotomy i j with q | q | q
  · exact absurd (ei.trans ej.symm) (pw i j li lj q)
  · exact q
  · exact absurd (ej.trans ei.symm) (pw j i lj li q)

/-- behind a change of one part of the frame: a step from h to h' that turns one address of the frame -/
theorem RelS.changed {S₀ W : List Addr} {env : Env} {Γ Γ' : G} {own : Own} {h h' : Heap} {a : Addr} (r : RelS C τ S₀ W env Γ own h) (hs : Heap.SameBut a h h') (ha : a ∈ Mset W own) (hmu : ∃ o, h'.get? a = some o ∧ Mut o)
    (hc : ∀ x c, env.cells.lookup x = some c → ∃ v, h'.IsCell c v)
    (hl : ∃ m, h'.Ns env.locals m ∧ ∀ i d, Γ' i = some d → ∃ x v, τ[i]? = some x ∧ At env m h' x v ∧ Known C (S₀ ++ Mset W own) h' v d (own.lookup i)) : RelS C τ S₀ W env Γ' own h' ∧ Keep C (Mset W own) h h' := by
  obtain ⟨oa, ea, hma⟩ := r.mt a ha
  have tb : C.Tab h' := C.tabKeep h h' r.ok.tab fun b o vs e hd _ => by
    refine (hs.2 b ?_).trans e
    rintro rfl
    rw [ea] at e; cases e
    exact absurd hd (hma.no_fields vs)
  have k : Keep C (Mset W own) h h' := ⟨fun b o e hb _ => (hs.2 b (fun q => hb (q ▸ ha))).trans e, fun b o e => (by
    by_cases q : b = a
    · subst q; obtain ⟨o', e', _⟩ := hmu; exact ⟨o', e'⟩
    · exact ⟨o, (hs.2 b q).trans e⟩), tb⟩
  refine ⟨⟨r.ok.keep k (fun b hb => (r.low b hb).1), fun b hb => ?_, r.dis, r.low, fun b hb => ?_, r.nd, r.wl, r.wc, r.ce, r.cnd, hc, hl⟩, k⟩
  · obtain ⟨o, e⟩ := r.lt₀ b hb; exact k.live b o e
  · by_cases q : b = a
    · subst q; exact hmu
    · obtain ⟨o, e, hm⟩ := r.mt b hb
      exact ⟨o, (hs.2 b q).trans e, hm⟩
theorem RelS.frame_in {S₀ W : List Addr} {env : Env} {Γ : G} {own : Own} {h : Heap} (r : RelS C τ S₀ W env Γ own h) : env.locals ∈ Mset W own := List.mem_append_left _ r.wl
/-- a cell is no owned object, and no iterator -/
theorem RelS.cell_ne {S₀ W : List Addr} {env : Env} {Γ : G} {own : Own} {h : Heap} (r : RelS C τ S₀ W env Γ own h) {x : Str} {c : Addr} (hl : env.cells.lookup x = some c) {a : Addr} (ha : a ∈ own.map (·.2)) : c ≠ a := by
  have nd := r.nd
  unfold Mset at nd
  rw [List.nodup_append] at nd
  rcases r.wc x c hl with q | ⟨q, _⟩
  · exact fun e => nd.2.2 c q a ha e
  · exact fun e => r.dis c q (e ▸ List.mem_append_right _ ha)
end Mine
end
section -- F8
open PySem PySem.Spec PySem.Calls PySem.W PyProof.Rows
set_option Elab.async false
set_option maxRecDepth 100000
namespace Mine
variable {C : Cx} {τ : List Str} {κ : Str → Option NameKind} {n : Nat}

theorem RelS.weaken {S₀ W : List Addr} {env : Env} {Γ : G} {own : Own} {h : Heap} {i : Nat} (r : RelS C τ S₀ W env Γ own h) : RelS C τ S₀ W env (fun j => if j = i then none else Γ j) (orem own i) h := by
  have sub := mset_sub (W := W) (own := own) (own' := orem own i) orem_sub
  refine ⟨r.ok, r.lt₀, fun b hb q => r.dis b hb (sub b q), fun b hb => r.low b (sub b hb), fun b hb => r.mt b (sub b hb), mset_orem_nodup r.nd, r.wl, r.wc, r.ce, r.cnd, r.cells, ?_⟩
  obtain ⟨m, hn, hv⟩ := r.loc
  refine ⟨m, hn, fun j d e => ?_⟩
  by_cases hj : j = i
  · simp [hj] at e
  · simp only [if_neg hj] at e
    obtain ⟨x, v, ex, a, kn⟩ := hv j d e
    refine ⟨x, v, ex, a, ?_⟩
    rw [orem_lookup hj]
    have sub' : ∀ b ∈ S₀ ++ Mset W (orem own i), b ∈ S₀ ++ Mset W own := fun b hb => by
      rcases List.mem_append.mp hb with hb | hb
      · exact List.mem_append_left _ hb
      · exact List.mem_append_right _ (sub b hb)
    cases q : own.lookup j with
    | none => rw [q] at kn; exact Rv.sub kn sub'
    | some c =>
      rw [q] at kn
      refine ⟨kn.1, ?_⟩
      have ro := kn.2
      match d, ro with
      | .p (.list xs), ⟨vs, m', as, e', r', q'⟩ => exact ⟨vs, m', as, e', r', fun b hb x => q' b hb (sub' b x)⟩
      | .dict es, ⟨kvs, hd, hp⟩ => exact ⟨kvs, hd, hp⟩

theorem Known.same {S₀ W : List Addr} {own : Own} {h h' : Heap} {a : Addr} (t : C.Tab h) (t' : C.Tab h') (hs : Heap.SameBut a h h') (ha : a ∈ Mset W own) (hmu : ∃ o, h.get? a = some o ∧ Mut o) {v : Value} {d : DV} {q : Option Addr} (hq : ∀ c, q = some c → c ≠ a)
    (kn : Known C (S₀ ++ Mset W own) h v d q) : Known C (S₀ ++ Mset W own) h' v d q := by
  have k : Gets C [a] h h' := fun b o e hb _ => (hs.2 b (fun q => hb (q ▸ .head _))).trans e
  have hm : ∀ b ∈ [a], ∀ o, h.get? b = some o → NotFix o := notFix_of fun b hb => by rw [List.mem_singleton.mp hb]; exact hmu
  have hsub : ∀ b ∈ [a], b ∈ S₀ ++ Mset W own := fun b hb => by rw [List.mem_singleton.mp hb]; exact List.mem_append_right _ ha
  cases q with
  | none => exact Rv.keep k t hm hsub kn
  | some c => exact ⟨kn.1, kn.2.keep k t hm hsub (fun x => hq c rfl (List.mem_singleton.mp x))⟩

/-- the store of a name: what is known behind it -/
theorem stored_rel (ap : Apart τ) {S₀ W : List Addr} {env : Env} {Γ : G} {own : Own} {s : Shared} {A : Around} {i : Nat} {x : Str} {v : Value} {d : DV} {Q : Unit → Shared → Prop} {E : Value → Shared → Prop}
    (fe : FnEnv κ env) (r : RelS C τ S₀ W env Γ own s.heap) (hi : τ[i]? = some x) (hk : κ x = some .local ∨ (κ x = some .cell ∧ ∃ c, env.cells.lookup x = some c ∧ c ∈ W)) (kn0 : Known C (S₀ ++ Mset W own) s.heap v d (own.lookup i))
    (h : ∀ h' tk, RelS C τ S₀ W env (gset Γ i d) own h' → Keep C (Mset W own) s.heap h' → Q () { s with heap := h', toks := tk }) :
    wpAny (model C.prog C.w) A (storeName env x v) Q E s := by
  obtain ⟨m, hn, hv⟩ := r.loc
  have other : ∀ {h' : Heap} {a : Addr}, C.Tab h' → Heap.SameBut a s.heap h' → a ∈ Mset W own → a ∉ own.map (·.2) → ∀ {v : Value} {d : DV} {j : Nat}, Known C (S₀ ++ Mset W own) s.heap v d (own.lookup j) → Known C (S₀ ++ Mset W own) h' v d (own.lookup j) :=
    fun {h' a} t' hs ha hna {v d j} kn => kn.same r.ok.tab t' hs ha (r.mt a ha) fun c hc q => hna (q ▸ List.mem_map.mpr ⟨_, lookup_mem hc, rfl⟩)
  have tabOf : ∀ {h' : Heap} {a : Addr}, Heap.SameBut a s.heap h' → a ∈ Mset W own → C.Tab h' := fun {h' a} hs ha => C.tabKeep s.heap h' r.ok.tab fun b o vs e hd _ => by
    refine (hs.2 b ?_).trans e
    rintro rfl
    obtain ⟨oa, ea, hma⟩ := r.mt b ha
    rw [ea] at e; cases e
    exact hma.no_fields vs hd
  have nd := r.nd
  unfold Mset at nd
  rw [List.nodup_append] at nd
  rcases hk with hk | ⟨hk, c, hc, hcW⟩
  · refine wpAny_storeName_local ((fe.is x).trans hk) hn (fun h' hn' hs => ?_) (by rw [fe.kind]; rfl)
    have ha : env.locals ∈ Mset W own := r.frame_in
    have hna : env.locals ∉ own.map (·.2) := fun q => nd.2.2 _ r.wl _ q rfl
    have t' := tabOf hs ha
    have ces : ∀ {c : Addr} {w : Option Value} {y : Str}, env.cells.lookup y = some c → s.heap.IsCell c w → h'.IsCell c w := fun {c w y} hl hcl => by
      obtain ⟨o, e, hd⟩ := hcl
      refine ⟨o, (hs.2 c fun q => ?_).trans e, hd⟩
      subst q
      obtain ⟨o2, es, ep, e2, hd2, _⟩ := hn
      rw [e] at e2; cases e2; rw [hd] at hd2; cases hd2
    obtain ⟨rel, kp⟩ := r.changed (Γ' := gset Γ i d) hs ha (by obtain ⟨o, es, ep, e, hd, _⟩ := hn'; exact ⟨o, e, .inl ⟨es, ep, hd⟩⟩)
      (fun y c hl => by obtain ⟨w, hcl⟩ := r.cells y c hl; exact ⟨w, ces hl hcl⟩)
      ⟨_, hn', fun j dj ej => by
        unfold gset at ej
        by_cases hj : j = i
        · subst hj
          rw [if_pos rfl] at ej
          cases ej
          refine ⟨x, v, hi, .inl ⟨(fe.is x).trans hk, if_pos rfl⟩, ?_⟩
          exact other t' hs ha hna kn0
        · rw [if_neg hj] at ej
          obtain ⟨y, u, ey, at_, kn⟩ := hv j dj ej
          refine ⟨y, u, ey, ?_, other t' hs ha hna kn⟩
          rcases at_ with ⟨k1, k2⟩ | ⟨k1, c, k2, k3⟩
          · refine .inl ⟨k1, ?_⟩
            have hy : y ≠ x := fun q => hj (ap j i x (q ▸ ey) hi)
            show (if y = x then some v else m y) = some u
            rw [if_neg hy]; exact k2
          · exact .inr ⟨k1, c, k2, ces k2 k3⟩⟩
    exact h h' _ rel kp
  · obtain ⟨w0, hw0⟩ := r.cells x c hc
    refine wpAny_storeName_cell fe.kind ((fe.is x).trans hk) hc hw0 fun h' hcl' hs => ?_
    have ha : c ∈ Mset W own := List.mem_append_left _ hcW
    have hna : c ∉ own.map (·.2) := fun q => nd.2.2 c hcW c q rfl
    have t' := tabOf hs ha
    have ns' : h'.Ns env.locals m := hn.sameBut hs (fun q => by
      obtain ⟨o, es, ep, e, hd, _⟩ := hn
      obtain ⟨o2, e2, hd2⟩ := hw0
      rw [q] at e; rw [e] at e2; cases e2; rw [hd] at hd2; cases hd2)
    have ces : ∀ {c' : Addr} {w : Option Value} {y : Str}, y ≠ x → env.cells.lookup y = some c' → s.heap.IsCell c' w → h'.IsCell c' w := fun {c' w y} hy hl hcl => by
      obtain ⟨o, e, hd⟩ := hcl
      exact ⟨o, (hs.2 c' (fun q => hy (r.cnd y x c' (by rw [q]; exact hcW) hl (q ▸ hc)))).trans e, hd⟩
    obtain ⟨rel, kp⟩ := r.changed (Γ' := gset Γ i d) hs ha (by obtain ⟨o, e, hd⟩ := hcl'; exact ⟨o, e, .inr (.inl ⟨_, hd⟩)⟩)
      (fun y c' hl => by
        by_cases hy : y = x
        · subst hy; rw [hc] at hl; cases hl; exact ⟨_, hcl'⟩
        · obtain ⟨w, hcl⟩ := r.cells y c' hl; exact ⟨w, ces hy hl hcl⟩)
      ⟨_, ns', fun j dj ej => by
        unfold gset at ej
        by_cases hj : j = i
        · subst hj
          rw [if_pos rfl] at ej
          cases ej
          refine ⟨x, v, hi, .inr ⟨.inl ((fe.is x).trans hk), c, hc, hcl'⟩, ?_⟩
          exact other t' hs ha hna kn0
        · rw [if_neg hj] at ej
          obtain ⟨y, u, ey, at_, kn⟩ := hv j dj ej
          refine ⟨y, u, ey, ?_, other t' hs ha hna kn⟩
          have hy : y ≠ x := fun q => hj (ap j i x (q ▸ ey) hi)
          rcases at_ with ⟨k1, k2⟩ | ⟨k1, c', k2, k3⟩
          · exact .inl ⟨k1, k2⟩
          · exact .inr ⟨k1, c', k2, ces hy k2 k3⟩⟩
    exact h h' s.toks rel kp

/-- x = e -/
noncomputable def fAssign (i : Nat) (f : G → Option DV) : G → List Nat → Option Res := fun Γ O => match evA f Γ O with
  | some (d, O') => some (.next (gset Γ i d) (O'.filter fun j => !(j == i)))
  | none => none
theorem gset_none {Γ : G} {i : Nat} {d : DV} : gset (fun j => if j = i then none else Γ j) i d = gset Γ i d := by
  funext j
  unfold gset
  by_cases h : j = i
  · simp [h]
  · simp [h]
theorem s1_assign (ap : Apart τ) {x : Str} {px pos : Pos} {e : Expr} {f : G → Option DV} (i : Nat) (hi : τ[i]? = some x) (hf : SE C τ κ n e f) (hk : κ x = some .local ∨ κ x = some .cell)
    (hs : ∀ env : Env, env.kindOf x = κ x → swapsWith e (some (.Name x px)) pos.line env = pure false) :
    S1 C τ κ n (.Assign [.Name x px] e pos) (fAssign i f) := by
  intro env S₀ W own A s Γ r Q E ha fe re er h
  unfold fAssign at er
  split at er
  · rename_i d O' ev
    cases er
    refine wpAny_Assign_Name (evalS hf ha fe.toFnEnv re ev fun v h₁ tk₁ own₁ eo hown k₁ re₁ rv => ?_) (hs env (fe.is x))
    have re₂ := re₁.weaken (i := i)
    have cellW : κ x = some .cell → ∃ c, env.cells.lookup x = some c ∧ c ∈ W := fun q => by
      obtain ⟨c, hc⟩ := re.ce x ((fe.is x).trans q)
      rcases re.wc x c hc with hw | ⟨_, hw | hw⟩
      · exact ⟨c, hc, hw⟩
      · exact absurd hw fe.fn
      · rw [fe.is x, q] at hw; cases hw
    have sub := mset_sub (W := W) (own := own₁) (own' := orem own₁ i) orem_sub
    have rv' : Rv C (S₀ ++ Mset W (orem own₁ i)) h₁ v d := rv.sub fun b hb => by
      rcases List.mem_append.mp hb with hb | hb
      · exact List.mem_append_left _ hb
      · exact List.mem_append_right _ (sub b hb)
    refine stored_rel ap fe.toFnEnv re₂ hi (hk.imp id fun q => ⟨q, cellW q⟩) (d := d) (by rw [orem_self]; exact rv') fun h' tk rel kp => ?_
    · rw [gset_none] at rel
      have s1 : Sub own (orem own₁ i) s.heap := fun p hp => (Sub.of hown) p (orem_sub p hp)
      have msub : ∀ b ∈ Mset W (orem own₁ i), b ∈ Mset W own := fun b hb => by
        have hb := sub b hb
        rcases hown with rfl | rfl
        · exact hb
        · unfold Mset at hb ⊢
          simp only [List.map_nil, List.append_nil] at hb
          exact List.mem_append_left _ hb
      exact h .next h' tk (orem own₁ i) ⟨rfl, by rw [orem_keys, eo], rel⟩ (k₁.nil.trans (kp.mono msub)) s1
  · cases er
end Mine
end
section -- F9
open PySem PySem.Spec PySem.Calls PySem.W PyProof.Rows
set_option Elab.async false
set_option maxRecDepth 100000
namespace Mine
variable {C : Cx} {τ : List Str} {κ : Str → Option NameKind} {n : Nat}

theorem get_fresh (h : Heap) : h.get? h.objs.size = none := by
  cases e : h.get? h.objs.size with
  | none => rfl
  | some o => exact absurd (Heap.lt_size e) (Nat.lt_irrefl _)
theorem At.keep' {env : Env} {m : Str → Option Value} {h h' : Heap} {x : Str} {v : Value} (a : At env m h x v) (k : ∀ c w, env.cells.lookup x = some c → h.IsCell c w → h'.IsCell c w) : At env m h' x v :=
  a.imp id fun ⟨hk, c, e, hc⟩ => ⟨hk, c, e, k c _ e hc⟩
/-- a new object is owned under a name that is not in use -/
theorem RelS.owning {S₀ W : List Addr} {env : Env} {Γ : G} {own : Own} {h : Heap} {i : Nat} {o : Obj} (r : RelS C τ S₀ W env Γ own h) (hi : Γ i = none) (hm : Mut o) (hf : o.isFreed = false) :
    RelS C τ S₀ W env Γ ((i, h.objs.size) :: own) (h.push o) := by
  have k := Keep.push r.ok.tab o
  have p := r.pure k
  have lts : ∀ b ∈ Mset W own, b < h.objs.size := fun b hb => let ⟨_, e, _⟩ := r.mt b hb; Heap.lt_size e
  have mem : ∀ b, b ∈ Mset W ((i, h.objs.size) :: own) ↔ b = h.objs.size ∨ b ∈ Mset W own := fun b => by
    unfold Mset
    rw [List.map_cons, List.mem_append, List.mem_append, List.mem_cons]
    constructor
    · rintro (h | h | h)
      · exact .inr (.inl h)
      · exact .inl h
      · exact .inr (.inr h)
    · rintro (h | h | h)
      · exact .inr (.inl h)
      · exact .inl h
      · exact .inr (.inr h)
  refine ⟨p.ok, p.lt₀, fun b hb q => ?_, fun b hb => ?_, fun b hb => ?_, ?_, p.wl, p.wc, p.ce, p.cnd, p.cells, ?_⟩
  · rcases (mem b).mp q with rfl | q
    · obtain ⟨_, e⟩ := r.lt₀ _ hb; exact Nat.lt_irrefl _ (Heap.lt_size e)
    · exact r.dis b hb q
  · rcases (mem b).mp hb with rfl | hb
    · exact above_of r.ok (Nat.le_refl _)
    · exact r.low b hb
  · rcases (mem b).mp hb with rfl | hb
    · exact ⟨o, Heap.get?_push_size _ hf, hm⟩
    · exact p.mt b hb
  · have nd := r.nd
    unfold Mset at nd ⊢
    rw [List.map_cons, List.nodup_append] at *
    refine ⟨nd.1, List.nodup_cons.mpr ⟨fun q => ?_, nd.2.1⟩, fun a ha b hb e => ?_⟩
    · exact Nat.lt_irrefl _ (lts _ (List.mem_append_right _ q))
    · subst e
      rcases List.mem_cons.mp hb with rfl | hb
      · exact Nat.lt_irrefl _ (lts _ (List.mem_append_left _ ha))
      · exact nd.2.2 a ha a hb rfl
  · obtain ⟨m, hn, hv⟩ := p.loc
    refine ⟨m, hn, fun j d e => ?_⟩
    obtain ⟨x, v, ex, a, kn⟩ := hv j d e
    refine ⟨x, v, ex, a, ?_⟩
    have hj : j ≠ i := fun q => by rw [q, hi] at e; cases e
    rw [List.lookup_cons, beq_eq_false_iff_ne.mpr hj]
    have old := (r.loc)
    obtain ⟨m0, hn0, hv0⟩ := old
    obtain ⟨x0, v0, ex0, a0, kn0⟩ := hv0 j d e
    have same : v0 = v := by
      rw [ex] at ex0; cases ex0
      rcases a with ⟨k1, k2⟩ | ⟨k1, c, k2, k3⟩
      · rcases a0 with ⟨q1, q2⟩ | ⟨q1, c', q2, q3⟩
        · have e1 : m x = m0 x := by
            obtain ⟨o1, es1, ep1, g1, d1, s1, f1⟩ := hn
            obtain ⟨o2, es2, ep2, g2, d2, s2, f2⟩ := ns_pure k r.ok.tab hn0
            rw [g1] at g2; cases g2; rw [d1] at d2; cases d2
            rw [← f1 x, ← f2 x]
          rw [← e1, k2] at q2; exact (Option.some.inj q2).symm
        · rw [k1] at q1; rcases q1 with q1 | q1 <;> cases q1
      · rcases a0 with ⟨q1, q2⟩ | ⟨q1, c', q2, q3⟩
        · rw [q1] at k1; rcases k1 with k1 | k1 <;> cases k1
        · rw [k2] at q2; cases q2
          obtain ⟨o1, g1, d1⟩ := k3
          obtain ⟨o2, g2, d2⟩ := cell_pure k r.ok.tab q3
          rw [g1] at g2; cases g2; rw [d1] at d2; cases d2; rfl
    subst same
    -- nothing that stood reads the new object
    have lift : ∀ {as : List Addr}, (∀ b ∈ as, b < h.objs.size) → (∀ b ∈ as, b ∉ S₀ ++ Mset W own) → ∀ b ∈ as, b ∉ S₀ ++ Mset W ((i, h.objs.size) :: own) := fun {as} hlt ho b hb q => by
      rcases List.mem_append.mp q with q | q
      · exact ho b hb (List.mem_append_left _ q)
      · rcases (mem b).mp q with rfl | q
        · exact Nat.lt_irrefl _ (hlt _ hb)
        · exact ho b hb (List.mem_append_right _ q)
    cases q : own.lookup j with
    | none =>
      rw [q] at kn0
      cases d with
      | p d =>
        obtain ⟨as, rr, hs⟩ := kn0
        exact ⟨as, rd_keep k.get r.ok.tab (fun _ hb => nomatch hb) rr (fun _ _ hb => nomatch hb), lift (rd_lt rr) hs⟩
      | dict es =>
        obtain ⟨c, kvs, rfl, hs, hl, hd, hp⟩ := kn0
        obtain ⟨o', es', n', e', hd', _⟩ := dictOf_get hd
        refine ⟨c, kvs, rfl, fun q => ?_, hl, hd.push _, hp⟩
        exact lift (as := [c]) (fun b hb => by rw [List.mem_singleton.mp hb]; exact Heap.lt_size e') (fun b hb => by rw [List.mem_singleton.mp hb]; exact hs) c (.head _) q
      | order =>
        obtain ⟨as, rr, hs⟩ := kn0
        exact ⟨as, C.ordKeep _ _ _ _ rr (fun b hb o e => Heap.get?_push_of_some _ e) (fun b _ _ e => Heap.get?_push_of_some _ e), lift (fun b hb => let ⟨_, e⟩ := (C.ordLt _ _ _ rr b hb).1; Heap.lt_size e) hs⟩
    | some c =>
      rw [q] at kn0
      refine ⟨kn0.1, ?_⟩
      have ro := kn0.2
      match d, ro with
      | .p (.list xs), ⟨vs, m', as, e', r', q'⟩ => exact ⟨vs, m', as, Heap.get?_push_of_some _ e', rdAll_keep k.get r.ok.tab (fun _ hb => nomatch hb) r' (fun _ _ hb => nomatch hb), lift (rdAll_lt r') q'⟩
      | .dict es, ⟨kvs, hd, hp⟩ => exact ⟨kvs, hd.push _, hp⟩

/-- x = [] and x = {} -/
noncomputable def fNew (i : Nat) (d : DV) : G → List Nat → Option Res := fun Γ O => some (.next (gset Γ i d) (i :: O.filter fun j => !(j == i)))
theorem s1_new (ap : Apart τ) {x : Str} {px pos : Pos} {e : Expr} {o : Obj} {d : DV} (i : Nat) (hi : τ[i]? = some x) (hk : κ x = some .local)
    (hm : Mut o) (hf : o.isFreed = false) (hd : ∀ (S : List Addr) (h : Heap) (a : Addr), h.get? a = some o → RvO C S h a d)
    (he : ∀ (env : Env) (A : Around) (s : Shared) (Q E : Value → Shared → Prop), Q (.ref s.heap.objs.size) { s with heap := s.heap.push o } → wpAny (model C.prog C.w) A (eval e env) Q E s)
    (hs : ∀ env, swapsWith e (some (.Name x px)) pos.line env = pure false) :
    S1 C τ κ n (.Assign [.Name x px] e pos) (fNew i d) := by
  intro env S₀ W own A s Γ r Q E ha fe re er h
  cases er
  refine wpAny_Assign_Name (he env A s _ E ?_) (hs env)
  have re₁ := re.weaken (i := i)
  have re₂ := re₁.owning (i := i) (o := o) (by simp) hm hf
  have hlk : ((i, s.heap.objs.size) :: orem own i).lookup i = some s.heap.objs.size := by rw [List.lookup_cons, beq_self_eq_true]
  refine stored_rel ap fe.toFnEnv re₂ hi (.inl hk) (d := d) (by rw [hlk]; exact ⟨rfl, hd _ _ _ (Heap.get?_push_size _ hf)⟩) fun h' tk rel kp => ?_
  rw [gset_none] at rel
  refine h .next h' tk _ ⟨rfl, by rw [List.map_cons, orem_keys], rel⟩ ?_ fun p hp => ?_
  · refine Keep.seq (o2 := (i, s.heap.objs.size) :: orem own i) (Keep.push re.ok.tab o).nil (fun p hp => ?_) kp
    rcases List.mem_cons.mp hp with rfl | hp
    · exact .inr (get_fresh _)
    · exact .inl (orem_sub p hp)
  · rcases List.mem_cons.mp hp with rfl | hp
    · exact .inr (get_fresh _)
    · exact .inl (orem_sub p hp)
theorem s1_newlist (ap : Apart τ) {x : Str} {px pos lp : Pos} (i : Nat) (hi : τ[i]? = some x) (hk : κ x = some .local) : S1 C τ κ n (.Assign [.Name x px] (.List [] lp) pos) (fNew i (.p (.list []))) :=
  s1_new ap (o := lobj #[] 0) i hi hk (.inr (.inr ⟨_, _, rfl⟩)) rfl (fun S h a e => ⟨#[], 0, [], e, .nil, fun _ hb => nomatch hb⟩)
    (fun env A s Q E h => List_ (args_nil (wpAny_newObj_type h))) (fun env => rfl)
theorem s1_newdict (ap : Apart τ) {x : Str} {px pos lp : Pos} (i : Nat) (hi : τ[i]? = some x) (hk : κ x = some .local) : S1 C τ κ n (.Assign [.Name x px] (.Dict [] [] lp) pos) (fNew i (.dict [])) :=
  s1_new ap (o := { cls := .type "dict", data := .dict #[] }) i hi hk (.inl ⟨_, _, rfl⟩) rfl
    (fun S h a e => ⟨[], ⟨_, #[], 0, e, ⟨rfl, rfl, rfl⟩, rfl, (fun _ he => by simp at he), .nil, List.nodup_nil⟩, .nil⟩)
    (fun env A s Q E h => wpAny_Dict_empty h) (fun env => rfl)
theorem own_ne {own : Own} (nd : (own.map (·.2)).Nodup) {i j : Nat} {a c : Addr} (hi : own.lookup i = some a) (hj : own.lookup j = some c) (h : j ≠ i) : c ≠ a := by
  induction own with
  | nil => cases hi
  | cons p r ih =>
    obtain ⟨k, b⟩ := p
    rw [List.map_cons, List.nodup_cons] at nd
    rw [List.lookup_cons] at hi hj
    cases qi : i == k with
    | true =>
      rw [qi] at hi; cases hi
      cases qj : j == k with
      | true => exact absurd ((eq_of_beq qj).trans (eq_of_beq qi).symm) h
      | false => rw [qj] at hj; exact fun e => nd.1 (e ▸ List.mem_map.mpr ⟨_, lookup_mem hj, rfl⟩)
    | false =>
      rw [qi] at hi
      cases qj : j == k with
      | true => rw [qj] at hj; cases hj; exact fun e => nd.1 (e ▸ List.mem_map.mpr ⟨_, lookup_mem hi, rfl⟩)
      | false => rw [qj] at hj; exact ih nd.2 hi hj

/-- an owned object is changed in place -/
theorem RelS.mutate {S₀ W : List Addr} {env : Env} {Γ : G} {own : Own} {h h' : Heap} {i : Nat} {a : Addr} {d d' : DV} (r : RelS C τ S₀ W env Γ own h) (hg : Γ i = some d) (ho : own.lookup i = some a) (hs : Heap.SameBut a h h') (hmu : ∃ o, h'.get? a = some o ∧ Mut o)
    (ro : C.Tab h' → RvO C (S₀ ++ Mset W own) h' a d') : RelS C τ S₀ W env (gset Γ i d') own h' ∧ Keep C (Mset W own) h h' := by
  have ha : a ∈ Mset W own := own_in (lookup_mem ho)
  have t' : C.Tab h' := C.tabKeep h h' r.ok.tab fun b o vs e hd _ => by
    refine (hs.2 b ?_).trans e
    rintro rfl
    obtain ⟨oa, ea, hma⟩ := r.mt b ha
    rw [ea] at e; cases e
    exact hma.no_fields vs hd
  have nd := r.nd
  unfold Mset at nd
  rw [List.nodup_append] at nd
  have ain : a ∈ own.map (·.2) := List.mem_map.mpr ⟨_, lookup_mem ho, rfl⟩
  have ces : ∀ {c : Addr} {w : Option Value} {y : Str}, env.cells.lookup y = some c → h.IsCell c w → h'.IsCell c w := fun {c w y} hl hcl => by
    obtain ⟨o, e, hd⟩ := hcl
    exact ⟨o, (hs.2 c (r.cell_ne hl ain)).trans e, hd⟩
  obtain ⟨m, hn, hv⟩ := r.loc
  refine r.changed hs ha hmu (fun y c hl => by obtain ⟨w, hcl⟩ := r.cells y c hl; exact ⟨w, ces hl hcl⟩) ⟨m, hn.sameBut hs (fun e => nd.2.2 _ r.wl a ain e), fun j dj ej => ?_⟩
  unfold gset at ej
  by_cases hj : j = i
  · subst hj
    rw [if_pos rfl] at ej
    cases ej
    obtain ⟨y, u, ey, at_, kn⟩ := hv j d hg
    rw [ho] at kn ⊢
    refine ⟨y, u, ey, at_.keep' ?_, kn.1, ro t'⟩
    exact fun c w hl hcl => ces hl hcl
  · rw [if_neg hj] at ej
    obtain ⟨y, u, ey, at_, kn⟩ := hv j dj ej
    refine ⟨y, u, ey, at_.keep' fun c w hl hcl => ces hl hcl, kn.same r.ok.tab t' hs ha (r.mt a ha) fun c hc => own_ne nd.2.1 ho hc hj⟩
end Mine
end
section -- F10
open PySem PySem.Spec PySem.Calls PySem.W PyProof.Rows
set_option Elab.async false
set_option maxRecDepth 100000
namespace Mine
variable {C : Cx} {τ : List Str} {κ : Str → Option NameKind} {n : Nat}

theorem rdAll_snoc {h : Heap} {us : Array Value} {xs : List PyData} {as bs : List Addr} {v : Value} {d : PyData} (r : RdAll h us.toList xs as) (q : Rd h v d bs) : RdAll h (us.push v).toList (xs ++ [d]) (as ++ (bs ++ [])) := by
  rw [Array.toList_push]
  exact rdAll_append r (.cons q .nil)

/-- x.append(e) -/
noncomputable def fAppend (i : Nat) (f : G → Option DV) : G → List Nat → Option Res := fun Γ O =>
  match Γ i, evA f Γ O with
  | some (.p (.list xs)), some (.p d, O') => if O'.contains i && decide (xs.length ≤ 1000) then some (.next (gset Γ i (.p (.list (xs ++ [d])))) O') else none
  | _, _ => none

theorem known_own {S₀ W : List Addr} {env : Env} {Γ : G} {own : Own} {h : Heap} {i : Nat} {d : DV} (r : RelS C τ S₀ W env Γ own h) (hi : Γ i = some d) (ho : (own.map (·.1)).contains i = true) : ∃ a, own.lookup i = some a ∧ RvO C (S₀ ++ Mset W own) h a d ∧ ∃ m x, h.Ns env.locals m ∧ τ[i]? = some x ∧ At env m h x (.ref a) := by
  obtain ⟨m, hn, hv⟩ := r.loc
  obtain ⟨x, v, ex, a, kn⟩ := hv i d hi
  cases q : own.lookup i with
  | none =>
    exfalso
    have hm := List.contains_iff_mem.mp ho
    obtain ⟨p, hp, e⟩ := List.mem_map.mp hm
    have : ∀ {o : Own}, p ∈ o → o.lookup i ≠ none := fun {o} hp => by
      induction o with
      | nil => cases hp
      | cons b r ih =>
        obtain ⟨k, c⟩ := b
        rw [List.lookup_cons]
        cases qk : i == k with
        | true => exact fun x => nomatch x
        | false =>
          rcases List.mem_cons.mp hp with rfl | hp
          · exact absurd e.symm (beq_eq_false_iff_ne.mp qk)
          · exact ih hp
    exact this hp q
  | some c =>
    rw [q] at kn
    exact ⟨c, rfl, kn.2, m, x, hn, ex, kn.1 ▸ a⟩

theorem name_at {env : Env} {A : Around} {s : Shared} {Q E : Value → Shared → Prop} {m : Str → Option Value} {x : Str} {v : Value} {pos : Pos} (fe : FnEnv κ env) (hn : s.heap.Ns env.locals m) (a : At env m s.heap x v) (hd : (x == ("__debug__" : Str)) = false) (hc : (x == ("__classdict__" : Str)) = false)
    (h : Q v s) : wpAny (model C.prog C.w) A (eval (.Name x pos) env) Q E s := by
  rcases a with ⟨hk, hm⟩ | ⟨hk | hk, c, hl, hcell⟩
  · exact wpAny_Name (wpAny_loadName_local fe.kind hk hn hm h) hd
  · exact wpAny_Name (wpAny_loadName_cell fe.kind hk hl hcell h) hd
  · exact wpAny_Name (wpAny_loadName_free fe.kind hk hl hcell h hc) hd

theorem own_same {own own₁ : Own} {O' : List Nat} {i : Nat} (eo : own₁.map (·.1) = O') (ho : own₁ = own ∨ own₁ = []) (hc : O'.contains i = true) : own₁ = own := by
  rcases ho with h | h
  · exact h
  · subst h; rw [← eo] at hc; simp at hc

theorem s1_append {x : Str} {px apos cpos pos : Pos} {e : Expr} {f : G → Option DV} (i : Nat) (hi : τ[i]? = some x) (hf : SE C τ κ n e f)
    (hd : (x == ("__debug__" : Str)) = false) (hc : (x == ("__classdict__" : Str)) = false)
    (hbase : ∀ env, attributeBase (.Name x px) "append" env (eval (.Name x px) env) = eval (.Name x px) env) (hline : (apos.endLine == cpos.line) = true)
    (htrees : ∀ env, backTo cpos (starEach [e] env) = [(false, eval e env)])
    (hint : ∀ env : Env, env.scope.kind = .function → interactive env = false)
    (hs : ∀ env, swapsWith (.Call (.Attribute (.Name x px) "append" apos) [e] [] cpos) none pos.line env = pure false) :
    S1 C τ κ n (.Expr (.Call (.Attribute (.Name x px) "append" apos) [e] [] cpos) pos) (fAppend i f) := by
  intro env S₀ W own A s Γ r Q E ha fe re er h
  unfold fAppend at er
  split at er
  · rename_i xs d O' eg ev
    split at er
    · rename_i hz
      cases er
      rw [Bool.and_eq_true, decide_eq_true_eq] at hz
      have hown : (own.map (·.1)).contains i = true := by
        have ev' := ev
        unfold evA at ev'
        split at ev'
        · cases ev'; exact hz.1
        · split at ev'
          · rename_i d' _
            cases ev'
            cases q : atomic (DV.p d) with
            | true => have := hz.1; simp only [q, if_true] at this; exact this
            | false => have := hz.1; simp [q] at this
          · cases ev'
      obtain ⟨a, hl, ro, m, x', hn, ex, at_⟩ := known_own re eg hown
      rw [hi] at ex; cases ex
      obtain ⟨vs, k0, as, e0, r0, hs0⟩ := ro
      refine wpAny_Expr ?_ (hint env fe.kind) (hs env)
      refine wpAny_Call_append (hbase env) (by rw [htrees env]; rfl) hline (htrees env) ?_
      refine name_at fe.toFnEnv hn at_ hd hc ⟨a, vs, rfl, ⟨_, k0, e0, rfl, rfl, rfl⟩, ?_⟩
      refine evalS hf ha fe.toFnEnv re ev fun v h₁ tk₁ own₁ eo ho k₁ re₁ rv => ?_
      have := own_same eo ho hz.1
      subst this
      have hl' := hl
      obtain ⟨a', hl'', ro', _⟩ := known_own re₁ eg (by rw [eo]; exact hz.1)
      rw [hl] at hl''; cases hl''
      obtain ⟨vs', k', as', e', r', hs'⟩ := ro'
      have same := k₁.get a _ e0 (fun q => nomatch q) (tab_ne re.ok.tab e0 fun _ q => nomatch q)
      rw [same] at e'; cases e'
      refine wpAny_list_append_plain ⟨k0, same⟩ (fun h₂ hp₂ hsb => ?_) (by rw [← Array.length_toList, rdAll_length r']; exact size_small hz.2)
      obtain ⟨k2, e2⟩ := hp₂
      obtain ⟨as1, rd1, hs1⟩ := rv
      obtain ⟨rel, kp⟩ := re₁.mutate (d' := .p (.list (xs ++ [d]))) eg hl hsb ⟨_, e2, .inr (.inr ⟨_, _, rfl⟩)⟩ fun t' => by
        have kk : Gets C [a] h₁ h₂ := fun b o e hb _ => (hsb.2 b (fun q => hb (q ▸ .head _))).trans e
        have ain : a ∈ S₀ ++ Mset W own₁ := List.mem_append_right _ (own_in (lookup_mem hl))
        have hm : ∀ b ∈ [a], ∀ o, h₁.get? b = some o → NotFix o := notFix_of fun b hb => by rw [List.mem_singleton.mp hb]; exact ⟨_, same, .inr (.inr ⟨_, _, rfl⟩)⟩
        have off : ∀ {l : List Addr}, (∀ b ∈ l, b ∉ S₀ ++ Mset W own₁) → ∀ b ∈ l, b ∉ [a] := fun {l} hl b hb q => hl b hb (by rw [List.mem_singleton.mp q]; exact ain)
        refine ⟨_, k2, _, e2, rdAll_snoc (rdAll_keep kk re₁.ok.tab hm r' (off hs')) (rd_keep kk re₁.ok.tab hm rd1 (off hs1)), fun b hb => ?_⟩
        rcases List.mem_append.mp hb with hb | hb
        · exact hs' b hb
        · rw [List.append_nil] at hb; exact hs1 b hb
      exact h .next h₂ _ own₁ ⟨rfl, eo, rel⟩ (k₁.nil.trans kp) .refl
    · cases er
  · cases er
end Mine
end
section -- F11
open PySem PySem.Spec PySem.Calls PySem.W PyProof.Rows
set_option Elab.async false
set_option maxRecDepth 100000
namespace Mine
variable {C : Cx} {τ : List Str} {κ : Str → Option NameKind} {n : Nat}

noncomputable def dput (es : List (Int × Int)) (k v : Int) : List (Int × Int) :=
  List.rec (motive := fun _ => List (Int × Int)) [(k, v)] (fun p r ih => Bool.rec (motive := fun _ => List (Int × Int)) (p :: ih) ((p.1, v) :: r) (eqI p.1 k)) es
theorem dput_cons (a w : Int) (r : List (Int × Int)) (k v : Int) : dput ((a, w) :: r) k v = if a = k then (a, v) :: r else (a, w) :: dput r k v := rec_ite a k _ _
theorem ipairs_length : ∀ {kvs : List (Int × Value)} {es : List (Int × Int)}, IPairs kvs es → kvs.length = es.length
  | _, _, .nil => rfl
  | _, _, .cons r => by rw [List.length_cons, List.length_cons, ipairs_length r]
theorem ipairs_stored : ∀ {kvs : List (Int × Value)} {es : List (Int × Int)}, IPairs kvs es → (kvs.map (·.1)).Nodup → ∀ (k v : Int) (t : Tok), IPairs (stored kvs k (.int v t)) (dput es k v)
  | _, _, .nil, _, k, v, t => .cons .nil
  | _, _, .cons (k := a) (v := v0) (t := t0) (kvs := kvs) (es := es) r, nd, k, v, t => by
    rw [List.map_cons, List.nodup_cons] at nd
    have ih := ipairs_stored r nd.2 k v t
    unfold stored at ih ⊢
    rw [dput_cons]
    by_cases h : a = k
    · subst h
      simp only [List.any_cons, decide_true, Bool.true_or, if_true, List.map_cons]
      have e : kvs.map (fun kv => if kv.1 = a then (kv.1, Value.int v t) else kv) = kvs := by
        conv => rhs; rw [← List.map_id kvs]
        refine List.map_congr_left fun kv hkv => ?_
        have : kv.1 ≠ a := fun e => nd.1 (e ▸ List.mem_map.mpr ⟨kv, hkv, rfl⟩)
        simp [this]
      rw [e]
      exact .cons r
    · simp only [List.any_cons, decide_eq_false h, Bool.false_or, List.map_cons, if_neg h]
      split at ih
      · rename_i hq; rw [if_pos hq]; exact .cons ih
      · rename_i hq; rw [if_neg hq]; exact .cons ih

theorem dictOf_nodup {h : Heap} {a : Addr} {kvs : List (Int × Value)} (x : h.DictOf (intKind C.prog C.w) a kvs) : (kvs.map (·.1)).Nodup := by
  obtain ⟨o, es, ep, _, _, _, _, _, nd⟩ := x
  exact nd

/-- a dict that is owned takes a pair -/
theorem put_own {S₀ W : List Addr} {env : Env} {Γ : G} {own : Own} {A : Around} {s : Shared} {i : Nat} {a : Addr} {es : List (Int × Int)} {k v : Int} {tk tv : Tok} {Q : Unit → Shared → Prop} {E : Value → Shared → Prop}
    (re : RelS C τ S₀ W env Γ own s.heap) (hg : Γ i = some (.dict es)) (hl : own.lookup i = some a) (hz : es.length ≤ 1000)
    (h : ∀ h' tk, RelS C τ S₀ W env (gset Γ i (.dict (dput es k v))) own h' → Keep C (Mset W own) s.heap h' → Q () { s with heap := h', toks := tk }) :
    wpAny (model C.prog C.w) A (setItem (.ref a) (.int k tk) (.int v tv)) Q E s := by
  obtain ⟨m, hn, hv⟩ := re.loc
  obtain ⟨x, u, ex, at_, kn⟩ := hv i _ hg
  rw [hl] at kn
  obtain ⟨kvs, hd, hp⟩ := kn.2
  refine wpAny_setItem_pairs intKind_int hd (fun h' hd' hs => ?_) (by rw [ipairs_length hp]; exact size_small hz)
  obtain ⟨o, es', n', e', dd, _⟩ := dictOf_get hd'
  obtain ⟨rel, kp⟩ := re.mutate (d' := .dict (dput es k v)) hg hl hs ⟨o, e', .inl ⟨_, _, dd⟩⟩ fun _ => ⟨_, hd', ipairs_stored hp (dictOf_nodup hd) k v tv⟩
  exact h h' _ rel kp

noncomputable def fSet (i : Nat) (fk fv : G → Option DV) : G → List Nat → Option Res := fun Γ O =>
  match Γ i, fk Γ, fv Γ with
  | some (.dict es), some (.p (.int k)), some (.p (.int v)) => if O.contains i && decide (es.length ≤ 1000) then some (.next (gset Γ i (.dict (dput es k v))) O) else none
  | _, _, _ => none
theorem s1_set {x : Str} {px spos pos : Pos} {ek ev : Expr} {fk fv : G → Option DV} (i : Nat) (hi : τ[i]? = some x) (hk : SE C τ κ n ek fk) (hv : SE C τ κ n ev fv)
    (hd : (x == ("__debug__" : Str)) = false) (hc : (x == ("__classdict__" : Str)) = false)
    (hs : ∀ env, swapsWith ev (some (.Subscript (.Name x px) ek spos)) pos.line env = pure false) :
    S1 C τ κ n (.Assign [.Subscript (.Name x px) ek spos] ev pos) (fSet i fk fv) := by
  intro env S₀ W own A s Γ r Q E ha fe re er h
  unfold fSet at er
  split at er
  · rename_i es k v eg efk efv
    split at er
    · rename_i hz
      cases er
      rw [Bool.and_eq_true, decide_eq_true_eq] at hz
      obtain ⟨a, hl, _⟩ := known_own re eg hz.1
      refine wpAny_Assign_Subscript (hv env _ A s Γ _ _ E ha fe.toFnEnv re.rel efv fun u h₁ tk₁ k₁ ru => ?_) (hs env)
      have re₁ := re.pure k₁
      obtain ⟨t1, rfl⟩ := of_int ru
      obtain ⟨a', hl', _, m, x', hn, ex, at_⟩ := known_own re₁ eg hz.1
      rw [hl] at hl'; cases hl'
      rw [hi] at ex; cases ex
      refine name_at fe.toFnEnv hn at_ hd hc ?_
      refine hk env _ A _ Γ _ _ E ha fe.toFnEnv re₁.rel efk fun w h₂ tk₂ k₂ rw' => ?_
      obtain ⟨t2, rfl⟩ := of_int rw'
      exact put_own (re₁.pure k₂) eg hl hz.2 fun h₃ tk₃ rel kp => h .next h₃ tk₃ own ⟨rfl, rfl, rel⟩ ((k₁.trans k₂).nil.trans kp) .refl
    · cases er
  · cases er

noncomputable def fAugSet (i : Nat) (fk fv : G → Option DV) : G → List Nat → Option Res := fun Γ O =>
  match Γ i, fk Γ, fv Γ with
  | some (.dict es), some (.p (.int k)), some (.p (.int v)) => match dlook es k with
    | some w => if O.contains i && decide (es.length ≤ 1000) then some (.next (gset Γ i (.dict (dput es k (w + v)))) O) else none
    | none => none
  | _, _, _ => none
theorem s1_augset {x : Str} {px spos pos : Pos} {ek ev : Expr} {fk fv : G → Option DV} (i : Nat) (hi : τ[i]? = some x) (hk : SE C τ κ n ek fk) (hv : SE C τ κ n ev fv)
    (hd : (x == ("__debug__" : Str)) = false) (hc : (x == ("__classdict__" : Str)) = false)
    (hs : ∀ ov iv new, augStore ek ov iv new = (do holding [new, ov, iv] (setItem ov iv new); release [new, ov, iv] []; pure .next)) :
    S1 C τ κ n (.AugAssign (.Subscript (.Name x px) ek spos) .Add ev pos) (fAugSet i fk fv) := by
  intro env S₀ W own A s Γ r Q E ha fe re er h
  unfold fAugSet at er
  split at er
  · rename_i es k v eg efk efv
    split at er
    · rename_i w ew
      split at er
      · rename_i hz
        cases er
        rw [Bool.and_eq_true, decide_eq_true_eq] at hz
        obtain ⟨a, hl, _, m, x', hn, ex, at_⟩ := known_own re eg hz.1
        rw [hi] at ex; cases ex
        refine wpAny_AugAssign_Subscript_any ?_ hs
        refine name_at fe.toFnEnv hn at_ hd hc ?_
        refine hk env _ A s Γ _ _ E ha fe.toFnEnv re.rel efk fun u h₁ tk₁ k₁ ru => ?_
        obtain ⟨t1, rfl⟩ := of_int ru
        have re₁ := re.pure k₁
        obtain ⟨a', hl', ro, _⟩ := known_own re₁ eg hz.1
        rw [hl] at hl'; cases hl'
        obtain ⟨kvs, hdd, hp⟩ := ro
        obtain ⟨t2, evv⟩ := (ipairs_look hp k).1 w ew
        refine wpAny_getItem_of intKind_int hdd.mapOf evv ?_
        refine hv env _ A _ Γ _ _ E ha fe.toFnEnv re₁.rel efv fun u2 h₂ tk₂ k₂ ru2 => ?_
        obtain ⟨t3, rfl⟩ := of_int ru2
        refine iadd_int ?_
        exact put_own (s := { s with heap := h₂, toks := tk₂ + 1 }) (re₁.pure k₂) eg hl hz.2 fun h₃ tk₃ rel kp => h .next h₃ tk₃ own ⟨rfl, rfl, rel⟩ ((k₁.trans k₂).nil.trans kp) .refl
      · cases er
    · cases er
  · cases er

theorem known_rv {S : List Addr} {h : Heap} {v : Value} {d : DV} (r : Rv C S h v d) : Known C S h v d none := r
/-- x += e -/
noncomputable def fAug (i : Nat) (f : G → Option DV) : G → List Nat → Option Res := fun Γ O =>
  match Γ i, f Γ with
  | some (.p (.int a)), some (.p (.int b)) => some (.next (gset Γ i (dint (a + b))) O)
  | _, _ => none
theorem s1_aug (ap : Apart τ) {x : Str} {px pos : Pos} {e : Expr} {f : G → Option DV} (i : Nat) (hi : τ[i]? = some x) (hf : SE C τ κ n e f) (hk : κ x = some .local) :
    S1 C τ κ n (.AugAssign (.Name x px) .Add e pos) (fAug i f) := by
  intro env S₀ W own A s Γ r Q E ha fe re er h
  unfold fAug at er
  split at er
  · rename_i a b eg ef
    cases er
    obtain ⟨m, hn, hv⟩ := re.loc
    obtain ⟨x', v, ex, at_, kn⟩ := hv i _ eg
    rw [hi] at ex; cases ex
    have hlk : own.lookup i = none := by
      cases q : own.lookup i with
      | none => rfl
      | some c => rw [q] at kn; exact kn.2.elim
    rw [hlk] at kn
    obtain ⟨t1, rfl⟩ := of_int (C := C) kn
    rcases at_ with ⟨k1, k2⟩ | ⟨k1, c, k2, k3⟩
    · refine wpAny_AugAssign_Name (wpAny_loadName_local fe.kind k1 hn k2 ?_)
      refine hf env _ A s Γ _ _ E ha fe.toFnEnv re.rel ef fun u h₁ tk₁ kk ru => ?_
      obtain ⟨t2, rfl⟩ := of_int ru
      refine iadd_int ?_
      have re₁ := re.pure kk
      refine stored_rel (s := { s with heap := h₁, toks := tk₁ + 1 }) ap fe.toFnEnv re₁ hi (.inl hk) (d := dint (a + b)) (by rw [hlk]; exact known_rv rv_int) fun h' tk rel kp => ?_
      exact h .next h' tk own ⟨rfl, rfl, rel⟩ (kk.nil.trans kp) .refl
    · rw [fe.is x, hk] at k1
      rcases k1 with k1 | k1 <;> cases k1
  · cases er
end Mine
end
section -- F12
open PySem PySem.Spec PySem.Calls PySem.W PyProof.Rows
set_option Elab.async false
set_option maxRecDepth 100000
namespace Mine
variable {C : Cx} {τ : List Str} {κ : Str → Option NameKind} {n : Nat}

mutual
theorem rd_live {h : Heap} {v : Value} {d : PyData} {as : List Addr} : Rd h v d as → ∀ b ∈ as, ∃ o, h.get? b = some o
  | .none, _, hb => nomatch hb
  | .bool _, _, hb => nomatch hb
  | .int _ _, _, hb => nomatch hb
  | .str _ _, _, hb => nomatch hb
  | .list e r, b, hb => by
    rcases List.mem_cons.mp hb with rfl | hb
    · exact ⟨_, e⟩
    · exact rdAll_live r b hb
  | .tuple _ r, b, hb => rdAll_live r b hb
theorem rdAll_live {h : Heap} {vs : List Value} {ds : List PyData} {as : List Addr} : RdAll h vs ds as → ∀ b ∈ as, ∃ o, h.get? b = some o
  | .nil, _, hb => nomatch hb
  | .cons r rs, b, hb => by
    rcases List.mem_append.mp hb with hb | hb
    · exact rd_live r b hb
    · exact rdAll_live rs b hb
end

theorem Rv.widen {S : List Addr} {h : Heap} {v : Value} {d : DV} {I : Addr} (r : Rv C S h v d) (hI : h.get? I = none) : Rv C (I :: S) h v d := by
  have lift : ∀ {as : List Addr}, (∀ b ∈ as, ∃ o, h.get? b = some o) → (∀ b ∈ as, b ∉ S) → ∀ b ∈ as, b ∉ I :: S := fun {as} hl ho b hb q => by
    rcases List.mem_cons.mp q with rfl | q
    · obtain ⟨o, e⟩ := hl _ hb; rw [hI] at e; cases e
    · exact ho b hb q
  cases d with
  | p d => obtain ⟨as, r, q⟩ := r; exact ⟨as, r, lift (rd_live r) q⟩
  | dict es =>
    obtain ⟨a, kvs, e, q, hl, hd, hp⟩ := r
    obtain ⟨o', es', n', e', _, _⟩ := dictOf_get hd
    refine ⟨a, kvs, e, fun x => ?_, hl, hd, hp⟩
    exact lift (as := [a]) (fun b hb => by rw [List.mem_singleton.mp hb]; exact ⟨_, e'⟩) (fun b hb => by rw [List.mem_singleton.mp hb]; exact q) a (.head _) x
  | order => obtain ⟨as, r, q⟩ := r; exact ⟨as, r, lift (fun b hb => (C.ordLt h v as r b hb).1) q⟩
theorem Known.widen {S : List Addr} {h : Heap} {v : Value} {d : DV} {I : Addr} {q : Option Addr} (r : Known C S h v d q) (hI : h.get? I = none) : Known C (I :: S) h v d q := by
  cases q with
  | none => exact Rv.widen (C := C) r hI
  | some a =>
    refine ⟨r.1, ?_⟩
    have ro := r.2
    match d, ro with
    | .p (.list xs), ⟨vs, m', as, e', r', q'⟩ =>
      refine ⟨vs, m', as, e', r', fun b hb x => ?_⟩
      rcases List.mem_cons.mp x with rfl | x
      · obtain ⟨o, e⟩ := rdAll_live r' _ hb; rw [hI] at e; cases e
      · exact q' b hb x
    | .dict es, ⟨kvs, hd, hp⟩ => exact ⟨kvs, hd, hp⟩

/-- a new object that no name reads is to be left alone from now on -/
theorem RelS.guard {S₀ W : List Addr} {env : Env} {Γ : G} {own : Own} {h₁ h₂ : Heap} {I : Addr} (r : RelS C τ S₀ W env Γ own h₁) (k : Keep C [] h₁ h₂) (hI : h₁.get? I = none) (hl : ∃ o, h₂.get? I = some o) : RelS C τ (I :: S₀) W env Γ own h₂ := by
  have p := r.pure k
  refine ⟨p.ok, fun b hb => ?_, fun b hb q => ?_, p.low, p.mt, p.nd, p.wl, fun x c e => (p.wc x c e).imp id fun q => ⟨.tail _ q.1, q.2⟩, p.ce, p.cnd, p.cells, ?_⟩
  · rcases List.mem_cons.mp hb with rfl | hb
    · exact hl
    · exact p.lt₀ b hb
  · rcases List.mem_cons.mp hb with rfl | hb
    · obtain ⟨o, e, _⟩ := r.mt _ q; rw [hI] at e; cases e
    · exact r.dis b hb q
  · obtain ⟨m, hn, hv⟩ := r.loc
    refine ⟨m, ns_pure k r.ok.tab hn, fun i d e => ?_⟩
    obtain ⟨x, v, ex, a, kn⟩ := hv i d e
    refine ⟨x, v, ex, a.keep fun c hc => cell_pure k r.ok.tab hc, ?_⟩
    have kn' : Known C (I :: (S₀ ++ Mset W own)) h₁ v d (own.lookup i) := kn.widen hI
    cases q : own.lookup i with
    | none => rw [q] at kn'; exact Rv.pure (C := C) k r.ok.tab kn'
    | some c => rw [q] at kn'; exact ⟨kn'.1, kn'.2.keep k.get r.ok.tab (fun _ hb => nomatch hb) (fun _ hb => nomatch hb) (fun hb => nomatch hb)⟩

/-- the iterator is turned: nothing else -/
theorem RelS.iter {S₀ W : List Addr} {env : Env} {Γ : G} {own : Own} {h h' : Heap} {I : Addr} (r : RelS C τ (I :: S₀) W env Γ own h) (g : ∀ b o, h.get? b = some o → b ≠ I → h'.get? b = some o)
    (hc : ∃ o T, h.get? I = some o ∧ o.cls = .type T ∧ T ≠ "tuple" ∧ T ≠ "code" ∧ ∃ vs, o.data = .fields vs) (hbI : C.hb.get? I = none) (hn0 : I ∉ S₀) : RelS C τ S₀ W env Γ own h' ∧ ((∃ o, h'.get? I = some o) → RelS C τ (I :: S₀) W env Γ own h') := by
  obtain ⟨oI, T, eI, cI, nt, nc, vsI, dI⟩ := hc
  have ncl : ∀ w, oI.data ≠ .cell w := fun w q => by rw [dI] at q; cases q
  have t' : C.Tab h' := C.tabKeep h h' r.ok.tab fun b o vs e hd hcl => by
    refine g b o e ?_
    rintro rfl
    rw [eI] at e; cases e
    rcases hcl with q | q
    · rw [cI] at q; cases q
    · rw [cI] at q; exact nc (Value.type.inj q)
  have gets : Gets C [I] h h' := fun b o e hb _ => g b o e fun q => hb (q ▸ .head _)
  have nf : ∀ b ∈ [I], ∀ o, h.get? b = some o → NotFix o := fun b hb o e vs m q => by
    rw [List.mem_singleton.mp hb, eI] at e; cases e
    rw [q] at cI; exact nt (Value.type.inj cI).symm
  have hM : ∀ b ∈ Mset W own, b ≠ I := fun b hb q => r.dis I (.head _) (q ▸ hb)
  have cI' : ∀ {y : Str} {c : Addr}, env.cells.lookup y = some c → c ≠ I := fun {y c} hl q => by
    obtain ⟨w, o, e, hd⟩ := r.cells y c hl
    rw [q, eI] at e; cases e
    exact ncl w hd
  have ok' : HOk C h' := ⟨fun b o e ht => g b o (r.ok.base b o e ht) (fun q => by rw [q, hbI] at e; cases e), t'⟩
  have mt' : ∀ b ∈ Mset W own, ∃ o, h'.get? b = some o ∧ Mut o := fun b hb => by
    obtain ⟨o, e, m⟩ := r.mt b hb; exact ⟨o, g b o e (hM b hb), m⟩
  have ce : ∀ {c : Addr} {w : Option Value} {y : Str}, env.cells.lookup y = some c → h.IsCell c w → h'.IsCell c w := fun {c w y} hl ⟨o, e, hd⟩ => ⟨o, g c o e (cI' hl), hd⟩
  have cells' : ∀ x c, env.cells.lookup x = some c → ∃ v, h'.IsCell c v := fun x c e => by
    obtain ⟨v, hv⟩ := r.cells x c e; exact ⟨v, ce e hv⟩
  have lt' : ∀ b ∈ S₀, ∃ o, h'.get? b = some o := fun b hb => by
    obtain ⟨o, e⟩ := r.lt₀ b (.tail _ hb); exact ⟨o, g b o e fun q => hn0 (q ▸ hb)⟩
  obtain ⟨m, hn, hv⟩ := r.loc
  have ns' : h'.Ns env.locals m := hn.at' fun o e => g _ o e (hM _ r.frame_in)
  have hsub : ∀ b ∈ [I], b ∈ (I :: S₀) ++ Mset W own := fun b hb => by rw [List.mem_singleton.mp hb]; exact .head _
  have loc' : ∀ i d, Γ i = some d → ∃ x v, τ[i]? = some x ∧ At env m h' x v ∧ Known C ((I :: S₀) ++ Mset W own) h' v d (own.lookup i) := fun i d e => by
    obtain ⟨x, v, ex, a, kn⟩ := hv i d e
    refine ⟨x, v, ex, a.keep' fun c w hl hcl => ce hl hcl, ?_⟩
    cases q : own.lookup i with
    | none => rw [q] at kn; exact Rv.keep (C := C) gets r.ok.tab nf hsub kn
    | some c => rw [q] at kn; exact ⟨kn.1, kn.2.keep gets r.ok.tab nf hsub fun x => hM c (own_in (lookup_mem q)) (List.mem_singleton.mp x)⟩
  refine ⟨⟨ok', lt', fun b hb => r.dis b (.tail _ hb), r.low, mt', r.nd, r.wl, fun x c e => (r.wc x c e).imp id fun q => ⟨(List.mem_cons.mp q.1).resolve_left (cI' e), q.2⟩, r.ce, r.cnd, cells', m, ns', fun i d e => ?_⟩, fun hl => ⟨ok', fun b hb => ?_, r.dis, r.low, mt', r.nd, r.wl, r.wc, r.ce, r.cnd, cells', m, ns', loc'⟩⟩
  · obtain ⟨x, v, ex, a, kn⟩ := loc' i d e
    refine ⟨x, v, ex, a, ?_⟩
    have sub' : ∀ b ∈ S₀ ++ Mset W own, b ∈ (I :: S₀) ++ Mset W own := fun b hb => .tail _ hb
    cases q : own.lookup i with
    | none => rw [q] at kn; exact Rv.sub (C := C) kn sub'
    | some c =>
      rw [q] at kn
      refine ⟨kn.1, ?_⟩
      have ro := kn.2
      match d, ro with
      | .p (.list xs), ⟨vs, m', as, e', r', q'⟩ => exact ⟨vs, m', as, e', r', fun b hb x => q' b hb (sub' b x)⟩
      | .dict es, ⟨kvs, hd, hp⟩ => exact ⟨kvs, hd, hp⟩
  · rcases List.mem_cons.mp hb with rfl | hb
    · exact hl
    · exact lt' b hb

/-- an iterator, turn by turn -/
structure Wk (C : Cx) (A : Around) (target : Expr) (I : Addr) (fp : List Addr) (ds : List PyData) (St : Nat → Heap → Prop) (h₁ : Heap) (S₁ M₁ : List Addr) : Prop where
  frame : ∀ i h h', St i h → (∀ b, b = I ∨ b ∈ fp → ∀ o, h.get? b = some o → h'.get? b = some o) → St i h'
  cls : ∀ i h, St i h → ∃ o T, h.get? I = some o ∧ o.cls = .type T ∧ T ≠ "tuple" ∧ T ≠ "code" ∧ ∃ vs, o.data = .fields vs
  item : ∀ (i : Nat) (s : Shared) (d : PyData) (K : Value → Shared → Prop) (E : Value → Shared → Prop), ds[i]? = some d → St i s.heap → Gets C (I :: M₁) h₁ s.heap →
    (∀ v h' tk, St (i + 1) h' → (∀ b o, s.heap.get? b = some o → b ≠ I → h'.get? b = some o) → (∃ as, Rd h' v d as ∧ ∀ b ∈ as, (∃ o, h₁.get? b = some o) ∧ b ∉ S₁) → K v { s with heap := h', toks := tk }) →
    wpAny (model C.prog C.w) A (pyNext (.ref I)) (fun r s₁ => match r with
      | none => False
      | some v => wpAny (model C.prog C.w) A (letOwnedTupleGo target (.ref I) v) (fun _ s₂ => K v s₂) E s₁) E s
  self : ∀ (i : Nat) (s : Shared) (Q : Value → Shared → Prop) (E : Value → Shared → Prop), St i s.heap → Q (.ref I) s → wpAny (model C.prog C.w) A (pyIter (.ref I)) Q E s
  done : ∀ (s : Shared) (Q : Option Value → Shared → Prop) (E : Value → Shared → Prop), St ds.length s.heap →
    (∀ h' tk, (∀ b o, s.heap.get? b = some o → b ≠ I → h'.get? b = some o) → Q none { s with heap := h', toks := tk }) → wpAny (model C.prog C.w) A (pyNext (.ref I)) Q E s

noncomputable def Src (C : Cx) (τ : List Str) (κ : Str → Option NameKind) (n : Nat) (target iter : Expr) (g : G → List Nat → Option (List PyData × List Nat)) : Prop :=
  ∀ (env : Env) (S₀ W : List Addr) (own : Own) (A : Around) (s : Shared) (Γ : G) (ds : List PyData) (O' : List Nat) (Q : Value → Shared → Prop) (E : Value → Shared → Prop),
    AOk n A → FnEnv κ env → RelS C τ S₀ W env Γ own s.heap → g Γ (own.map (·.1)) = some (ds, O') →
    (∀ h₁ h₂ tk own₁ I fp St, own₁.map (·.1) = O' → (own₁ = own ∨ own₁ = []) → Keep C [] s.heap h₁ → RelS C τ S₀ W env Γ own₁ h₁ → Keep C [] h₁ h₂ → h₁.get? I = none → St 0 h₂ →
      (∀ b ∈ fp, (∃ o, h₁.get? b = some o) ∧ (b ∉ Mset W own₁ ∧ ∀ D ∈ S₀, (∃ vs m, h₁.get? D = some (lobj vs m)) → b ≠ D) ∧ b ≠ C.tab) → (∀ X : List Addr, (∀ b ∈ X, b ∈ S₀ ∧ ∀ o, h₁.get? b = some o → NotFix o) → Wk C A target I fp ds St h₁ (S₀ ++ Mset W own₁) (X ++ Mset W own₁)) → Q (.ref I) { s with heap := h₂, toks := tk }) →
    wpAny (model C.prog C.w) A (eval iter env) (fun xv s₁ => wpAny (model C.prog C.w) A (pyIter xv) Q E s₁) E s

/-- a target takes a datum -/
noncomputable def TG (C : Cx) (τ : List Str) (κ : Str → Option NameKind) (n : Nat) (target : Expr) (B : PyData → G → List Nat → Option (G × List Nat)) : Prop :=
  ∀ (env : Env) (S₀ W : List Addr) (own : Own) (A : Around) (s : Shared) (Γ Γ' : G) (O' : List Nat) (v : Value) (d : PyData) (Q : Unit → Shared → Prop) (E : Value → Shared → Prop),
    AOk n A → FnEnv κ env → RelS C τ S₀ W env Γ own s.heap → Rv C (S₀ ++ Mset W own) s.heap v (.p d) → B d Γ (own.map (·.1)) = some (Γ', O') →
    (∀ h' tk own', own'.map (·.1) = O' → (∀ p ∈ own', p ∈ own) → RelS C τ S₀ W env Γ' own' h' → Keep C (Mset W own) s.heap h' → Q () { s with heap := h', toks := tk }) →
    wpAny (model C.prog C.w) A (assign target env v) Q E s

noncomputable def forF (B : PyData → G → List Nat → Option (G × List Nat)) (F : G → List Nat → Option Res) : List PyData → G → List Nat → Option Res
  | [], Γ, O => some (.next Γ O)
  | d :: ds, Γ, O => match B d Γ O with
    | some (Γ', O') => match F Γ' O' with
      | some (.next Γ'' O'') => forF B F ds Γ'' O''
      | some (.ret x) => some (.ret x)
      | none => none
    | none => none
noncomputable def fFor (g : G → List Nat → Option (List PyData × List Nat)) (B : PyData → G → List Nat → Option (G × List Nat)) (F : G → List Nat → Option Res) : G → List Nat → Option Res := fun Γ O =>
  match g Γ O with
  | some (ds, O') => forF B F ds Γ O'
  | none => none
end Mine
end
section -- F13
open PySem PySem.Spec PySem.Calls PySem.W PyProof.Rows
set_option Elab.async false
set_option maxRecDepth 100000
namespace Mine
variable {C : Cx} {τ : List Str} {κ : Str → Option NameKind} {n : Nat}

theorem hb_none {h : Heap} (ok : HOk C h) {I : Addr} (hI : h.get? I = none) : C.hb.get? I = none := by
  cases e : C.hb.get? I with
  | none => rfl
  | some o =>
    by_cases ht : I = C.tab
    · subst ht
      obtain ⟨o', vs, e', _, _⟩ := C.tabGet h ok.tab
      rw [hI] at e'; cases e'
    · have := ok.base I o e ht; rw [hI] at this; cases this

theorem s1_for {target iter : Expr} {body : List Stmt} {pos : Pos} {g : G → List Nat → Option (List PyData × List Nat)} {B : PyData → G → List Nat → Option (G × List Nat)} {F : G → List Nat → Option Res}
    (hsrc : Src C τ κ n target iter g) (htg : TG C τ κ n target B) (hb : SS C τ κ n body F) (hs : ∀ env x, foldedSetIterable iter env x = pure x) :
    S1 C τ κ n (.For target iter body [] pos) (fFor g B F) := by
  intro env S₀ W own A s Γ r Q E ha fe re er h
  unfold fFor at er
  split at er
  · rename_i ds O' eg
    refine wpAny_For (hsrc env S₀ W own A s Γ ds O' _ E ha fe.toFnEnv re eg fun h₁ h₂ tk own₁ I fp St eo ho k₁ re₁ k₂ hI st₀ hfp Wi => ?_) (hs env)
    have Wi : Wk C A target I fp ds St h₁ (S₀ ++ Mset W own₁) (Mset W own₁) := Wi [] (fun _ hb => nomatch hb)
    have hbI := hb_none re₁.ok hI
    have hn0 : I ∉ S₀ := fun q => by obtain ⟨o, e⟩ := re₁.lt₀ I q; rw [hI] at e; cases e
    obtain ⟨oI, TI, eI, cI⟩ := Wi.cls 0 h₂ st₀
    have re₂ := re₁.guard k₂ hI ⟨oI, eI⟩
    have sub₁ : Sub own own₁ s.heap := .of ho
    have liveI : ∀ {x : Addr} {o : Obj}, s.heap.get? x = some o → x ≠ I := fun {x o} e q => by
      obtain ⟨o', e'⟩ := k₁.live x o e; rw [q, hI] at e'; cases e'
    have m1 : ∀ b ∈ Mset W own₁, b ∈ Mset W own := fun b hb => by
      rcases ho with rfl | rfl
      · exact hb
      · unfold Mset at hb ⊢
        simp only [List.map_nil, List.append_nil] at hb
        exact List.mem_append_left _ hb
    refine codeAny_forLoop_any (fun k s' => ∃ h' tk' own' Γ' i, s' = { s with heap := h', toks := tk' } ∧ RelS C τ (I :: S₀) W env Γ' own' h' ∧ Keep C (Mset W own) s.heap h' ∧ Sub own own' s.heap ∧ Sub own₁ own' h₁ ∧ Gets C (I :: (Mset W own₁)) h₁ h' ∧
      (∀ x o, h₁.get? x = some o → ∃ o', h'.get? x = some o') ∧ St i h' ∧ i ≤ ds.length ∧ k = ds.length + 1 - i ∧ forF B F (ds.drop i) Γ' (own'.map (·.1)) = some r) ?_ (ds.length + 1)
      ⟨h₂, tk, own₁, Γ, 0, rfl, re₂, (k₁.nil).trans k₂.nil, sub₁, .refl, fun b o e hb ht => k₂.get b o e (fun q => nomatch q) ht, k₂.live, st₀, Nat.zero_le _, rfl, by rw [List.drop_zero, eo]; exact er⟩
    rintro k s' ⟨h', tk', own', Γ', i, rfl, re', kp, sb, sb1, gt, lv, st, hi, rfl, ef⟩
    by_cases hlt : i < ds.length
    · have edi : ds[i]? = some ds[i] := by simp [hlt]
      refine wpAny_mono (Wi.item i _ ds[i] (fun v s₂ => wpAny (model C.prog C.w) A (assign target env v) (fun _ s₃ => wpAny (model C.prog C.w) A (execs body env) (fun f s₄ => match f with
            | .next | .cont => ∃ m, m < ds.length + 1 - i ∧ ∃ h' tk' own' Γ' i, s₄ = { s with heap := h', toks := tk' } ∧ RelS C τ (I :: S₀) W env Γ' own' h' ∧ Keep C (Mset W own) s.heap h' ∧ Sub own own' s.heap ∧ Sub own₁ own' h₁ ∧ Gets C (I :: (Mset W own₁)) h₁ h' ∧
              (∀ x o, h₁.get? x = some o → ∃ o', h'.get? x = some o') ∧ St i h' ∧ i ≤ ds.length ∧ m = ds.length + 1 - i ∧ forF B F (ds.drop i) Γ' (own'.map (·.1)) = some r
            | .brk => Q .next s₄
            | .ret v => Q (.ret v) s₄) (notedBy (model C.prog C.w) A env fun e s' => cameBackBy (model C.prog C.w) A env E e s') s₃) (notedBy (model C.prog C.w) A env fun e s' => cameBackBy (model C.prog C.w) A env E e s') s₂) _ edi st gt ?_) (fun r' s₁ hr => ?_) fun _ _ x => x
      · intro v h₃ tk₃ st₃ g₃ hv
        obtain ⟨_, re₃⟩ := re'.iter g₃ (Wi.cls i h' st) hbI hn0
        obtain ⟨o3, T3, e3, c3⟩ := Wi.cls (i + 1) h₃ st₃
        have re₃ := re₃ ⟨o3, e3⟩
        have kp₃ : Keep C (Mset W own) s.heap h₃ := ⟨fun b o e hb ht => g₃ b o (kp.get b o e hb ht) (liveI e), fun b o e => by
          obtain ⟨o', e'⟩ := kp.live b o e; exact ⟨o', g₃ b o' e' (liveI e)⟩, re₃.ok.tab⟩
        have gt₃ : Gets C (I :: (Mset W own₁)) h₁ h₃ := fun b o e hb ht => g₃ b o (gt b o e hb ht) fun q => hb (q ▸ .head _)
        have lv₃ : ∀ x o, h₁.get? x = some o → ∃ o', h₃.get? x = some o' := fun x o e => by
          obtain ⟨o', e'⟩ := lv x o e; exact ⟨o', g₃ x o' e' fun q => by rw [q, hI] at e; cases e⟩
        have rvv : Rv C ((I :: S₀) ++ Mset W own') h₃ v (.p ds[i]) := by
          obtain ⟨as, rd, hs⟩ := hv
          refine ⟨as, rd, fun b hb q => ?_⟩
          obtain ⟨⟨o, e⟩, hn⟩ := hs b hb
          rcases List.mem_append.mp q with q | q
          · rcases List.mem_cons.mp q with rfl | q
            · rw [hI] at e; cases e
            · exact hn (List.mem_append_left _ q)
          · rcases List.mem_append.mp q with q | q
            · exact hn (List.mem_append_right _ (List.mem_append_left _ q))
            · obtain ⟨p, hp, rfl⟩ := List.mem_map.mp q
              rcases sb1 p hp with q' | q'
              · exact hn (List.mem_append_right _ (own_in (W := W) (i := p.1) q'))
              · rw [q'] at e; cases e
        have ef' := ef
        rw [List.drop_eq_getElem_cons hlt] at ef'
        unfold forF at ef'
        split at ef'
        · rename_i Γ₄ O₄ eB
          refine htg env (I :: S₀) W own' A _ Γ' Γ₄ O₄ v ds[i] _ _ ha fe.toFnEnv re₃ rvv eB fun h₄ tk₄ own₄ eo₄ so₄ re₄ kp₄ => ?_
          have sb₄ : Sub own own₄ s.heap := fun p hp => sb p (so₄ p hp)
          have sb1₄ : Sub own₁ own₄ h₁ := fun p hp => sb1 p (so₄ p hp)
          have keep₄ : Keep C (Mset W own) s.heap h₄ := kp₃.seq sb kp₄
          have off : ∀ {ow : Own}, Sub own₁ ow h₁ → ∀ {b : Addr} {o : Obj}, h₁.get? b = some o → b ∉ I :: Mset W own₁ → b ∉ Mset W ow := fun {ow} sbx {b o} e hb q => by
            rcases List.mem_append.mp q with q | q
            · exact hb (.tail _ (List.mem_append_left _ q))
            · obtain ⟨p, hp, rfl⟩ := List.mem_map.mp q
              rcases sbx p hp with q' | q'
              · exact hb (.tail _ (own_in (W := W) (i := p.1) q'))
              · rw [q'] at e; cases e
          have gt₄ : Gets C (I :: (Mset W own₁)) h₁ h₄ := fun b o e hb ht => kp₄.get b o (gt₃ b o e hb ht) (off sb1 e hb) ht
          have lv₄ : ∀ x o, h₁.get? x = some o → ∃ o', h₄.get? x = some o' := fun x o e => by obtain ⟨o', e'⟩ := lv₃ x o e; exact kp₄.live x o' e'
          have fpk : ∀ {ow : Own} {ha hb : Heap}, RelS C τ (I :: S₀) W env Γ₄ ow ha ∨ True → Sub own₁ ow h₁ → Keep C (Mset W ow) ha hb → (I ∉ Mset W ow) → I ≠ C.tab → ∀ b, b = I ∨ b ∈ fp → ∀ o, ha.get? b = some o → hb.get? b = some o :=
            fun {ow ha hb} _ sbx kx nI tI b hbm o e => by
              rcases hbm with rfl | hbm
              · exact kx.get b o e nI tI
              · obtain ⟨⟨o1, e1⟩, hm1, ht1⟩ := hfp b hbm
                refine kx.get b o e (off sbx e1 fun q => ?_) ht1
                rcases List.mem_cons.mp q with rfl | q
                · rw [hI] at e1; cases e1
                · exact hm1.1 q
          have tI : I ≠ C.tab := fun q => by
            obtain ⟨o', vs, e', _, _⟩ := C.tabGet h₁ re₁.ok.tab
            rw [← q, hI] at e'; cases e'
          have st₄ : St (i + 1) h₄ := Wi.frame _ _ _ st₃ (fpk (.inr trivial) sb1 kp₄ (re₃.dis I (.head _)) tI)
          split at ef'
          · rename_i Γ₅ O₅ eF
            refine hb env (I :: S₀) W own₄ A _ Γ₄ (.next Γ₅ O₅) _ _ ha fe re₄ (by rw [eo₄]; exact eF) fun fl h₅ tk₅ own₅ rr kp₅ sb₅ => ?_
            obtain ⟨rfl, eo₅, re₅⟩ := rr
            have sb1₅ : Sub own₁ own₅ h₁ := sb1₄.trans sb₅ lv₄
            refine ⟨ds.length + 1 - (i + 1), by omega, h₅, tk₅, own₅, Γ₅, i + 1, rfl, re₅, keep₄.seq sb₄ kp₅, sb₄.trans sb₅ keep₄.live, sb1₅, fun b o e hb ht => kp₅.get b o (gt₄ b o e hb ht) (off sb1₄ e hb) ht,
              fun x o e => by obtain ⟨o', e'⟩ := lv₄ x o e; exact kp₅.live x o' e', Wi.frame _ _ _ st₄ (fpk (.inr trivial) sb1₄ kp₅ (re₄.dis I (.head _)) tI), hlt, rfl, by rw [eo₅]; exact ef'⟩
          · rename_i x eF
            cases ef'
            refine hb env (I :: S₀) W own₄ A _ Γ₄ (.ret x) _ _ ha fe re₄ (by rw [eo₄]; exact eF) fun fl h₅ tk₅ own₅ rr kp₅ sb₅ => ?_
            obtain ⟨v₅, rfl, ok₅, rv₅⟩ := rr
            exact h (.ret v₅) h₅ tk₅ own₅ ⟨v₅, rfl, ok₅, rv₅.sub fun b hb => .tail _ hb⟩ (keep₄.seq sb₄ kp₅) (sb₄.trans sb₅ keep₄.live)
          · cases ef'
        · cases ef'
      · cases r' with
        | none => exact hr.elim
        | some v => exact hr
    · have hin : i = ds.length := by omega
      subst hin
      refine Wi.done _ _ _ st fun h₃ tk₃ g₃ => wpAny_execs_nil ?_
      obtain ⟨re₃, _⟩ := re'.iter g₃ (Wi.cls _ h' st) hbI hn0
      rw [List.drop_length] at ef
      cases ef
      refine h .next h₃ tk₃ own' ⟨rfl, rfl, re₃⟩ ⟨fun b o e hb ht => g₃ b o (kp.get b o e hb ht) (liveI e), fun b o e => ?_, re₃.ok.tab⟩ sb
      obtain ⟨o', e'⟩ := kp.live b o e; exact ⟨o', g₃ b o' e' (liveI e)⟩
  · cases er
end Mine
end
section -- F14
open PySem PySem.Spec PySem.Calls PySem.W PyProof.Rows
set_option Elab.async false
set_option maxRecDepth 100000
namespace Mine
variable {C : Cx} {τ : List Str} {κ : Str → Option NameKind} {n : Nat}

noncomputable def bName (i : Nat) : PyData → G → List Nat → Option (G × List Nat) := fun d Γ O => some (gset Γ i (.p d), O.filter fun j => !(j == i))
noncomputable def bPair (i j : Nat) : PyData → G → List Nat → Option (G × List Nat) := fun d Γ O => match d with
  | .tuple [a, b] => some (gset (gset Γ i (.p a)) j (.p b), (O.filter fun k => !(k == i)).filter fun k => !(k == j))
  | _ => none

theorem rv_orem {S₀ W : List Addr} {own : Own} {h : Heap} {v : Value} {d : DV} {i : Nat} (r : Rv C (S₀ ++ Mset W own) h v d) : Rv C (S₀ ++ Mset W (orem own i)) h v d := r.sub fun b hb => by
  rcases List.mem_append.mp hb with hb | hb
  · exact List.mem_append_left _ hb
  · exact List.mem_append_right _ (mset_sub orem_sub b hb)
theorem tg_name (ap : Apart τ) {x : Str} {px : Pos} (i : Nat) (hi : τ[i]? = some x) (hk : κ x = some .local) : TG C τ κ n (.Name x px) (bName i) := by
  intro env S₀ W own A s Γ Γ' O' v d Q E ha fe re rv eB h
  cases eB
  refine wpAny_assign_Name (stored_rel ap fe (re.weaken (i := i)) hi (.inl hk) (d := .p d) (by rw [orem_self]; exact known_rv (rv_orem rv)) fun h' tk rel kp => ?_)
  rw [gset_none] at rel
  exact h h' tk _ orem_keys orem_sub rel (kp.mono (mset_sub orem_sub))

theorem tg_pair (ap : Apart τ) {x y : Str} {px py pt : Pos} {x1 : Nat} (i j : Nat) (hi : τ[i]? = some x) (hj : τ[j]? = some y) (hk : κ x = some .local) (hk' : κ y = some .local) : TG C τ κ n (.Tuple [.Name x px, .Name y py] x1 pt) (bPair i j) := by
  intro env S₀ W own A s Γ Γ' O' v d Q E ha fe re rv eB h
  unfold bPair at eB
  split at eB
  · rename_i a b
    cases eB
    obtain ⟨as, rd, hs⟩ := rv
    cases rd with
    | @tuple t vs m _ _ e r =>
      generalize hvs : vs.toList = lv at r
      cases r with
      | @cons va lv' _ _ as1 bs1 ra r' =>
       cases r' with
       | @cons vb lv'' _ _ as2 bs2 rb r'' =>
        cases r''
        have evs : vs = #[va, vb] := by apply Array.ext'; rw [hvs]
        subst evs
        have ht : s.heap.IsTuple t #[va, vb] := ⟨_, e, rfl, _, rfl⟩
        refine wpAny_assign_Tuple ha.handled ht rfl rfl fun h₁ hx₁ => ?_
        have k₁ : Keep C [] s.heap h₁ := .of_all re.ok.tab fun b o q => hx₁ b o (Nat.ne_of_lt (Heap.lt_size q)) q
        have re₁ := re.pure k₁
        have rva : Rv C (S₀ ++ Mset W own) h₁ va (.p a) := Rv.pure k₁ re.ok.tab ⟨as1, ra, fun b hb => hs b (List.mem_append_left _ hb)⟩
        have rvb : Rv C (S₀ ++ Mset W own) h₁ vb (.p b) := Rv.pure k₁ re.ok.tab ⟨as2, rb, fun b hb => hs b (List.mem_append_right _ (List.mem_append_left _ hb))⟩
        show wpAny _ _ (do holding [vb] (assign (.Name x px) env va); do holding [] (assign (.Name y py) env vb); pure ()) _ _ _
        refine wpAny_bind (wpAny_holding (wpAny_assign_Name (stored_rel ap fe (re₁.weaken (i := i)) hi (.inl hk) (d := .p a) (by rw [orem_self]; exact known_rv (rv_orem rva)) fun h₂ tk₂ rel₂ kp₂ => ?_)))
        rw [gset_none] at rel₂
        have rvb₂ : Rv C (S₀ ++ Mset W (orem own i)) h₂ vb (.p b) := Rv.keep kp₂.get re₁.ok.tab (notFix_of fun b hb => re₁.mt b (mset_sub orem_sub b hb)) (fun b hb => List.mem_append_right _ hb) (rv_orem rvb)
        refine wpAny_bind (wpAny_holding (wpAny_assign_Name (stored_rel (s := { s with heap := h₂, toks := tk₂ }) ap fe (rel₂.weaken (i := j)) hj (.inl hk') (d := .p b) (by rw [orem_self]; exact known_rv (rv_orem rvb₂)) fun h₃ tk₃ rel₃ kp₃ => wpAny_pure ?_)))
        rw [gset_none] at rel₃
        refine h h₃ tk₃ _ (by rw [orem_keys, orem_keys]) (fun p hp => orem_sub p (orem_sub p hp)) rel₃ ?_
        exact (k₁.nil.trans (kp₂.mono (mset_sub orem_sub))).trans (kp₃.mono (mset_sub fun p hp => orem_sub p (orem_sub p hp)))
  · cases eB

theorem go_plain {A : Around} {s : Shared} {Q : Unit → Shared → Prop} {E : Value → Shared → Prop} {target : Expr} {I : Addr} {v : Value} {o : Obj} {T : String} (e : s.heap.get? I = some o) (hc : o.cls = .type T)
    (hT : (["enumerate", "zip", "dict_itemiterator", "dict_reverseitemiterator", "odict_iterator", "itertools.zip_longest", "itertools.pairwise"] : List String).contains T = false) (h : Q () s) :
    wpAny (model C.prog C.w) A (letOwnedTupleGo target (.ref I) v) Q E s := by
  have main : wpAny (model C.prog C.w) A (do
      let (.ref r, .ref a) := (Value.ref I, v) | return
      let o ← load r
      match o.cls, o.data with
      | .type n, .fields vs =>
        if ["enumerate", "zip", "dict_itemiterator", "dict_reverseitemiterator", "odict_iterator", "itertools.zip_longest", "itertools.pairwise"].contains n && vs[0]? == some (rawInt a) then
          rule "for.unpacks-the-owned-tuple"
          updateField r 0 .none
      | _, _ => pure () : Sem Unit) Q E s := by
    cases v with
    | ref a =>
      refine wpAny_bind (wpAny_load e ?_)
      obtain ⟨c, dd, dt, sl⟩ := o
      cases hc
      cases dt with
      | fields vs =>
        dsimp only
        rw [hT]
        exact wpAny_pure h
      | _ => exact wpAny_pure h
    | _ => exact wpAny_pure h
  cases target <;> first | exact main | exact wpAny_pure h

-- a list
noncomputable def gList (f : G → Option DV) : G → List Nat → Option (List PyData × List Nat) := fun Γ O => match evA f Γ O with
  | some (.p (.list ds), O') => some (ds, O')
  | _ => none
theorem src_list {target iter : Expr} {f : G → Option DV} (hf : SE C τ κ n iter f) : Src C τ κ n target iter (gList f) := by
  intro env S₀ W own A s Γ ds O' Q E ha fe re eg h
  unfold gList at eg
  split at eg
  · rename_i ds' O'' ev
    cases eg
    refine evalS hf ha fe re ev fun v h₁ tk₁ own₁ eo ho k₁ re₁ rv => ?_
    obtain ⟨as, rd, hs⟩ := rv
    cases rd with
    | @list a vs m _ as' e r =>
      have ha' : a ∉ S₀ ++ Mset W own₁ := hs a (.head _)
      have ta : a ≠ C.tab := tab_ne re₁.ok.tab e fun _ q => nomatch q
      refine wpAny_pyIter_list ⟨_, e, rfl, _, rfl⟩ ?_
      have hfr := get_fresh h₁
      refine h h₁ _ tk₁ own₁ h₁.objs.size [a] (fun i h => h.IsListIter h₁.objs.size a i ∧ h.get? a = some (lobj vs m)) eo ho k₁ re₁ (Keep.push re₁.ok.tab _) hfr
        ⟨⟨_, Heap.get?_push_size _ rfl, rfl, rfl⟩, Heap.get?_push_of_some _ e⟩ (fun b hb => ?_) fun X hX => ⟨fun i h h' st k => ?_, fun i h st => ?_, fun i s d K E ed st g hk => ?_, fun i s Q E st hq => wpAny_pyIter_listiter st.1 hq, fun s Q E st hk => ?_⟩
      · rw [List.mem_singleton.mp hb]; exact ⟨⟨_, e⟩, ⟨fun q => ha' (List.mem_append_right _ q), fun D hD _ q => ha' (q ▸ List.mem_append_left _ hD)⟩, ta⟩
      · exact ⟨st.1.at fun o q => k _ (.inl rfl) o q, k a (.inr (.head _)) _ st.2⟩
      · obtain ⟨o, eo, hc, _⟩ := st.1; exact ⟨o, _, eo, hc, by decide, by decide, _, ‹_›⟩
      · obtain ⟨w, bs, ew, rw', hw⟩ := rdAll_get r ed
        have lv : (h₁.get? a).isSome := by rw [e]; rfl
        refine wpAny_pyNext_list_item st.1 ⟨_, st.2, rfl, _, rfl⟩ (x := w) (by simpa using ew) fun h' hit hsb => ?_
        obtain ⟨o, eo, hc, _⟩ := hit
        have hne : a ≠ h₁.objs.size := Nat.ne_of_lt (Heap.lt_size e)
        refine go_plain eo hc (by decide) ?_
        refine hk w h' _ ⟨⟨o, eo, hc, ‹_›⟩, (hsb.2 a hne).trans st.2⟩ (fun b o e hb => (hsb.2 b hb).trans e) ⟨bs, ?_, fun b hb => ⟨rd_live rw' b hb, hs b (.tail _ (hw b hb))⟩⟩
        -- read at the start, kept since
        have g' : Gets C (h₁.objs.size :: (X ++ Mset W own₁)) h₁ h' := fun b o e hb ht => (hsb.2 b fun q => hb (q ▸ .head _)).trans (g b o e hb ht)
        refine rd_keep g' re₁.ok.tab (fun b hb o e => ?_) rw' (fun b hb q => ?_)
        · rcases List.mem_cons.mp hb with rfl | hb
          · rw [hfr] at e; cases e
          · rcases List.mem_append.mp hb with hb | hb
            · exact (hX b hb).2 o e
            · exact notFix_of re₁.mt b hb o e
        · rcases List.mem_cons.mp q with rfl | q
          · obtain ⟨o, e⟩ := rd_live rw' _ hb; rw [hfr] at e; cases e
          · rcases List.mem_append.mp q with q | q
            · exact hs b (.tail _ (hw b hb)) (List.mem_append_left _ (hX b q).1)
            · exact hs b (.tail _ (hw b hb)) (List.mem_append_right _ q)
      · refine wpAny_pyNext_list_end ha.handled st.1 ⟨_, st.2, rfl, _, rfl⟩ (by rw [← rdAll_length r]; simp) fun h' he => ?_
        exact hk h' _ fun b o e hb => he b o hb e
  · cases eg
end Mine
end
section -- F15
open PySem PySem.Spec PySem.Calls PySem.W PyProof.Rows
set_option Elab.async false
set_option maxRecDepth 100000
namespace Mine
variable {C : Cx} {τ : List Str} {κ : Str → Option NameKind} {n : Nat}

theorem ipairs_get : ∀ {kvs : List (Int × Value)} {es : List (Int × Int)}, IPairs kvs es → ∀ {i : Nat} {k v : Int}, es[i]? = some (k, v) → ∃ t, kvs[i]? = some (k, .int v t)
  | _, _, .nil, i, k, v, e => by simp at e
  | _, _, .cons (t := t) r, i, k, v, e => by
    cases i with
    | zero => simp at e; obtain ⟨rfl, rfl⟩ := e; exact ⟨t, rfl⟩
    | succ i => simp only [List.getElem?_cons_succ] at e; obtain ⟨t', q⟩ := ipairs_get r e; exact ⟨t', by simpa using q⟩

noncomputable def gKeys (f : G → Option DV) : G → List Nat → Option (List PyData × List Nat) := fun Γ O => match evA f Γ O with
  | some (.dict es, O') => some (es.map fun p => .int p.1, O')
  | _ => none
theorem src_keys {target iter : Expr} {f : G → Option DV} (hf : SE C τ κ n iter f) : Src C τ κ n target iter (gKeys f) := by
  intro env S₀ W own A s Γ ds O' Q E ha fe re eg h
  unfold gKeys at eg
  split at eg
  · rename_i es O'' ev
    cases eg
    refine evalS hf ha fe re ev fun v h₁ tk₁ own₁ eo ho k₁ re₁ rv => ?_
    obtain ⟨a, kvs, rfl, hS, hl, hd, hp⟩ := rv
    obtain ⟨ep, hat⟩ := hd.dictAt
    obtain ⟨oa, es', n', ea, da, _⟩ := dictOf_get hd
    have ta : a ≠ C.tab := tab_ne re₁.ok.tab ea fun _ q => by rw [da] at q; cases q
    refine wpAny_pyIter_dict (dict_low hl) hat ?_
    have hne : a ≠ h₁.objs.size := Nat.ne_of_lt (Heap.lt_size ea)
    refine h h₁ _ tk₁ own₁ h₁.objs.size [a] (fun i h => h.IsKeyIter h₁.objs.size a i kvs.length ep ∧ h.DictAt (intKind C.prog C.w) a kvs ep) eo ho k₁ re₁ (Keep.push re₁.ok.tab _) (get_fresh h₁)
      ⟨⟨_, Heap.get?_push_size _ rfl, rfl, rfl⟩, hat.push _⟩ (fun b hb => ?_) fun X hX => ⟨fun i h h' st k => ?_, fun i h st => ?_, fun i s d K E ed st g hk => ?_, fun i s Q E st hq => wpAny_pyIter_keyiter st.1 hq, fun s Q E st hk => ?_⟩
    · rw [List.mem_singleton.mp hb]; exact ⟨⟨_, ea⟩, ⟨fun q => hS (List.mem_append_right _ q), fun D hD _ q => hS (q ▸ List.mem_append_left _ hD)⟩, ta⟩
    · exact ⟨st.1.at fun o q => k _ (.inl rfl) o q, st.2.at' fun o q => k a (.inr (.head _)) o q⟩
    · obtain ⟨o, eo, hc, _⟩ := st.1; exact ⟨o, _, eo, hc, by decide, by decide, _, ‹_›⟩
    · rw [List.getElem?_map] at ed
      cases q : es[i]? with
      | none => rw [q] at ed; cases ed
      | some p =>
        rw [q] at ed; cases ed
        obtain ⟨t, ek⟩ := ipairs_get hp (k := p.1) (v := p.2) q
        refine wpAny_pyNext_dict_item st.1 st.2 ek fun key h' hkey hit hsb => ?_
        obtain ⟨tk, rfl⟩ := Value.isInt_shape (k := p.1) (v := key) hkey
        obtain ⟨o, eo, hc, hdd⟩ := hit
        refine go_plain eo hc (by decide) ?_
        exact hk _ h' _ ⟨⟨o, eo, hc, hdd⟩, st.2.extBut hsb.extBut hne⟩ (fun b o e hb => (hsb.2 b hb).trans e) ⟨[], .int _ _, fun _ hb => nomatch hb⟩
    · rw [List.length_map, ← ipairs_length hp] at st
      refine wpAny_pyNext_dict_end ha.handled st.1 st.2 (by simp) fun h' he => ?_
      exact hk h' _ fun b o e hb => he b o hb e
  · cases eg

/-- d.values() -/
noncomputable def gVals (f : G → Option DV) : G → List Nat → Option (List PyData × List Nat) := fun Γ O => match evA f Γ O with
  | some (.dict es, O') => some (es.map fun p => .int p.2, O')
  | _ => none
theorem src_vals {target o : Expr} {apos pos : Pos} {f : G → Option DV} (hf : SE C τ κ n o f) (hbase : ∀ env, attributeBase o "values" env (eval o env) = eval o env) (hline : (apos.endLine == pos.line) = true) :
    Src C τ κ n target (.Call (.Attribute o "values" apos) [] [] pos) (gVals f) := by
  intro env S₀ W own A s Γ ds O' Q E ha fe re eg h
  unfold gVals at eg
  split at eg
  · rename_i es O'' ev
    cases eg
    refine wpAny_Call_method (T := "dict") (id := "dict.values") (hbase env) rfl hline F.plainAttrs_dict F.slot_dict_values F.type_dict_values ?_
    refine evalS hf ha fe re ev fun v h₁ tk₁ own₁ eo ho k₁ re₁ rv => ?_
    obtain ⟨a, kvs, rfl, hS, hl, hd, hp⟩ := rv
    refine ⟨hd.typeIs, hd.mapOf.noDict, ?_⟩
    obtain ⟨ep, hat⟩ := hd.dictAt
    obtain ⟨oa, es', n', ea, da, _⟩ := dictOf_get hd
    have ta : a ≠ C.tab := tab_ne re₁.ok.tab ea fun _ q => by rw [da] at q; cases q
    show wpAny _ _ (callWith pos (.builtin "dict.values") [.ref a] [] []) _ E _
    refine method_meetsIn F.slot_dict_values F.entry_dict_values rfl (PySem.evalArgs_none ⟨rfl, hd.typeIs, F.args_dict_values_1 _, _, meets_dict_values (intKind C.prog C.w) a (dict_low hl), ⟨kvs, hd⟩, ?_⟩)
    have k₂ := Keep.push (C := C) re₁.ok.tab ({ cls := .type "dict_values", data := .fields #[.ref a] } : Obj)
    have re₂ := re₁.pure k₂
    refine wpAny_pyIter_values ⟨_, Heap.get?_push_size _ rfl, rfl, rfl⟩ (hat.push _) ?_
    refine h _ _ tk₁ own₁ _ [a] (fun i h => h.IsValIter (h₁.push { cls := .type "dict_values", data := .fields #[.ref a] }).objs.size a i kvs.length ep ∧ h.DictAt (intKind C.prog C.w) a kvs ep) eo ho (k₁.trans k₂) re₂ (Keep.push re₂.ok.tab _) (get_fresh _)
      ⟨⟨_, Heap.get?_push_size _ rfl, rfl, rfl⟩, (hat.push _).push _⟩ (fun b hb => ?_) fun X hX => ⟨fun i h h' st k => ?_, fun i h st => ?_, fun i s d K E ed st g hk => ?_, fun i s Q E st hq => wpAny_pyIter_valiter st.1 hq, fun s Q E st hk => ?_⟩
    · rw [List.mem_singleton.mp hb]; exact ⟨⟨_, Heap.get?_push_of_some _ ea⟩, ⟨fun q => hS (List.mem_append_right _ q), fun D hD _ q => hS (q ▸ List.mem_append_left _ hD)⟩, ta⟩
    · exact ⟨st.1.at fun o q => k _ (.inl rfl) o q, st.2.at' fun o q => k a (.inr (.head _)) o q⟩
    · obtain ⟨o, eo, hc, _⟩ := st.1; exact ⟨o, _, eo, hc, by decide, by decide, _, ‹_›⟩
    · rw [List.getElem?_map] at ed
      cases q : es[i]? with
      | none => rw [q] at ed; cases ed
      | some p =>
        rw [q] at ed; cases ed
        obtain ⟨t, ek⟩ := ipairs_get hp (k := p.1) (v := p.2) q
        refine wpAny_pyNext_values_item st.1 st.2 ek fun h' hit hsb => ?_
        obtain ⟨o, eo, hc, hdd⟩ := hit
        refine go_plain eo hc (by decide) ?_
        have hne : a ≠ (h₁.push { cls := .type "dict_values", data := .fields #[.ref a] }).objs.size := Nat.ne_of_lt (Heap.lt_size (Heap.get?_push_of_some _ ea))
        exact hk _ h' _ ⟨⟨o, eo, hc, hdd⟩, st.2.extBut hsb.extBut hne⟩ (fun b o e hb => (hsb.2 b hb).trans e) ⟨[], .int _ _, fun _ hb => nomatch hb⟩
    · rw [List.length_map, ← ipairs_length hp] at st
      refine wpAny_pyNext_values_end ha.handled st.1 st.2 (by simp) fun h' he => ?_
      exact hk h' _ fun b o e hb => he b o hb e
  · cases eg
/-- d.items() -/
noncomputable def gItems (f : G → Option DV) : G → List Nat → Option (List PyData × List Nat) := fun Γ O => match evA f Γ O with
  | some (.dict es, O') => some (es.map fun p => .tuple [.int p.1, .int p.2], O')
  | _ => none
theorem src_items {elts : List Expr} {x1 : Nat} {tp : Pos} {o : Expr} {apos pos : Pos} {f : G → Option DV} (hf : SE C τ κ n o f) (hbase : ∀ env, attributeBase o "items" env (eval o env) = eval o env) (hline : (apos.endLine == pos.line) = true) :
    Src C τ κ n (.Tuple elts x1 tp) (.Call (.Attribute o "items" apos) [] [] pos) (gItems f) := by
  intro env S₀ W own A s Γ ds O' Q E ha fe re eg h
  unfold gItems at eg
  split at eg
  · rename_i es O'' ev
    cases eg
    refine wpAny_Call_method (T := "dict") (id := "dict.items") (hbase env) rfl hline F.plainAttrs_dict F.slot_dict_items F.type_dict_items ?_
    refine evalS hf ha fe re ev fun v h₁ tk₁ own₁ eo ho k₁ re₁ rv => ?_
    obtain ⟨a, kvs, rfl, hS, hl, hd, hp⟩ := rv
    refine ⟨hd.typeIs, hd.mapOf.noDict, ?_⟩
    obtain ⟨ep, hat⟩ := hd.dictAt
    obtain ⟨oa, es', n', ea, da, _⟩ := dictOf_get hd
    have ta : a ≠ C.tab := tab_ne re₁.ok.tab ea fun _ q => by rw [da] at q; cases q
    show wpAny _ _ (callWith pos (.builtin "dict.items") [.ref a] [] []) _ E _
    refine method_meetsIn F.slot_dict_items F.entry_dict_items rfl (PySem.evalArgs_none ⟨rfl, hd.typeIs, F.args_dict_items_1 _, _, meets_dict_items (intKind C.prog C.w) a (dict_low hl), ⟨kvs, hd⟩, ?_⟩)
    have k₂ := Keep.push (C := C) re₁.ok.tab ({ cls := .type "dict_items", data := .fields #[.ref a] } : Obj)
    have re₂ := re₁.pure k₂
    refine wpAny_pyIter_items ⟨_, Heap.get?_push_size _ rfl, rfl, rfl⟩ (hat.push _) ?_
    refine h _ _ tk₁ own₁ _ [a] (fun i h => (∃ ok ov, IsItemIter h (h₁.push { cls := .type "dict_items", data := .fields #[.ref a] }).objs.size a i kvs.length ep ok ov) ∧ h.DictAt (intKind C.prog C.w) a kvs ep) eo ho (k₁.trans k₂) re₂ (Keep.push re₂.ok.tab _) (get_fresh _)
      ⟨⟨_, _, Heap.get?_push_size _ rfl⟩, (hat.push _).push _⟩ (fun b hb => ?_) fun X hX => ⟨fun i h h' st k => ?_, fun i h st => ?_, fun i s d K E ed st g hk => ?_, fun i s Q E st hq => (let ⟨_, _, q⟩ := st.1; kcp_self q hq), fun s Q E st hk => ?_⟩
    · rw [List.mem_singleton.mp hb]; exact ⟨⟨_, Heap.get?_push_of_some _ ea⟩, ⟨fun q => hS (List.mem_append_right _ q), fun D hD _ q => hS (q ▸ List.mem_append_left _ hD)⟩, ta⟩
    · obtain ⟨⟨ok, ov, q⟩, st2⟩ := st
      exact ⟨⟨ok, ov, k _ (.inl rfl) _ q⟩, st2.at' fun o q => k a (.inr (.head _)) o q⟩
    · obtain ⟨⟨ok, ov, q⟩, st2⟩ := st; exact ⟨_, _, q, rfl, by decide, by decide, _, rfl⟩
    · obtain ⟨⟨ok, ov, hit⟩, st2⟩ := st
      rw [List.getElem?_map] at ed
      cases q : es[i]? with
      | none => rw [q] at ed; cases ed
      | some p =>
        rw [q] at ed; cases ed
        obtain ⟨t, ek⟩ := ipairs_get hp (k := p.1) (v := p.2) q
        have hne : a ≠ (h₁.push { cls := .type "dict_items", data := .fields #[.ref a] }).objs.size := Nat.ne_of_lt (Heap.lt_size (Heap.get?_push_of_some _ ea))
        refine wpAny_pyNext_items_item hit st2 ek fun key h' hkey hout ht hsz hk' => ?_
        obtain ⟨tk, rfl⟩ := Value.isInt_shape (k := p.1) (v := key) hkey
        refine wpAny_letOwnedTupleGo_items hout fun h'' hit' hsb => ?_
        have nI : s.heap.objs.size ≠ (h₁.push { cls := .type "dict_items", data := .fields #[.ref a] }).objs.size := Nat.ne_of_gt (Heap.lt_size hit)
        refine hk _ h'' _ ⟨⟨_, _, hit'⟩, (st2.at' fun o e => hk' a o hne e).extBut hsb.extBut hne⟩ (fun b o e hb => (hsb.2 b hb).trans (hk' b o hb e))
          ⟨_, .tuple ((hsb.2 _ nI).trans ht) (.cons (.int _ _) (.cons (.int _ _) .nil)), fun b hb => nomatch hb⟩
    · obtain ⟨⟨ok, ov, hit⟩, st2⟩ := st
      rw [List.length_map, ← ipairs_length hp] at hit
      refine wpAny_pyNext_items_end ha.handled hit st2 (by simp) fun h' he => ?_
      exact hk h' _ fun b o e hb => he b o hb e
  · cases eg

/-- range(e) -/
noncomputable def gRange (f : G → Option DV) : G → List Nat → Option (List PyData × List Nat) := fun Γ O => match f Γ with
  | some (.p (.int k)) => if 0 ≤ k ∧ k ≤ 1000 then some ((List.range k.toNat).map fun (j : Nat) => .int (j : Int), O) else none
  | _ => none
theorem range_size {k : Int} (h : 0 ≤ k) : Builtin.Range.rangeSize 0 k 1 = k := by
  unfold Builtin.Range.rangeSize
  simp only [show (1 : Int) > 0 from by decide, if_true]
  split <;> omega
theorem range_small {k : Int} (h : 0 ≤ k) (h2 : k ≤ 1000) : Builtin.Range.small 0 k 1 = true := by
  have fl : ∀ x : Int, 0 ≤ x → x ≤ 1000000 → Builtin.Range.rangeFitsLong x = true := fun x a b => by
    unfold Builtin.Range.rangeFitsLong
    simp only [Bool.and_eq_true, decide_eq_true_eq]
    omega
  unfold Builtin.Range.small
  rw [range_size h, fl 0 (by omega) (by omega), fl k h (by omega), fl 1 (by omega) (by omega), if_pos (by decide), fl (k + (1 - 1)) (by omega) (by omega)]
  simp
theorem src_range {target e : Expr} {x : Str} {p pos : Pos} {f : G → Option DV} (hf : SE C τ κ n e f) (hg : C.mg x = none) (hb : C.mb x = some (.type "range")) (hk : κ x = some .globalImplicit) (hd : (x == ("__debug__" : Str)) = false)
    (hst : ∀ env, starEach [e] env = [(false, eval e env)])
    (hev : ∀ env, eval (.Call (.Name x p) [e] [] pos) env = (do callWith pos (← eval (.Name x p) env) [] (backTo pos (starEach [e] env)) (backToKw pos (keywordEach [] env)))) :
    Src C τ κ n target (.Call (.Name x p) [e] [] pos) (gRange f) := by
  intro env S₀ W own A s Γ ds O' Q E ha fe re eg h
  unfold gRange at eg
  split at eg
  · rename_i k ek
    split at eg
    · rename_i hz
      cases eg
      refine Call_ (glob_name fe re.ok hk (.inr ⟨hg, hb⟩) hd ?_) (hev env)
      have hst' : starEach (e :: []) env = (false, eval e env) :: starEach [] env := hst env
      have hb' : wpAny (model C.prog C.w) A (spliced (backTo pos (starEach [e] env))) (fun vs s₁ => wpAny (model C.prog C.w) A (call (.type "range") vs) (fun xv s₁ => wpAny (model C.prog C.w) A (pyIter xv) Q E s₁) E s₁) E s := by
        refine args_cons (hf env _ A s Γ _ _ E ha fe re.rel ek fun v h₁ tk₁ k₁ rv => ?_) hst'
        refine args_nil ?_
        obtain ⟨t, rfl⟩ := of_int rv
        have re₁ := re.pure k₁
        refine call_range_1 ?_
        have k₂ := Keep.push (C := C) re₁.ok.tab ({ cls := .type "range", data := .fields #[.int 0 tk₁, .int k t, .int 1 (tk₁ + 1)] } : Obj)
        have re₂ := re₁.pure k₂
        refine wpAny_pyIter_range (IsRange.new _ _ _ _ _ _ _) (range_small hz.1 hz.2) ?_
        rw [range_size hz.1]
        have Wr := Walks.range (prog := C.prog) (w := C.w) ha.handled (h₁.push { cls := .type "range", data := .fields #[.int 0 tk₁, .int k t, .int 1 (tk₁ + 1)] }).objs.size 0 1 k.toNat
        refine h _ _ _ own _ [] _ rfl (.inl rfl) (k₁.trans k₂) re₂ (Keep.push re₂.ok.tab _) (get_fresh _) ?_ (fun b hb => nomatch hb) fun X hX => ⟨fun i h h' st k => Wr.frame i h h' st fun b hb o e => k b (.inl (List.mem_singleton.mp hb)) o e, fun i h st => ⟨_, _, st, rfl, by decide, by decide, _, rfl⟩, fun i s d K E ed st g hk => ?_, fun i s Q E st hq => Wr.self i s Q E st hq, fun s Q E st hk => ?_⟩
        · have e1 : ((k.toNat : Nat) : Int) = k := by omega
          simp only [IsRangeIter, e1]
          have := Heap.get?_push_size (h₁.push { cls := .type "range", data := .fields #[.int 0 tk₁, .int k t, .int 1 (tk₁ + 1)] }) (o := { cls := .type "range_iterator", data := .fields #[rawInt 0, rawInt k, rawInt 1] }) rfl
          simpa using this
        · have hi : i < k.toNat := by
            have := (List.getElem?_eq_some_iff.mp ed).1
            simpa using this
          refine wpAny_mono (Wr.item i s _ _ hi st fun v h' tk hP hst' hkp => ?_) (fun r s₁ hr => hr) fun _ _ q => q
          obtain ⟨t', rfl⟩ := hP
          refine go_plain hst' rfl (by decide) ?_
          have ed' : d = .int ((i : Int)) := by
            rw [List.getElem?_map] at ed
            simp [hi] at ed
            exact ed.symm
          subst ed'
          refine hk _ h' tk hst' (fun b o e hb => hkp b o (fun q => hb (List.mem_singleton.mp q)) e) ⟨[], ?_, fun _ hb => nomatch hb⟩
          have : (0 : Int) + (i : Int) * 1 = i := by omega
          rw [this]; exact .int _ _
        · have hl : ((List.range k.toNat).map fun (j : Nat) => PyData.int (j : Int)).length = k.toNat := by simp
          rw [hl] at st
          exact Wr.done s Q E st fun h' tk hkp => hk h' tk fun b o e hb => hkp b o (fun q => hb (List.mem_singleton.mp q)) e
      rw [hst env] at hb' ⊢
      exact PyProof.Rows.callWith_type rfl (Calls.evalArgs_plain hb')
    · cases eg
  · cases eg
end Mine
end
section -- F16
open PySem PySem.Spec PySem.Calls PySem.W PyProof.Rows
set_option Elab.async false
set_option maxRecDepth 100000
namespace Mine
variable {C : Cx} {τ : List Str} {κ : Str → Option NameKind} {n : Nat}

theorem zip_lookup : ∀ {names : List Str} {vs : List Value}, names.Nodup → vs.length = names.length → ∀ {i : Nat} {x : Str}, names[i]? = some x → (names.zip vs).reverse.lookup x = vs[i]?
  | [], [], _, _, i, x, e => by simp at e
  | [], _ :: _, _, h, _, _, _ => by simp at h
  | _ :: _, [], _, h, _, _, _ => by simp at h
  | a :: names, v :: vs, nd, hl, i, x, e => by
    rw [List.nodup_cons] at nd
    have hl' : vs.length = names.length := by simpa using hl
    have app : ∀ (l : List (Str × Value)) (p : Str × Value), (l ++ [p]).lookup x = (l.lookup x).or ([p].lookup x) := fun l p => by
      induction l with
      | nil => simp
      | cons q r ih =>
        obtain ⟨k, w⟩ := q
        rw [List.cons_append, List.lookup_cons, List.lookup_cons]
        cases x == k with
        | true => rfl
        | false => exact ih
    rw [List.zip_cons_cons, List.reverse_cons, app]
    cases i with
    | zero =>
      simp at e
      subst e
      have none_of : ∀ (l : List (Str × Value)), a ∉ l.map (·.1) → l.lookup a = none := fun l h => by
        induction l with
        | nil => rfl
        | cons q r ih =>
          obtain ⟨k, w⟩ := q
          rw [List.lookup_cons]
          have : (a == k) = false := beq_eq_false_iff_ne.mpr fun e => h (by rw [e]; exact .head _)
          rw [this]
          exact ih fun q => h (.tail _ q)
      rw [none_of]
      · simp [List.lookup_cons]
      · intro q
        rw [List.map_reverse, List.mem_reverse] at q
        obtain ⟨p, hp, e⟩ := List.mem_map.mp q
        obtain ⟨p1, p2⟩ := p
        have := (List.of_mem_zip hp).1
        simp only at e
        exact nd.1 (e ▸ this)
    | succ i =>
      simp only [List.getElem?_cons_succ] at e ⊢
      rw [zip_lookup nd.2 hl' e]
      obtain ⟨li, _⟩ := List.getElem?_eq_some_iff.mp e
      have : i < vs.length := by omega
      simp [this]

theorem rvAll_length {S : List Addr} {h : Heap} : ∀ {vs : List Value} {ds : List DV}, RvAll C S h vs ds → vs.length = ds.length
  | _, _, .nil => rfl
  | _, _, .cons _ rs => by rw [List.length_cons, List.length_cons, rvAll_length rs]
theorem rvAll_get {S : List Addr} {h : Heap} : ∀ {vs : List Value} {ds : List DV}, RvAll C S h vs ds → ∀ {i : Nat} {d : DV}, ds[i]? = some d → ∃ v, vs[i]? = some v ∧ Rv C S h v d
  | _, _, .nil, i, d, e => by simp at e
  | _, _, .cons (v := v) r rs, i, d, e => by
    cases i with
    | zero => simp at e; subst e; exact ⟨v, rfl, r⟩
    | succ i => simp only [List.getElem?_cons_succ] at e; obtain ⟨u, q, ru⟩ := rvAll_get rs e; exact ⟨u, by simpa using q, ru⟩

noncomputable def gArgs (ds : List DV) : G := fun i => ds[i]?
/-- what a def's body gives for its arguments -/
noncomputable def runF (k : Nat) (F : G → List Nat → Option Res) : List DV → Option DV := fun ds =>
  if ds.length = k then (match F (gArgs ds) [] with
    | some (.ret d) => some d
    | _ => none) else none

theorem fs_def {fa : Addr} {fo : Obj} {fd : FuncData} {body : List Stmt} {names : List Str} {F : G → List Nat → Option Res} (hob : C.hb.get? fa = some fo) (hft : fa ≠ C.tab) (hdata : fo.data = .func fd) (hbody : fd.body = .stmts body)
    (hcd : ∀ h, HOk C h → h.CodeRec fd.code fd.qualname) (hbind : ∀ (s : Shared) (vs : List Value), vs.length = names.length → BindsTo s fd ⟨vs, []⟩ (names.zip vs)) (hnd : names.Nodup) (hτ : ∀ (i : Nat) (x : Str), names[i]? = some x → τ[i]? = some x)
    (hcell : ∀ x ∈ fd.scope.names, x.2 ≠ .cell) (hloc : ∀ x ∈ names, fd.scope.names.lookup x = some .local) (hcl : fd.closure = []) (hgl : fd.globals = mainGlobals) (hbl : fd.builtins = builtinsNs)
    (hco : fd.scope.isCoroutine = false) (hgen : fd.scope.isGenerator = false) (hk : fd.scope.kind = .function) (hκ : ∀ x, fd.scope.names.lookup x = κ x) (hF : SS C τ κ n body F) :
    FS C (n + 1) (.ref fa) (runF names.length F) := by
  intro S A s vs ds d Q E ha ok hS rs ef h
  unfold runF at ef
  split at ef
  · rename_i hlen
    split at ef
    · rename_i d' eF
      cases ef
      have hlv : vs.length = names.length := (rvAll_length rs).trans hlen
      refine wpAny_call (codeAny_call_def (by have := ha.depth; omega) (ok.base fa fo hob hft) hdata (C.lim s.heap ok.base) (hcd s.heap ok) hbody (hbind s vs hlv) hcell (fun x hx => hloc x.1 ?_) (fun h₀ hns hk₀ => ?_) hco hgen hk)
      · obtain ⟨x1, x2⟩ := x; exact (List.of_mem_zip hx).1
      · have k₀ : Keep C [] s.heap h₀ := .of_all ok.tab hk₀
        have hL : s.heap.get? s.heap.objs.size = none := get_fresh _
        have hM : Mset [s.heap.objs.size] [] = [s.heap.objs.size] := rfl
        have hcs : (callEnv fd s.heap.objs.size fa).cells = [] := hcl
        have hlow : Above C s.heap.objs.size := above_of ok (Nat.le_refl _)
        have fe : FnS κ (callEnv fd s.heap.objs.size fa) := ⟨⟨hk, hgl, hbl, fun x => hκ x⟩, fun q => nomatch q⟩
        have re : RelS C τ S [s.heap.objs.size] (callEnv fd s.heap.objs.size fa) (gArgs ds) [] h₀ := by
          refine ⟨ok.pure k₀, fun b hb => ?_, fun b hb q => ?_, fun b hb => ?_, fun b hb => ?_, ?_, .head _, fun x c e => ?_, fun x e => ?_, fun x y c _ e => ?_, fun x c e => ?_, ?_⟩
          · obtain ⟨o, e⟩ := hS b hb; exact k₀.live b o e
          · rw [hM] at q
            obtain ⟨o, e⟩ := hS b hb
            rw [List.mem_singleton.mp q, hL] at e; cases e
          · rw [hM] at hb; rw [List.mem_singleton.mp hb]; exact hlow
          · rw [hM] at hb; rw [List.mem_singleton.mp hb]
            obtain ⟨o, es, ep, e, hd, _⟩ := hns
            exact ⟨o, e, .inl ⟨es, ep, hd⟩⟩
          · rw [hM]; exact List.nodup_cons.mpr ⟨List.not_mem_nil, List.nodup_nil⟩
          · rw [hcs] at e; cases e
          · exfalso
            have hmem : ∀ {l : List (Str × NameKind)}, l.lookup x = some .cell → (x, NameKind.cell) ∈ l := fun {l} q => by
              induction l with
              | nil => cases q
              | cons p r ih =>
                obtain ⟨j, b⟩ := p
                rw [List.lookup_cons] at q
                cases qx : x == j with
                | true => rw [qx] at q; cases q; rw [eq_of_beq qx]; exact .head _
                | false => rw [qx] at q; exact .tail _ (ih q)
            exact hcell _ (hmem e) rfl
          · rw [hcs] at e; cases e
          · rw [hcs] at e; cases e
          · refine ⟨_, hns, fun i di ei => ?_⟩
            obtain ⟨v, ev, rv⟩ := rvAll_get rs ei
            have li : i < names.length := by
              obtain ⟨l, _⟩ := List.getElem?_eq_some_iff.mp ei
              omega
            have en : names[i]? = some names[i] := by simp [li]
            refine ⟨names[i], v, hτ i _ en, .inl ⟨hloc _ (List.getElem_mem li), ?_⟩, ?_⟩
            · show (names.zip vs).reverse.lookup names[i] = some v
              rw [zip_lookup hnd hlv en, ev]
            · refine known_rv ?_
              rw [hM]
              have rv' : Rv C (s.heap.objs.size :: S) h₀ v di := Rv.pure k₀ ok.tab (rv.widen hL)
              refine rv'.sub fun b hb => ?_
              rcases List.mem_append.mp hb with hb | hb
              · exact .tail _ hb
              · rw [List.mem_singleton.mp hb]; exact .head _
        have ha' : AOk n (A.deeper (callEnv fd s.heap.objs.size fa)) := ⟨ha.handled, by have := ha.depth; show A.depth + 1 + n < _; omega, by have := ha.units; show A.units + 3 + 100 * n < _; omega⟩
        refine hF _ S _ [] _ _ (gArgs ds) (.ret d) _ _ ha' fe re eF fun fl h' tk own' rr kp _ => ?_
        obtain ⟨v, rfl, ok', rv⟩ := rr
        rw [hM] at kp
        refine h v h' tk ⟨fun b o e _ ht => kp.get b o (hk₀ b o e) (fun q => ?_) ht, fun b o e => kp.live b o (hk₀ b o e), kp.tab⟩ rv
        rw [List.mem_singleton.mp q, hL] at e; cases e
    · cases ef
  · cases ef
end Mine
end
section -- F17
open PySem PySem.Spec PySem.Calls PySem.W PyProof.Rows
set_option Elab.async false
set_option maxRecDepth 100000
namespace Mine
variable {C : Cx} {τ : List Str} {κ : Str → Option NameKind} {n : Nat}

/-- what a turn of a comprehension does behind its target and its tests -/
noncomputable def compRest (elt : Expr) (gens : List Comprehension) (scope : Scope) (pos : Pos) (k : Nat) (acc : Value) (env : Env) (next : Sem Fin) : Sem Fin :=
  match gens[k]? with
  | some g' => do
      let x ← eval g'.iter env
      standAt g'.iter.pos
      let x ← foldedSetIterable g'.iter env x
      let it ← holding [x] (pyIter x)
      let _ ← runOwn (.compStart (.ListComp elt gens scope pos) k it acc env) env
      next
  | none => (do let _ ← call (.builtin "list.append") [acc, ← eval elt env]) >>= fun _ => next

theorem compTurn_gen {elt target iter : Expr} {ifs : List Expr} {gens : List Comprehension} {scope : Scope} {pos : Pos} {k : Nat} {it acc : Value} {env : Env} (hg : gens[k]? = some ⟨target, iter, ifs, 0⟩) (hz : ∀ g, gens[k + 1]? = some g → g.is_async = 0) :
    compTurn (.ListComp elt gens scope pos) k it acc env = (standAt iter.pos >>= fun _ => pyNext it >>= fun r => match r with
      | none => pure (.done .next)
      | some v => letOwnedTupleGo target it v >>= fun _ => assign target env v >>= fun _ =>
        (forIn ifs true fun c r => if r = true then do let ok ← isTrue c env (eval c env); pure (ForInStep.yield ok) else pure (ForInStep.yield r)) >>= fun ok =>
          if ok = true then compRest elt gens scope pos (k + 1) acc env (again (.compLoop (.ListComp elt gens scope pos) k it acc env))
          else again (.compLoop (.ListComp elt gens scope pos) k it acc env)) := by
  unfold compTurn compRest
  simp only [hg]
  cases q : gens[k + 1]? with
  | none => rfl
  | some g =>
    obtain ⟨t', i', f', a'⟩ := g
    have : a' = 0 := hz _ q
    subst this
    rfl
/-- the list that is filled -/
noncomputable def AccIs (S : List Addr) (h : Heap) (D : Addr) (xs : List PyData) : Prop := ∃ vs m as, h.get? D = some (lobj vs m) ∧ RdAll h vs.toList xs as ∧ ∀ b ∈ as, b ∉ S

/-- a list that no name reads is changed -/
theorem RelS.turn {S₀ W : List Addr} {env : Env} {Γ : G} {own : Own} {h h' : Heap} {D : Addr} {vs vs' : Array Value} {m m' : Nat} (r : RelS C τ S₀ W env Γ own h) (hD : D ∈ S₀) (e : h.get? D = some (lobj vs m)) (hs : Heap.SameBut D h h') (e' : h'.get? D = some (lobj vs' m')) (hbD : C.hb.get? D = none) : RelS C τ S₀ W env Γ own h' := by
  have g : ∀ b o, h.get? b = some o → b ≠ D → h'.get? b = some o := fun b o q hb => (hs.2 b hb).trans q
  have t' : C.Tab h' := C.tabKeep h h' r.ok.tab fun b o vs q hd _ => by
    refine g b o q ?_
    rintro rfl
    rw [e] at q; cases q; cases hd
  have gets : Gets C [D] h h' := fun b o q hb _ => g b o q fun z => hb (z ▸ .head _)
  have nf : ∀ b ∈ [D], ∀ o, h.get? b = some o → NotFix o := notFix_of fun b hb => by rw [List.mem_singleton.mp hb]; exact ⟨_, e, .inr (.inr ⟨_, _, rfl⟩)⟩
  have hM : ∀ b ∈ Mset W own, b ≠ D := fun b hb q => r.dis D hD (q ▸ hb)
  have cD : ∀ {y : Str} {c : Addr}, env.cells.lookup y = some c → c ≠ D := fun {y c} hl q => by
    obtain ⟨w, o, q', hd⟩ := r.cells y c hl
    rw [q, e] at q'; cases q'; cases hd
  have ce : ∀ {c : Addr} {w : Option Value} {y : Str}, env.cells.lookup y = some c → h.IsCell c w → h'.IsCell c w := fun {c w y} hl ⟨o, q, hd⟩ => ⟨o, g c o q (cD hl), hd⟩
  obtain ⟨mm, hn, hv⟩ := r.loc
  have hsub : ∀ b ∈ [D], b ∈ S₀ ++ Mset W own := fun b hb => by rw [List.mem_singleton.mp hb]; exact List.mem_append_left _ hD
  refine ⟨⟨fun b o q ht => g b o (r.ok.base b o q ht) (fun z => by rw [z, hbD] at q; cases q), t'⟩, fun b hb => ?_, r.dis, r.low, fun b hb => ?_, r.nd, r.wl, r.wc, r.ce, r.cnd, fun x c q => ?_, mm, hn.at' fun o q => g _ o q (hM _ r.frame_in), fun i d q => ?_⟩
  · by_cases hb' : b = D
    · subst hb'; exact ⟨_, e'⟩
    · obtain ⟨o, q⟩ := r.lt₀ b hb; exact ⟨o, g b o q hb'⟩
  · obtain ⟨o, q, mu⟩ := r.mt b hb; exact ⟨o, g b o q (hM b hb), mu⟩
  · obtain ⟨v, hv⟩ := r.cells x c q; exact ⟨v, ce q hv⟩
  · obtain ⟨x, v, ex, a, kn⟩ := hv i d q
    refine ⟨x, v, ex, a.keep' fun c w hl hcl => ce hl hcl, ?_⟩
    cases z : own.lookup i with
    | none => rw [z] at kn; exact Rv.keep (C := C) gets r.ok.tab nf hsub kn
    | some c => rw [z] at kn; exact ⟨kn.1, kn.2.keep gets r.ok.tab nf hsub fun x => hM c (own_in (lookup_mem z)) (List.mem_singleton.mp x)⟩

theorem AccIs.gets {S : List Addr} {h h' : Heap} {D : Addr} {xs : List PyData} {M : List Addr} (a : AccIs S h D xs) (g : Gets C M h h') (t : C.Tab h) (nf : ∀ b ∈ M, ∀ o, h.get? b = some o → NotFix o) (hsub : ∀ b ∈ M, b ∈ S) (hD : D ∉ M) : AccIs S h' D xs := by
  obtain ⟨vs, m, as, e, r, hs⟩ := a
  exact ⟨vs, m, as, g D _ e hD (tab_ne t e fun _ q => nomatch q), rdAll_keep g t nf r (fun b hb q => hs b hb (hsub b q)), hs⟩

noncomputable def CI (C : Cx) (τ : List Str) (κ : Str → Option NameKind) (n : Nat) (elt : Expr) (gens : List Comprehension) (scope : Scope) (pos : Pos) (k : Nat) (f : G → Option (List PyData)) : Prop :=
  ∀ (env : Env) (S₀ W : List Addr) (A : Around) (s : Shared) (Γ : G) (D : Addr) (xs ys : List PyData) (next : Sem Fin) (Q : Fin → Shared → Prop) (E : Value → Shared → Prop),
    AOk n A → FnEnv κ env → RelS C τ S₀ W env Γ [] s.heap → D ∈ S₀ → AccIs (S₀ ++ Mset W []) s.heap D xs → C.hb.get? D = none → f Γ = some ys → xs.length + ys.length ≤ 1000 →
    (∀ h' tk, RelS C τ S₀ W env Γ [] h' → AccIs (S₀ ++ Mset W []) h' D (xs ++ ys) → Keep C (D :: W) s.heap h' → wpAny (model C.prog C.w) A next Q E { s with heap := h', toks := tk }) →
    wpAny (model C.prog C.w) A (compRest elt gens scope pos k (.ref D) env next) Q E s

noncomputable def cEmit (f : G → Option DV) : G → Option (List PyData) := fun Γ => match f Γ with
  | some (.p d) => some [d]
  | _ => none
theorem ci_emit {elt : Expr} {gens : List Comprehension} {scope : Scope} {pos : Pos} {k : Nat} {f : G → Option DV} (hk : gens[k]? = none) (hf : SE C τ κ n elt f) : CI C τ κ n elt gens scope pos k (cEmit f) := by
  intro env S₀ W A s Γ D xs ys next Q E ha fe re hD acc hbD ef hz h
  unfold cEmit at ef
  split at ef
  · rename_i d ed
    cases ef
    unfold compRest
    rw [hk]
    refine wpAny_bind (wpAny_bind (hf env _ A s Γ _ _ E ha fe re.rel ed fun v h₁ tk₁ k₁ rv => ?_))
    have re₁ := re.pure k₁
    have acc₁ := acc.gets k₁.get re.ok.tab (fun _ hb => nomatch hb) (fun _ hb => nomatch hb) (fun hb => nomatch hb)
    obtain ⟨vs, m, as, e, r, hs⟩ := acc₁
    refine wpAny_bind (wpAny_list_append_plain ⟨m, e⟩ (fun h₂ hp₂ hsb => wpAny_pure ?_) (by rw [← Array.length_toList, rdAll_length r]; exact size_small (by omega)))
    obtain ⟨m2, e2⟩ := hp₂
    have re₂ := re₁.turn hD e hsb e2 hbD
    obtain ⟨as1, rd1, hs1⟩ := rv
    have gets : Gets C [D] h₁ h₂ := fun b o q hb _ => (hsb.2 b fun z => hb (z ▸ .head _)).trans q
    have nf : ∀ b ∈ [D], ∀ o, h₁.get? b = some o → NotFix o := notFix_of fun b hb => by rw [List.mem_singleton.mp hb]; exact ⟨_, e, .inr (.inr ⟨_, _, rfl⟩)⟩
    have eW : S₀ ++ Mset W [] = S₀ ++ W := by unfold Mset; simp
    have dS : D ∈ S₀ ++ Mset W [] := List.mem_append_left _ hD
    have off : ∀ {l : List Addr}, (∀ b ∈ l, b ∉ S₀ ++ Mset W []) → ∀ b ∈ l, b ∉ [D] := fun {l} hl b hb q => hl b hb (by rw [List.mem_singleton.mp q]; exact dS)
    rw [← eW] at hs1
    refine h h₂ _ re₂ ⟨_, m2, _, e2, rdAll_snoc (rdAll_keep gets re₁.ok.tab nf r (off hs)) (rd_keep gets re₁.ok.tab nf rd1 (off hs1)), fun b hb => ?_⟩ ⟨fun b o q hb ht => ?_, fun b o q => ?_, re₂.ok.tab⟩
    · rcases List.mem_append.mp hb with hb | hb
      · exact hs b hb
      · rw [List.append_nil] at hb; exact hs1 b hb
    · exact (hsb.2 b fun z => hb (z ▸ .head _)).trans (k₁.get b o q (fun z => nomatch z) ht)
    · by_cases hb' : b = D
      · subst hb'; exact ⟨_, e2⟩
      · obtain ⟨o', q'⟩ := k₁.live b o q; exact ⟨o', (hsb.2 b hb').trans q'⟩
  · cases ef
end Mine
end
section -- F18
open PySem PySem.Spec PySem.Calls PySem.W PyProof.Rows
set_option Elab.async false
set_option maxRecDepth 100000
namespace Mine
variable {C : Cx} {τ : List Str} {κ : Str → Option NameKind} {n : Nat}

theorem compStart_k {A : Around} {R : Result → Shared → Prop} {s : Shared} {elt target iter : Expr} {ifs : List Expr} {gens : List Comprehension} {scope : Scope} {pos : Pos} {k : Nat} {it acc : Value} {env : Env} (hg : gens[k]? = some ⟨target, iter, ifs, 0⟩)
    (h0 : codeAny (model C.prog C.w) A (.compLoop (.ListComp elt gens scope pos) k it acc env) R s)
    (h : wpAny (model C.prog C.w) A (pyIter it) (fun it' s' => codeAny (model C.prog C.w) A (.compLoop (.ListComp elt gens scope pos) k it' acc env) R s')
      (notedBy (model C.prog C.w) A env fun x s' => R (.error x) s') s) :
    codeAny (model C.prog C.w) A (.compStart (.ListComp elt gens scope pos) k it acc env) R s := by
  refine codeAny_of_tree ?_
  show wpAny _ _ ((compStart (.ListComp elt gens scope pos) k it acc env).onRaise (fun x => do noteFrame x env; standAt theWindowsPlace)) _ _ s
  refine wpAny_notedAt ?_
  unfold compStart
  have hc : (clausesOf (.ListComp elt gens scope pos))[k]? = some ⟨target, iter, ifs, 0⟩ := hg
  simp only [hc]
  show wpAny _ _ (ask >>= _) _ _ s
  refine wpAny_bind (wpAny_askSetting (wpAny_ite ?_))
  split
  · first
      | exact wpAny_bind (wpAny_pure (wpAny_pure (And.intro rfl h0)))
      | exact wpAny_pure (And.intro rfl h0)
  · first
      | exact wpAny_bind (wpAny_rule (wpAny_bind (wpAny_standAt (wpAny_bind (wpAny_mono h (fun it' s' h' => wpAny_pure (And.intro rfl h')) fun _ _ x => x)))))
      | (refine wpAny_bind (wpAny_rule ?_); show wpAny _ _ (standAt iter.pos >>= _) _ _ s; exact wpAny_bind (wpAny_standAt (wpAny_bind (wpAny_mono h (fun it' s' h' => wpAny_pure (And.intro rfl h')) fun _ _ x => x))))

/-- names forgotten -/
theorem RelS.less {S₀ W : List Addr} {env : Env} {Γ Γ' : G} {own : Own} {h : Heap} (r : RelS C τ S₀ W env Γ' own h) (hl : ∀ i d, Γ i = some d → Γ' i = some d) : RelS C τ S₀ W env Γ own h :=
  ⟨r.ok, r.lt₀, r.dis, r.low, r.mt, r.nd, r.wl, r.wc, r.ce, r.cnd, r.cells, by obtain ⟨m, hn, hv⟩ := r.loc; exact ⟨m, hn, fun i d e => hv i d (hl i d e)⟩⟩

/-- the tests of a clause -/
noncomputable def TS (C : Cx) (τ : List Str) (κ : Str → Option NameKind) (n : Nat) (ifs : List Expr) (ft : G → Option Bool) : Prop :=
  ∀ (env : Env) (S : List Addr) (A : Around) (s : Shared) (Γ : G) (b : Bool) (Q : Bool → Shared → Prop) (E : Value → Shared → Prop),
    AOk n A → FnEnv κ env → Rel C τ S env Γ s.heap → ft Γ = some b →
    (∀ h' tk, Keep C [] s.heap h' → Q b { s with heap := h', toks := tk }) →
    wpAny (model C.prog C.w) A (forIn ifs true fun c r => if r = true then do let ok ← isTrue c env (eval c env); pure (ForInStep.yield ok) else pure (ForInStep.yield r)) Q E s
noncomputable def tTrue : G → Option Bool := fun _ => some true
theorem ts_nil : TS C τ κ n [] tTrue := by
  intro env S A s Γ b Q E ha fe re et h
  cases et
  exact wpAny_tests_nil (h s.heap s.toks (.refl re.ok.tab))
theorem ts_one {c : Expr} {ft : G → Option Bool} (ht : SB C τ κ n c ft) : TS C τ κ n [c] ft := by
  intro env S A s Γ b Q E ha fe re et h
  exact wpAny_tests_one (ht env S A s Γ b Q E ha fe re et h)

noncomputable def compS (B : PyData → G → List Nat → Option (G × List Nat)) (vs : List Nat) (ft : G → Option Bool) (f : G → Option (List PyData)) (Γ : G) : List PyData → Option (List PyData)
  | [] => some []
  | d :: ds => match B d Γ [] with
    | some (Γ', O') => match ft Γ' with
      | some true => match f Γ' with
        | some ys => match compS B vs ft f Γ ds with
          | some zs => some (ys ++ zs)
          | none => none
        | none => none
      | some false => compS B vs ft f Γ ds
      | none => none
    | none => none
/-- the target only sets the names in vs -/
noncomputable def Sets (B : PyData → G → List Nat → Option (G × List Nat)) (vs : List Nat) : Prop :=
  ∀ d Γ O Γ' O', B d Γ O = some (Γ', O') → ∀ i, i ∉ vs → Γ' i = Γ i
theorem sets_name {i : Nat} : Sets (bName i) [i] := by
  intro d Γ O Γ' O' e j hj
  cases e
  unfold gset
  exact if_neg fun q : j = i => hj (q ▸ .head _)
theorem sets_pair {i j : Nat} : Sets (bPair i j) [i, j] := by
  intro d Γ O Γ' O' e k hk
  unfold bPair at e
  split at e
  · cases e
    unfold gset
    rw [if_neg fun q : k = j => hk (q ▸ .tail _ (.head _)), if_neg fun q : k = i => hk (q ▸ .head _)]
  · cases e

theorem eW (S₀ W : List Addr) : S₀ ++ Mset W [] = S₀ ++ W := by unfold Mset; simp

mutual
theorem rd_lists {h : Heap} {v : Value} {d : PyData} {as : List Addr} : Rd h v d as → ∀ b ∈ as, ∃ vs m, h.get? b = some (lobj vs m)
  | .none, _, hb => nomatch hb
  | .bool _, _, hb => nomatch hb
  | .int _ _, _, hb => nomatch hb
  | .str _ _, _, hb => nomatch hb
  | .list e r, b, hb => by
    rcases List.mem_cons.mp hb with rfl | hb
    · exact ⟨_, _, e⟩
    · exact rdAll_lists r b hb
  | .tuple _ r, b, hb => rdAll_lists r b hb
theorem rdAll_lists {h : Heap} {vs : List Value} {ds : List PyData} {as : List Addr} : RdAll h vs ds as → ∀ b ∈ as, ∃ vs m, h.get? b = some (lobj vs m)
  | .nil, _, hb => nomatch hb
  | .cons r rs, b, hb => by
    rcases List.mem_append.mp hb with hb | hb
    · exact rd_lists r b hb
    · exact rdAll_lists rs b hb
end

theorem comp_loop {elt target iter : Expr} {ifs : List Expr} {gens : List Comprehension} {scope : Scope} {pos : Pos} {k : Nat} {B : PyData → G → List Nat → Option (G × List Nat)} {vs : List Nat} {ft : G → Option Bool} {f : G → Option (List PyData)}
    (hg : gens[k]? = some ⟨target, iter, ifs, 0⟩) (hz : ∀ g, gens[k + 1]? = some g → g.is_async = 0)
    (htg : TG C τ κ n target B) (hsets : Sets B vs) (hts : TS C τ κ n ifs ft) (hci : CI C τ κ n elt gens scope pos (k + 1) f)
    {env : Env} {S₀ W : List Addr} {A : Around} {s : Shared} {Γ : G} {D I : Addr} {xs ys : List PyData} {R : Result → Shared → Prop} {fp : List Addr} {ds : List PyData} {St : Nat → Heap → Prop} {h₁ : Heap} {S₁ M₁ : List Addr}
    (ha : AOk n A) (fe : FnEnv κ env) (re : RelS C τ (I :: S₀) W env Γ [] s.heap) (hD : D ∈ S₀) (acc : AccIs ((I :: S₀) ++ Mset W []) s.heap D xs) (hbD : C.hb.get? D = none) (hbI : C.hb.get? I = none) (hn0 : I ∉ S₀)
    (hΓ : ∀ v ∈ vs, Γ v = none) (ef : compS B vs ft f Γ ds = some ys) (hlen : xs.length + ys.length ≤ 1000)
    (Wi : Wk C A target I fp ds St h₁ S₁ M₁) (st : St 0 s.heap) (g₁ : Gets C (I :: M₁) h₁ s.heap) (hfp : ∀ b ∈ fp, b ∉ D :: W ∧ b ≠ C.tab)
    (hoff : ∀ b o, h₁.get? b = some o → b ∉ I :: M₁ → b ∉ D :: W) (hval : ∀ b o, h₁.get? b = some o → b ∉ S₁ → b ∈ (I :: S₀) ++ Mset W [] → ∃ x, env.cells.lookup x = some b)
    (h : ∀ h' tk, RelS C τ S₀ W env Γ [] h' → AccIs (S₀ ++ Mset W []) h' D (xs ++ ys) → (∀ b o, s.heap.get? b = some o → b ∉ I :: D :: W → b ≠ C.tab → h'.get? b = some o) → (∀ b o, s.heap.get? b = some o → b ≠ I → ∃ o', h'.get? b = some o') → R (.ok .next) { s with heap := h', toks := tk }) :
    codeAny (model C.prog C.w) A (.compLoop (.ListComp elt gens scope pos) k (.ref I) (.ref D) env) R s := by
  have tI : I ≠ C.tab := fun q => by
    obtain ⟨o', vs', e', _, hc⟩ := C.tabGet s.heap re.ok.tab
    obtain ⟨o, T, e, c, _, nc, _⟩ := Wi.cls 0 s.heap st
    rw [← q, e] at e'; cases e'
    rw [c] at hc; cases hc
  obtain ⟨Inv, hInv⟩ : ∃ Inv : Nat → Shared → Prop, ∀ m s', Inv m s' ↔ ∃ h' tk' i zs ws, s' = { s with heap := h', toks := tk' } ∧ RelS C τ (I :: S₀) W env Γ [] h' ∧ AccIs ((I :: S₀) ++ Mset W []) h' D (xs ++ zs) ∧ St i h' ∧ i ≤ ds.length ∧ m = ds.length + 1 - i ∧
      compS B vs ft f Γ (ds.drop i) = some ws ∧ ys = zs ++ ws ∧ Gets C (I :: M₁) h₁ h' ∧ (∀ b o, s.heap.get? b = some o → b ∉ I :: D :: W → b ≠ C.tab → h'.get? b = some o) ∧ (∀ b o, s.heap.get? b = some o → ∃ o', h'.get? b = some o') := ⟨_, fun _ _ => Iff.rfl⟩
  refine codeAny_loop rfl Inv ?_ (ds.length + 1)
    ((hInv _ _).mpr ⟨s.heap, s.toks, 0, [], ys, rfl, re, by rw [List.append_nil]; exact acc, st, Nat.zero_le _, rfl, ef, rfl, g₁, fun _ _ e _ _ => e, fun b o e => ⟨o, e⟩⟩)
  intro m s' hs'
  obtain ⟨h', tk', i, zs, ws, rfl, re', acc', st', hi, rfl, ef', eys, gt, kp, lv⟩ := (hInv _ _).mp hs'
  show wpAny _ A ((compTurn (.ListComp elt gens scope pos) k (.ref I) (.ref D) env).onRaise (fun x => do noteFrame x env; theTreesLotGoes x)) _ _ _
  refine wpAny_noted ?_
  rw [compTurn_gen hg hz]
  generalize notedBy (model C.prog C.w) A env (fun e s' => R (.error e) s') = E
  suffices key : ∀ P : Fin → Shared → Prop, (∀ s', R (.ok .next) s' → P (.done .next) s') → (∀ s', (∃ m, m < ds.length + 1 - i ∧ Inv m s') → P (.again (.compLoop (.ListComp elt gens scope pos) k (.ref I) (.ref D) env)) s') →
      wpAny (model C.prog C.w) A (standAt iter.pos >>= fun _ => pyNext (.ref I) >>= fun r => match r with
      | none => pure (.done .next)
      | some v => letOwnedTupleGo target (.ref I) v >>= fun _ => assign target env v >>= fun _ =>
        (forIn ifs true fun c r => if r = true then do let ok ← isTrue c env (eval c env); pure (ForInStep.yield ok) else pure (ForInStep.yield r)) >>= fun ok =>
          if ok = true then compRest elt gens scope pos (k + 1) (.ref D) env (again (.compLoop (.ListComp elt gens scope pos) k (.ref I) (.ref D) env))
          else again (.compLoop (.ListComp elt gens scope pos) k (.ref I) (.ref D) env)) P E { s with heap := h', toks := tk' } from key _ (fun _ x => x) fun _ x => ⟨rfl, x⟩
  intro P hdone hagain
  refine wpAny_bind (wpAny_standAt (wpAny_bind ?_))
  by_cases hlt : i < ds.length
  · have edi : ds[i]? = some ds[i] := by simp [hlt]
    refine wpAny_mono (Wi.item i _ ds[i] (fun v s₂ => wpAny (model C.prog C.w) A (assign target env v >>= fun _ =>
        (forIn ifs true fun c r => if r = true then do let ok ← isTrue c env (eval c env); pure (ForInStep.yield ok) else pure (ForInStep.yield r)) >>= fun ok =>
          if ok = true then compRest elt gens scope pos (k + 1) (.ref D) env (again (.compLoop (.ListComp elt gens scope pos) k (.ref I) (.ref D) env))
          else again (.compLoop (.ListComp elt gens scope pos) k (.ref I) (.ref D) env)) P E s₂) E edi st' gt ?_) (fun r' s₁ hr => ?_) fun _ _ x => x
    · intro v h₃ tk₃ st₃ g₃ hv
      obtain ⟨_, re₃⟩ := re'.iter g₃ (Wi.cls i h' st') hbI hn0
      obtain ⟨o3, T3, e3, c3⟩ := Wi.cls (i + 1) h₃ st₃
      have re₃ := re₃ ⟨o3, e3⟩
      have lv₃ : ∀ b o, h'.get? b = some o → ∃ o', h₃.get? b = some o' := fun b o e => by
        by_cases hb : b = I
        · subst hb; exact ⟨o3, e3⟩
        · exact ⟨o, g₃ b o e hb⟩
      have gI : Gets C [I] h' h₃ := fun b o e hb _ => g₃ b o e fun q => hb (q ▸ .head _)
      have nfI : ∀ b ∈ [I], ∀ o, h'.get? b = some o → NotFix o := fun b hb o e vs m q => by
        obtain ⟨oI, T, eI, cI, nt, _⟩ := Wi.cls i h' st'
        rw [List.mem_singleton.mp hb, eI] at e; cases e
        rw [q] at cI; exact nt (Value.type.inj cI).symm
      have dI : D ≠ I := fun q => hn0 (q ▸ hD)
      have acc₃ := acc'.gets gI re'.ok.tab nfI (fun b hb => by rw [List.mem_singleton.mp hb]; exact .head _) (fun q => dI (List.mem_singleton.mp q))
      have gt₃ : Gets C (I :: M₁) h₁ h₃ := fun b o e hb ht => g₃ b o (gt b o e hb ht) fun q => hb (q ▸ .head _)
      have rvv : Rv C ((I :: S₀) ++ Mset W []) h₃ v (.p ds[i]) := by
        obtain ⟨as, rd, hs⟩ := hv
        refine ⟨as, rd, fun b hb z => ?_⟩
        obtain ⟨⟨o, e⟩, q⟩ := hs b hb
        obtain ⟨x, ex⟩ := hval b o e q z
        obtain ⟨w, oc, ec, dc⟩ := re₃.cells x b ex
        obtain ⟨us, mm, el⟩ := rd_lists rd b hb
        rw [el] at ec; cases ec; cases dc
      rw [List.drop_eq_getElem_cons hlt] at ef'
      unfold compS at ef'
      split at ef'
      · rename_i Γ₄ O₄ eB
        refine wpAny_bind (htg env (I :: S₀) W [] A _ Γ Γ₄ O₄ v ds[i] _ _ ha fe re₃ rvv eB fun h₄ tk₄ own₄ eo₄ so₄ re₄ kp₄ => ?_)
        have eown : own₄ = [] := List.eq_nil_iff_forall_not_mem.mpr fun p hp => nomatch so₄ p hp
        subst eown
        have back : ∀ j d, Γ j = some d → Γ₄ j = some d := fun j d e => by
          rw [hsets _ _ _ _ _ eB j (fun q => by rw [hΓ j q] at e; cases e)]; exact e
        have nf₄ := notFix_of re₃.mt
        have hDM : D ∉ Mset W [] := re₃.dis D (.tail _ hD)
        have hIM : I ∉ Mset W [] := re₃.dis I (.head _)
        have mW : ∀ b, b ∈ Mset W [] ↔ b ∈ W := fun b => by unfold Mset; simp
        have acc₄ := acc₃.gets kp₄.get re₃.ok.tab nf₄ (fun b hb => List.mem_append_right _ hb) hDM
        have offW : ∀ b, b ∉ D :: W → b ∉ Mset W [] := fun b hb q => hb (.tail _ ((mW b).mp q))
        have iDW : I ∉ D :: W := fun q => by
          rcases List.mem_cons.mp q with q | q
          · exact dI q.symm
          · exact hIM ((mW I).mpr q)
        -- from here on: what a heap must keep to go round again
        have round : ∀ (h₅ : Heap) (tk₅ : Nat) (zs' ws' : List PyData), RelS C τ (I :: S₀) W env Γ₄ [] h₅ → AccIs ((I :: S₀) ++ Mset W []) h₅ D (xs ++ zs') → Keep C (D :: W) h₄ h₅ → compS B vs ft f Γ (ds.drop (i + 1)) = some ws' → ys = zs' ++ ws' →
            wpAny (model C.prog C.w) A (again (.compLoop (.ListComp elt gens scope pos) k (.ref I) (.ref D) env)) P E { s with heap := h₅, toks := tk₅ } := by
          intro h₅ tk₅ zs' ws' re₅ acc₅ kp₅ ec ey
          have keep : ∀ b o, h₃.get? b = some o → b ∉ D :: W → b ≠ C.tab → h₅.get? b = some o := fun b o e hb ht => kp₅.get b o (kp₄.get b o e (offW b hb) ht) hb ht
          refine wpAny_pure (hagain _ ⟨ds.length + 1 - (i + 1), by omega, (hInv _ _).mpr ⟨h₅, tk₅, i + 1, zs', ws', rfl, re₅.less back, acc₅, ?_, hlt, rfl, ec, ey, ?_, ?_, ?_⟩⟩)
          · exact Wi.frame _ _ _ st₃ fun b hb o e => by
              rcases hb with rfl | hb
              · exact keep b o e iDW tI
              · exact keep b o e (hfp b hb).1 (hfp b hb).2
          · exact fun b o e hb ht => keep b o (gt₃ b o e hb ht) (hoff b o e hb) ht
          · exact fun b o e hb ht => keep b o (g₃ b o (kp b o e hb ht) fun q => hb (q ▸ .head _)) (fun q => hb (.tail _ q)) ht
          · intro b o e
            obtain ⟨o1, e1⟩ := lv b o e
            obtain ⟨o2, e2⟩ := lv₃ b o1 e1
            obtain ⟨o4, e4⟩ := kp₄.live b o2 e2
            exact kp₅.live b o4 e4
        split at ef'
        · rename_i et
          refine wpAny_bind (hts env _ A _ Γ₄ true _ E ha fe re₄.rel et fun h₅ tk₅ k₅ => ?_)
          have re₅ := re₄.pure k₅
          have acc₅ := acc₄.gets k₅.get re₄.ok.tab (fun _ hb => nomatch hb) (fun _ hb => nomatch hb) (fun hb => nomatch hb)
          rw [if_pos rfl]
          split at ef'
          · rename_i us eu
            split at ef'
            · rename_i ws' ew
              cases ef'
              refine hci env (I :: S₀) W A _ Γ₄ D (xs ++ zs) us _ _ E ha fe re₅ (.tail _ hD) acc₅ hbD eu (by rw [eys] at hlen; simp at hlen ⊢; omega) fun h₆ tk₆ re₆ acc₆ k₆ => ?_
              exact round h₆ tk₆ (zs ++ us) ws' re₆ (by rw [← List.append_assoc]; exact acc₆) (k₅.nil.trans k₆) ew (by rw [eys, List.append_assoc])
            · cases ef'
          · cases ef'
        · rename_i et
          refine wpAny_bind (hts env _ A _ Γ₄ false _ E ha fe re₄.rel et fun h₅ tk₅ k₅ => ?_)
          have re₅ := re₄.pure k₅
          have acc₅ := acc₄.gets k₅.get re₄.ok.tab (fun _ hb => nomatch hb) (fun _ hb => nomatch hb) (fun hb => nomatch hb)
          rw [if_neg (by decide)]
          exact round h₅ tk₅ zs ws re₅ acc₅ k₅.nil ef' eys
        · cases ef'
      · cases ef'
    · cases r' with
      | none => exact hr.elim
      | some v => exact wpAny_bind hr
  · have hin : i = ds.length := by omega
    subst hin
    refine Wi.done _ _ _ st' fun h₃ tk₃ g₃ => wpAny_pure (hdone _ ?_)
    obtain ⟨re₃, _⟩ := re'.iter g₃ (Wi.cls _ h' st') hbI hn0
    rw [List.drop_length] at ef'
    cases ef'
    rw [List.append_nil] at eys
    subst eys
    have dI : D ≠ I := fun q => hn0 (q ▸ hD)
    have gI : Gets C [I] h' h₃ := fun b o e hb _ => g₃ b o e fun q => hb (q ▸ .head _)
    have nfI : ∀ b ∈ [I], ∀ o, h'.get? b = some o → NotFix o := fun b hb o e vs m q => by
      obtain ⟨oI, T, eI, cI, nt, _⟩ := Wi.cls _ h' st'
      rw [List.mem_singleton.mp hb, eI] at e; cases e
      rw [q] at cI; exact nt (Value.type.inj cI).symm
    obtain ⟨us, mm, as, e, r, hs⟩ := acc'.gets gI re'.ok.tab nfI (fun b hb => by rw [List.mem_singleton.mp hb]; exact .head _) (fun q => dI (List.mem_singleton.mp q))
    refine h h₃ tk₃ re₃ ⟨us, mm, as, e, r, fun b hb q => hs b hb (.tail _ q)⟩ (fun b o e hb ht => g₃ b o (kp b o e hb ht) fun q => hb (q ▸ .head _)) fun b o e hb => ?_
    obtain ⟨o', e'⟩ := lv b o e
    exact ⟨o', g₃ b o' e' hb⟩
end Mine
end
section -- F19
open PySem PySem.Spec PySem.Calls PySem.W PyProof.Rows
set_option Elab.async false
set_option maxRecDepth 100000
namespace Mine
variable {C : Cx} {τ : List Str} {κ : Str → Option NameKind} {n : Nat}

noncomputable def cFor (g : G → List Nat → Option (List PyData × List Nat)) (B : PyData → G → List Nat → Option (G × List Nat)) (vs : List Nat) (ft : G → Option Bool) (f : G → Option (List PyData)) : G → Option (List PyData) := fun Γ =>
  if vs.all fun v => (Γ v).isNone then match g Γ [] with
    | some (ds, _) => compS B vs ft f Γ ds
    | none => none
  else none

theorem ci_for {elt target iter : Expr} {ifs : List Expr} {gens : List Comprehension} {scope : Scope} {pos : Pos} {k : Nat} {g : G → List Nat → Option (List PyData × List Nat)} {B : PyData → G → List Nat → Option (G × List Nat)} {vs : List Nat} {ft : G → Option Bool} {f : G → Option (List PyData)}
    (hg : gens[k]? = some ⟨target, iter, ifs, 0⟩) (hz : ∀ g, gens[k + 1]? = some g → g.is_async = 0)
    (hsrc : Src C τ κ n target iter g) (htg : TG C τ κ n target B) (hsets : Sets B vs) (hts : TS C τ κ n ifs ft) (hci : CI C τ κ n elt gens scope pos (k + 1) f) (hs : ∀ env x, foldedSetIterable iter env x = pure x) :
    CI C τ κ n elt gens scope pos k (cFor g B vs ft f) := by
  intro env S₀ W A s Γ D xs ys next Q E ha fe re hD acc hbD ef hlen h
  unfold cFor at ef
  split at ef
  · rename_i hΓ
    split at ef
    · rename_i ds O' eg
      have hΓ : ∀ v ∈ vs, Γ v = none := fun v hv => by simpa using List.all_eq_true.mp hΓ v hv
      unfold compRest
      simp only [hg]
      refine wpAny_bind (wpAny_mono (hsrc env S₀ W [] A s Γ ds O' (fun it s₂ => wpAny (model C.prog C.w) A (runOwn (.compStart (.ListComp elt gens scope pos) k it (.ref D) env) env) (fun _ s₃ => wpAny (model C.prog C.w) A next Q E s₃) E s₂) E ha fe re eg ?_) (fun xv s₁ hx => ?_) fun _ _ x => x)
      · intro h₁ h₂ tk own₁ I fp St eo ho k₁ re₁ k₂ hI st₀ hfp Wi
        have eown : own₁ = [] := ho.elim id id
        subst eown
        have accD : ∃ us m, h₁.get? D = some (lobj us m) := by
          obtain ⟨us, m, as, e, r, hs'⟩ := acc.gets k₁.get re.ok.tab (fun _ hb => nomatch hb) (fun _ hb => nomatch hb) (fun hb => nomatch hb)
          exact ⟨us, m, e⟩
        have Wi := Wi [D] fun b hb => by
          rw [List.mem_singleton.mp hb]
          refine ⟨hD, fun o e => ?_⟩
          obtain ⟨us, m, e'⟩ := accD
          rw [e'] at e; cases e
          exact Mut.notFix (.inr (.inr ⟨_, _, rfl⟩))
        have hbI := hb_none re₁.ok hI
        have hn0 : I ∉ S₀ := fun q => by obtain ⟨o, e⟩ := re₁.lt₀ I q; rw [hI] at e; cases e
        obtain ⟨oI, TI, eI, cI⟩ := Wi.cls 0 h₂ st₀
        have re₂ := re₁.guard k₂ hI ⟨oI, eI⟩
        have k₁₂ := k₁.trans k₂
        have hDM : D ∉ Mset W [] := re.dis D hD
        have mW : ∀ b, b ∈ Mset W [] ↔ b ∈ W := fun b => by unfold Mset; simp
        have acc₂ : AccIs ((I :: S₀) ++ Mset W []) h₂ D xs := by
          obtain ⟨us, m, as, e, r, hs'⟩ := acc.gets k₁.get re.ok.tab (fun _ hb => nomatch hb) (fun _ hb => nomatch hb) (fun hb => nomatch hb)
          have r₂ : AccIs (S₀ ++ Mset W []) h₂ D xs := AccIs.gets ⟨us, m, as, e, r, hs'⟩ k₂.get re₁.ok.tab (fun _ hb => nomatch hb) (fun _ hb => nomatch hb) (fun hb => nomatch hb)
          have e2 : h₂.get? D = some (lobj us m) := k₂.get D _ e (fun q => nomatch q) (tab_ne re₁.ok.tab e fun _ q => nomatch q)
          refine ⟨us, m, as, e2, rdAll_keep k₂.get re₁.ok.tab (fun _ hb => nomatch hb) r (fun _ _ q => nomatch q), fun b hb q => ?_⟩
          rcases List.mem_cons.mp q with rfl | q
          · obtain ⟨o, e⟩ := rdAll_live r _ hb; rw [hI] at e; cases e
          · exact hs' b hb q
        have loop : ∀ s₂ : Shared, s₂ = { s with heap := h₂, toks := tk } → codeAny (model C.prog C.w) A (.compLoop (.ListComp elt gens scope pos) k (.ref I) (.ref D) env) (fun r s' => match r with | .ok _ => wpAny (model C.prog C.w) A next Q E s' | .error e => cameBackBy (model C.prog C.w) A env E e s') s₂ := by
          rintro s₂ rfl
          refine comp_loop hg hz htg hsets hts hci ha fe re₂ hD acc₂ hbD hbI hn0 hΓ ef hlen Wi st₀ (fun b o e _ ht => k₂.get b o e (fun q => nomatch q) ht) (fun b hb => ⟨fun q => ?_, (hfp b hb).2.2⟩) (fun b o e hb q => ?_) (fun b o e hb q => ?_) fun h' tk' re' acc' kp lv => ?_
          · rcases List.mem_cons.mp q with rfl | q
            · exact (hfp _ hb).2.1.2 _ hD accD rfl
            · exact (hfp b hb).2.1.1 ((mW b).mpr q)
          · rcases List.mem_cons.mp q with rfl | q
            · exact hb (.tail _ (.head _))
            · exact hb (.tail _ (.tail _ ((mW b).mpr q)))
          · rcases List.mem_cons.mp q with rfl | q
            · rw [hI] at e; cases e
            · exact absurd q hb
          · refine h h' tk' re' acc' ⟨fun b o e hb ht => kp b o (k₁₂.get b o e (fun q => nomatch q) ht) (fun q => ?_) ht, fun b o e => ?_, re'.ok.tab⟩
            · rcases List.mem_cons.mp q with rfl | q
              · obtain ⟨o', e'⟩ := k₁.live b o e; rw [hI] at e'; cases e'
              · exact hb q
            · obtain ⟨o', e'⟩ := k₁₂.live b o e
              refine lv b o' e' ?_
              rintro rfl
              obtain ⟨o', e'⟩ := k₁.live b o e; rw [hI] at e'; cases e'
        exact wpAny_runOwn (compStart_k hg (loop _ rfl) (Wi.self 0 _ _ _ st₀ (loop _ rfl)))
      · refine wpAny_bind (wpAny_standAt (wpAny_bind (wpAny_of_eq (hs env xv) (wpAny_bind (wpAny_holding (wpAny_mono hx (fun it s₂ h₂ => wpAny_bind h₂) fun _ _ x => x))))))
    · cases ef
  · cases ef
end Mine
end
section -- F20
open PySem PySem.Spec PySem.Calls PySem.W PyProof.Rows
set_option Elab.async false
set_option maxRecDepth 100000
namespace Mine
variable {C : Cx} {τ : List Str} {κ : Str → Option NameKind} {n : Nat}

/-- the source of the first clause: nothing but new objects is changed while it is walked -/
noncomputable def Src0 (C : Cx) (τ : List Str) (κ : Str → Option NameKind) (n : Nat) (target iter : Expr) (g : G → Option (List PyData)) : Prop :=
  ∀ (env : Env) (S : List Addr) (A : Around) (s : Shared) (Γ : G) (ds : List PyData) (Q : Value → Shared → Prop) (E : Value → Shared → Prop),
    AOk n A → FnEnv κ env → Rel C τ S env Γ s.heap → g Γ = some ds →
    (∀ h₁ h₂ tk I fp St, Keep C [] s.heap h₁ → Keep C [] h₁ h₂ → h₁.get? I = none → St 0 h₂ →
      (∀ b ∈ fp, (∃ o, h₁.get? b = some o) ∧ b ≠ C.tab) → Wk C A target I fp ds St h₁ S [] → Q (.ref I) { s with heap := h₂, toks := tk }) →
    wpAny (model C.prog C.w) A (eval iter env) (fun xv s₁ => wpAny (model C.prog C.w) A (pyIter xv) Q E s₁) E s

noncomputable def gList0 (f : G → Option DV) : G → Option (List PyData) := fun Γ => match f Γ with
  | some (.p (.list ds)) => some ds
  | _ => none
noncomputable def gRange0 (f : G → Option DV) : G → Option (List PyData) := fun Γ => match f Γ with
  | some (.p (.int k)) => if 0 ≤ k ∧ k ≤ 1000 then some ((List.range k.toNat).map fun (j : Nat) => .int (j : Int)) else none
  | _ => none
theorem src0_list {target iter : Expr} {f : G → Option DV} (hf : SE C τ κ n iter f) : Src0 C τ κ n target iter (gList0 f) := by
  intro env S A s Γ ds Q E ha fe re eg h
  unfold gList0 at eg
  split at eg
  · rename_i ds' ev
    cases eg
    refine hf env S A s Γ _ _ E ha fe re ev fun v h₁ tk₁ k₁ rv => ?_
    have re₁ := re.pure k₁
    obtain ⟨as, rd, hs⟩ := rv
    cases rd with
    | @list a vs m _ as' e r =>
      have ha' : a ∉ S := hs a (.head _)
      have ta : a ≠ C.tab := tab_ne re₁.ok.tab e fun _ q => nomatch q
      refine wpAny_pyIter_list ⟨_, e, rfl, _, rfl⟩ ?_
      have hfr := get_fresh h₁
      refine h h₁ _ tk₁ h₁.objs.size [a] (fun i h => h.IsListIter h₁.objs.size a i ∧ h.get? a = some (lobj vs m)) k₁ (Keep.push re₁.ok.tab _) hfr
        ⟨⟨_, Heap.get?_push_size _ rfl, rfl, rfl⟩, Heap.get?_push_of_some _ e⟩ (fun b hb => ?_) ⟨fun i h h' st k => ?_, fun i h st => ?_, fun i s d K E ed st g hk => ?_, fun i s Q E st hq => wpAny_pyIter_listiter st.1 hq, fun s Q E st hk => ?_⟩
      · rw [List.mem_singleton.mp hb]; exact ⟨⟨_, e⟩, ta⟩
      · exact ⟨st.1.at fun o q => k _ (.inl rfl) o q, k a (.inr (.head _)) _ st.2⟩
      · obtain ⟨o, eo, hc, _⟩ := st.1; exact ⟨o, _, eo, hc, by decide, by decide, _, ‹_›⟩
      · obtain ⟨w, bs, ew, rw', hw⟩ := rdAll_get r ed
        have lv : (h₁.get? a).isSome := by rw [e]; rfl
        refine wpAny_pyNext_list_item st.1 ⟨_, st.2, rfl, _, rfl⟩ (x := w) (by simpa using ew) fun h' hit hsb => ?_
        obtain ⟨o, eo, hc, _⟩ := hit
        have hne : a ≠ h₁.objs.size := Nat.ne_of_lt (Heap.lt_size e)
        refine go_plain eo hc (by decide) ?_
        refine hk w h' _ ⟨⟨o, eo, hc, ‹_›⟩, (hsb.2 a hne).trans st.2⟩ (fun b o e hb => (hsb.2 b hb).trans e) ⟨bs, ?_, fun b hb => ⟨rd_live rw' b hb, hs b (.tail _ (hw b hb))⟩⟩
        -- read at the start, kept since
        have g' : Gets C [h₁.objs.size] h₁ h' := fun b o e hb ht => (hsb.2 b fun q => hb (q ▸ .head _)).trans (g b o e hb ht)
        refine rd_keep g' re₁.ok.tab (fun b hb o e => ?_) rw' (fun b hb q => ?_)
        · rcases List.mem_cons.mp hb with rfl | hb
          · rw [hfr] at e; cases e
          · cases hb
        · rcases List.mem_cons.mp q with rfl | q
          · obtain ⟨o, e⟩ := rd_live rw' _ hb; rw [hfr] at e; cases e
          · cases q
      · refine wpAny_pyNext_list_end ha.handled st.1 ⟨_, st.2, rfl, _, rfl⟩ (by rw [← rdAll_length r]; simp) fun h' he => ?_
        exact hk h' _ fun b o e hb => he b o hb e
  · cases eg
theorem src0_range {target e : Expr} {x : Str} {p pos : Pos} {f : G → Option DV} (hf : SE C τ κ n e f) (hg : C.mg x = none) (hb : C.mb x = some (.type "range")) (hk : κ x = some .globalImplicit) (hd : (x == ("__debug__" : Str)) = false)
    (hst : ∀ env, starEach [e] env = [(false, eval e env)])
    (hev : ∀ env, eval (.Call (.Name x p) [e] [] pos) env = (do callWith pos (← eval (.Name x p) env) [] (backTo pos (starEach [e] env)) (backToKw pos (keywordEach [] env)))) :
    Src0 C τ κ n target (.Call (.Name x p) [e] [] pos) (gRange0 f) := by
  intro env S A s Γ ds Q E ha fe re eg h
  unfold gRange0 at eg
  split at eg
  · rename_i k ek
    split at eg
    · rename_i hz
      cases eg
      refine Call_ (glob_name fe re.ok hk (.inr ⟨hg, hb⟩) hd ?_) (hev env)
      have hst' : starEach (e :: []) env = (false, eval e env) :: starEach [] env := hst env
      have hb' : wpAny (model C.prog C.w) A (spliced (backTo pos (starEach [e] env))) (fun vs s₁ => wpAny (model C.prog C.w) A (call (.type "range") vs) (fun xv s₁ => wpAny (model C.prog C.w) A (pyIter xv) Q E s₁) E s₁) E s := by
        refine args_cons (hf env _ A s Γ _ _ E ha fe re ek fun v h₁ tk₁ k₁ rv => ?_) hst'
        refine args_nil ?_
        obtain ⟨t, rfl⟩ := of_int rv
        have re₁ := re.pure k₁
        refine call_range_1 ?_
        have k₂ := Keep.push (C := C) re₁.ok.tab ({ cls := .type "range", data := .fields #[.int 0 tk₁, .int k t, .int 1 (tk₁ + 1)] } : Obj)
        have re₂ := re₁.pure k₂
        refine wpAny_pyIter_range (IsRange.new _ _ _ _ _ _ _) (range_small hz.1 hz.2) ?_
        rw [range_size hz.1]
        have Wr := Walks.range (prog := C.prog) (w := C.w) ha.handled (h₁.push { cls := .type "range", data := .fields #[.int 0 tk₁, .int k t, .int 1 (tk₁ + 1)] }).objs.size 0 1 k.toNat
        refine h _ _ _ _ [] _ (k₁.trans k₂) (Keep.push re₂.ok.tab _) (get_fresh _) ?_ (fun b hb => nomatch hb) ⟨fun i h h' st k => Wr.frame i h h' st fun b hb o e => k b (.inl (List.mem_singleton.mp hb)) o e, fun i h st => ⟨_, _, st, rfl, by decide, by decide, _, rfl⟩, fun i s d K E ed st g hk => ?_, fun i s Q E st hq => Wr.self i s Q E st hq, fun s Q E st hk => ?_⟩
        · have e1 : ((k.toNat : Nat) : Int) = k := by omega
          simp only [IsRangeIter, e1]
          have := Heap.get?_push_size (h₁.push { cls := .type "range", data := .fields #[.int 0 tk₁, .int k t, .int 1 (tk₁ + 1)] }) (o := { cls := .type "range_iterator", data := .fields #[rawInt 0, rawInt k, rawInt 1] }) rfl
          simpa using this
        · have hi : i < k.toNat := by
            have := (List.getElem?_eq_some_iff.mp ed).1
            simpa using this
          refine wpAny_mono (Wr.item i s _ _ hi st fun v h' tk hP hst' hkp => ?_) (fun r s₁ hr => hr) fun _ _ q => q
          obtain ⟨t', rfl⟩ := hP
          refine go_plain hst' rfl (by decide) ?_
          have ed' : d = .int ((i : Int)) := by
            rw [List.getElem?_map] at ed
            simp [hi] at ed
            exact ed.symm
          subst ed'
          refine hk _ h' tk hst' (fun b o e hb => hkp b o (fun q => hb (List.mem_singleton.mp q)) e) ⟨[], ?_, fun _ hb => nomatch hb⟩
          have : (0 : Int) + (i : Int) * 1 = i := by omega
          rw [this]; exact .int _ _
        · have hl : ((List.range k.toNat).map fun (j : Nat) => PyData.int (j : Int)).length = k.toNat := by simp
          rw [hl] at st
          exact Wr.done s Q E st fun h' tk hkp => hk h' tk fun b o e hb => hkp b o (fun q => hb (List.mem_singleton.mp q)) e
      rw [hst env] at hb' ⊢
      exact PyProof.Rows.callWith_type rfl (Calls.evalArgs_plain hb')
    · cases eg
  · cases eg
end Mine
end
section -- F21
open PySem PySem.Spec PySem.Calls PySem.W PyProof.Rows
set_option Elab.async false
set_option maxRecDepth 100000
namespace Mine
variable {C : Cx} {τ : List Str} {κ : Str → Option NameKind} {n : Nat}

/-- the names of a comprehension in a function whose names are κ -/
noncomputable def relN (κ : Str → Option NameKind) (names : List (Str × NameKind)) : List (Str × NameKind) :=
  names.map fun p => (p.1, if (p.2 == .free && κ p.1 == some .cell) then .cell else p.2)
theorem relabel_eq {env : Env} {scope : Scope} (fe : FnEnv κ env) : relabel scope env = { scope with names := relN κ scope.names } := by
  unfold relabel relN
  congr 1
  refine List.map_congr_left fun p _ => ?_
  obtain ⟨x, k⟩ := p
  have : (env.scope.kind == ScopeKind.function) = true := by rw [fe.kind]; rfl
  simp only [this, fe.is x, Bool.and_true]
  split <;> rfl

theorem closure_some {env : Env} : ∀ (names : List (Str × NameKind)) (cs : List (Str × Addr)), (∀ x, (x, NameKind.free) ∈ names → ∃ c, env.cells.lookup x = some c) →
    ∃ cl, (forIn names cs fun p r => if (p.2 == .free) = true then do let c ← cellOf env p.1; pure (ForInStep.yield ((p.1, c) :: r)) else pure (ForInStep.yield r) : Sem (List (Str × Addr))) = pure cl ∧
      (∀ p ∈ cl, p ∈ cs ∨ (env.cells.lookup p.1 = some p.2 ∧ (p.1, NameKind.free) ∈ names)) ∧ (∀ p ∈ cs, p ∈ cl) ∧ ∀ x, (x, NameKind.free) ∈ names → ∃ c, (x, c) ∈ cl
  | [], cs, _ => ⟨cs, rfl, fun p hp => .inl hp, fun p hp => hp, fun x hx => nomatch hx⟩
  | (x, k) :: names, cs, h => by
    by_cases hk : k = .free
    · subst hk
      obtain ⟨c, hc⟩ := h x (.head _)
      obtain ⟨cl, e, h1, h2, h3⟩ := closure_some names ((x, c) :: cs) fun y hy => h y (.tail _ hy)
      refine ⟨cl, ?_, fun p hp => ?_, fun p hp => h2 p (.tail _ hp), fun y hy => ?_⟩
      · rw [List.forIn_cons]
        have : (NameKind.free == NameKind.free) = true := rfl
        simp only [this, if_true, cellOf, hc]
        exact e
      · rcases h1 p hp with q | q
        · rcases List.mem_cons.mp q with rfl | q
          · exact .inr ⟨hc, .head _⟩
          · exact .inl q
        · exact .inr ⟨q.1, .tail _ q.2⟩
      · rcases List.mem_cons.mp hy with q | q
        · cases q; exact ⟨c, h2 _ (.head _)⟩
        · exact h3 y q
    · obtain ⟨cl, e, h1, h2, h3⟩ := closure_some names cs fun y hy => h y (.tail _ hy)
      have hk' : (k == NameKind.free) = false := beq_eq_false_iff_ne.mpr hk
      refine ⟨cl, ?_, fun p hp => (h1 p hp).imp id fun q => ⟨q.1, .tail _ q.2⟩, h2, fun y hy => ?_⟩
      · rw [List.forIn_cons]
        simp only [hk', Bool.false_eq_true, if_false]
        exact e
      · rcases List.mem_cons.mp hy with q | q
        · cases q; exact absurd rfl hk
        · exact h3 y q
theorem closureFor_some {env : Env} {scope : Scope} (h : ∀ x, (x, NameKind.free) ∈ scope.names → ∃ c, env.cells.lookup x = some c) :
    ∃ cl, closureFor scope env = pure cl ∧ (∀ p ∈ cl, env.cells.lookup p.1 = some p.2 ∧ (p.1, NameKind.free) ∈ scope.names) ∧ ∀ x, (x, NameKind.free) ∈ scope.names → ∃ c, (x, c) ∈ cl := by
  obtain ⟨cl, e, h1, _, h3⟩ := closure_some scope.names [] h
  refine ⟨cl, ?_, fun p hp => (h1 p hp).resolve_left (fun q => nomatch q), h3⟩
  have : closureFor scope env = ((forIn scope.names ([] : List (Str × Addr)) fun p r => if (p.2 == .free) = true then do let c ← cellOf env p.1; pure (ForInStep.yield ((p.1, c) :: r)) else pure (ForInStep.yield r) : Sem (List (Str × Addr))) >>= fun cs => pure cs) := rfl
  rw [this, e]; rfl
end Mine
end
section -- F22
open PySem PySem.Spec PySem.Calls PySem.W PyProof.Rows
set_option Elab.async false
set_option maxRecDepth 100000
namespace Mine
variable {C : Cx} {τ τ' : List Str} {κ : Str → Option NameKind} {n : Nat}

/-- what a comprehension knows of the names around it -/
noncomputable def gFree (fr : List (Nat × Nat)) (Γ : G) : G := fun j => match fr.lookup j with
  | some i => match Γ i with
    | some (.p d) => some (.p d)
    | _ => none
  | none => none

/-- the comprehension's names fit the names around it -/
structure Fits (τ τ' : List Str) (κ : Str → Option NameKind) (names : List (Str × NameKind)) (fr : List (Nat × Nat)) : Prop where
  at' : ∀ j i, fr.lookup j = some i → ∃ x, τ'[j]? = some x ∧ τ[i]? = some x ∧ (x, NameKind.free) ∈ names
  all : ∀ x, (x, NameKind.free) ∈ names → κ x ≠ some .local ∧ ∃ p ∈ fr, τ[p.2]? = some x
  free : ∀ x, (x, NameKind.free) ∈ names → names.lookup x = some .free
  nocell : ∀ y ∈ names, y.2 ≠ .cell
  loc : ∀ y ∈ names, y.2 = .local → names.lookup y.1 = some .local

theorem relN_lookup {names : List (Str × NameKind)} {x : Str} : (relN κ names).lookup x = (names.lookup x).map fun k => if (k == .free && κ x == some .cell) then .cell else k := by
  unfold relN
  induction names with
  | nil => rfl
  | cons p r ih =>
    obtain ⟨y, k⟩ := p
    rw [List.map_cons, List.lookup_cons, List.lookup_cons]
    cases hx : x == y with
    | true =>
      have : x = y := eq_of_beq hx
      subst this
      rfl
    | false => exact ih
end Mine
end
section -- F23
open PySem PySem.Spec PySem.Calls PySem.W PyProof.Rows
set_option Elab.async false
set_option maxRecDepth 100000
namespace Mine
variable {C : Cx} {τ τ' : List Str} {κ : Str → Option NameKind} {n : Nat}

noncomputable def kComp (κ : Str → Option NameKind) (scope : Scope) : Str → Option NameKind := fun x => (relN κ scope.names).lookup x

noncomputable def fComp (fr : List (Nat × Nat)) (g : G → Option (List PyData)) (B : PyData → G → List Nat → Option (G × List Nat)) (vs : List Nat) (ft : G → Option Bool) (f : G → Option (List PyData)) : G → Option DV := fun Γ =>
  if (fr.all fun p => (Γ p.2).isSome) && (vs.all fun v => (fr.lookup v).isNone) then match g Γ with
    | some ds => match compS B vs ft f (gFree fr Γ) ds with
      | some ys => if ys.length ≤ 1000 then some (.p (.list ys)) else none
      | none => none
    | none => none
  else none

theorem mem_of_lookup {β : Type} {l : List (Str × β)} {x : Str} {b : β} (h : l.lookup x = some b) : (x, b) ∈ l := by
  induction l with
  | nil => cases h
  | cons p r ih =>
    obtain ⟨j, c⟩ := p
    rw [List.lookup_cons] at h
    cases qx : x == j with
    | true => rw [qx] at h; cases h; rw [eq_of_beq qx]; exact .head _
    | false => rw [qx] at h; exact .tail _ (ih h)
theorem lookup_of_mem {β : Type} {l : List (Str × β)} {x : Str} {b : β} (h : (x, b) ∈ l) : ∃ c, l.lookup x = some c := by
  induction l with
  | nil => cases h
  | cons p r ih =>
    obtain ⟨j, c⟩ := p
    rw [List.lookup_cons]
    cases qx : x == j with
    | true => exact ⟨_, rfl⟩
    | false =>
      rcases List.mem_cons.mp h with q | q
      · cases q; rw [beq_self_eq_true] at qx; cases qx
      · exact ih q

theorem comp_core {elt target iter : Expr} {ifs : List Expr} {rest : List Comprehension} {scope : Scope} {pos : Pos} {fr : List (Nat × Nat)} {g : G → Option (List PyData)} {B : PyData → G → List Nat → Option (G × List Nat)} {vs : List Nat} {ft : G → Option Bool} {f : G → Option (List PyData)}
    (hz : ∀ g, rest[0]? = some g → g.is_async = 0) (hkind : scope.kind = .function) (fits : Fits τ τ' κ scope.names fr)
    (hsrc : Src0 C τ κ n target iter g) (htg : TG C τ' (kComp κ scope) n target B) (hsets : Sets B vs) (hts : TS C τ' (kComp κ scope) n ifs ft) (hci : CI C τ' (kComp κ scope) n elt (⟨target, iter, ifs, 0⟩ :: rest) scope pos 1 f)
    {env : Env} {S : List Addr} {A : Around} {s : Shared} {Γ : G} {d : DV} {E : Value → Shared → Prop} {RR : Value → Addr → Result → Shared → Prop}
    (ha : AOk n A) (fe : FnEnv κ env) (re : Rel C τ S env Γ s.heap) (ef : fComp fr g B vs ft f Γ = some d)
    (h : ∀ D Cd h' tk m, Keep C [] s.heap h' → s.heap.get? D = none → s.heap.get? Cd = none → Above C Cd → h'.Ns Cd m → Rv C (Cd :: S) h' (.ref D) d → RR (.ref D) Cd (.ok .next) { s with heap := h', toks := tk }) :
    ∃ cl, closureFor scope env = pure cl ∧ wpAny (model C.prog C.w) A (eval iter env) (fun x s₁ => wpAny (model C.prog C.w) A (pyIter x) (fun it s₂ => wpAny (model C.prog C.w) A (newList []) (fun acc s₃ =>
      wpAny (model C.prog C.w) A (newFunctionEnv scope env.globals cl [] env.qual none .none (some env)) (fun cenv s₄ =>
        codeAny (model C.prog C.w) A (.compStart (.ListComp elt (⟨target, iter, ifs, 0⟩ :: rest) scope pos) 0 it acc { cenv with scope := relabel scope env }) (RR acc cenv.locals) s₄) E s₃) E s₂) E s₁) E s := by
  unfold fComp at ef
  split at ef
  · rename_i hall
    rw [Bool.and_eq_true] at hall
    obtain ⟨hall, hvs⟩ := hall
    split at ef
    · rename_i ds eg
      split at ef
      · rename_i ys ec
        split at ef
        · rename_i hlen
          cases ef
          obtain ⟨m0, hn0, hv0⟩ := re.loc
          -- the cells of the names around
          have cellOfx : ∀ x, (x, NameKind.free) ∈ scope.names → ∃ c v, env.cells.lookup x = some c ∧ s.heap.IsCell c (some v) := fun x hx => by
            obtain ⟨nl, p, hp, ex⟩ := fits.all x hx
            have hs := List.all_eq_true.mp hall p hp
            cases q : Γ p.2 with
            | none => rw [q] at hs; cases hs
            | some d =>
              obtain ⟨x', v, ex', at', _⟩ := hv0 _ _ q
              rw [ex] at ex'; cases ex'
              rcases at' with ⟨hk, _⟩ | ⟨_, c, hc, ic⟩
              · exact absurd ((fe.is x).symm.trans hk) nl
              · exact ⟨c, v, hc, ic⟩
          obtain ⟨cl, hcl, hc1, hc2⟩ := closureFor_some (env := env) (scope := scope) fun x hx => (let ⟨c, _, e, _⟩ := cellOfx x hx; ⟨c, e⟩)
          refine ⟨cl, hcl, hsrc env S A s Γ ds _ E ha fe re eg fun h₁ h₂ tk I fp St k₁ k₂ hI st₀ hfp Wi => ?_⟩
          -- what a cell of the closure is
          have clCell : ∀ x c, (x, c) ∈ cl → env.cells.lookup x = some c ∧ (x, NameKind.free) ∈ scope.names ∧ ∃ v, s.heap.IsCell c (some v) := fun x c hm => by
            obtain ⟨e1, e2⟩ := hc1 _ hm
            obtain ⟨c', v, e3, ic⟩ := cellOfx x e2
            have : c' = c := by have := e3.symm.trans e1; exact Option.some.inj this
            subst this
            exact ⟨e1, e2, v, ic⟩
          have clLook : ∀ x c, (x, c) ∈ cl → cl.lookup x = some c := fun x c hm => by
            obtain ⟨c', e⟩ := lookup_of_mem hm
            have e1 := (clCell x c hm).1
            have e2 := (clCell x c' (mem_of_lookup e)).1
            rw [e1] at e2; cases e2
            exact e
          have k₁₂ := k₁.trans k₂
          have re₂ := re.pure k₁₂
          refine wpAny_newObj_type (wpAny_newFunctionEnv fits.nocell (by intro y hy; simp at hy) (fun h₃ hns₃ hsb₃ => ?_) hkind)
          dsimp only at hns₃ hsb₃ ⊢
          generalize hH2 : h₂.push { cls := .type "list", dict := none, data := .seq ([] : List Value).toArray } = H2 at hns₃ hsb₃ ⊢
          have hCd : H2.objs.size = h₂.objs.size + 1 := by rw [← hH2, Heap.size_push]
          have hDC : h₂.objs.size ≠ H2.objs.size := by rw [hCd]; exact Nat.ne_of_lt (Nat.lt_succ_self _)
          have below : ∀ b, b < h₂.objs.size → b ≠ H2.objs.size ∧ b ≠ h₂.objs.size := fun b hb => ⟨by rw [hCd]; exact Nat.ne_of_lt (Nat.lt_succ_of_lt hb), Nat.ne_of_lt hb⟩
          have old : ∀ b o, h₂.get? b = some o → h₃.get? b = some o := fun b o e => hsb₃.extBut b o (below b (Heap.lt_size e)).1 (Heap.get?_push_of_some _ (hH2 ▸ Heap.get?_push_of_some _ e))
          have hacc : h₃.get? h₂.objs.size = some (lobj #[] 0) := hsb₃.extBut _ _ hDC (Heap.get?_push_of_some _ (hH2 ▸ Heap.get?_push_size _ rfl))
          have k₃ : Keep C [] h₂ h₃ := .of_all re₂.ok.tab old
          have k₁₃ := k₂.trans k₃
          have k₀₃ := k₁₂.trans k₃
          have live2 : ∀ b, (∃ o, s.heap.get? b = some o) → ∃ o, h₂.get? b = some o := fun b ⟨o, e⟩ => k₁₂.live b o e
          have live12 : ∀ b, (∃ o, h₁.get? b = some o) → ∃ o, h₂.get? b = some o := fun b ⟨o, e⟩ => k₂.live b o e
          have apart2 : ∀ b, (∃ o, h₂.get? b = some o) → b ≠ H2.objs.size ∧ b ≠ h₂.objs.size := fun b ⟨o, e⟩ => below b (Heap.lt_size e)
          have liveI : ∀ b, (∃ o, s.heap.get? b = some o) → b ≠ I := fun b ⟨o, e⟩ q => by
            obtain ⟨o', e'⟩ := k₁.live b o e; rw [q, hI] at e'; cases e'
          obtain ⟨oI, TI, eI, cI⟩ := Wi.cls 0 h₂ st₀
          have clLive : ∀ c ∈ cl.map (·.2), ∃ o, s.heap.get? c = some o := fun c hc => by
            obtain ⟨p, hp, rfl⟩ := List.mem_map.mp hc
            obtain ⟨_, _, v, o, e, _⟩ := clCell p.1 p.2 hp
            exact ⟨o, e⟩
          have s0live : ∀ b ∈ cl.map (·.2) ++ S, ∃ o, s.heap.get? b = some o := fun b hb => by
            rcases List.mem_append.mp hb with hb | hb
            · exact clLive b hb
            · exact re.live b hb
          have hbD : C.hb.get? h₂.objs.size = none := hb_none re₂.ok (get_fresh _)
          have hbI := hb_none (re.ok.pure k₁) hI
          have hn0 : I ∉ h₂.objs.size :: (cl.map (·.2) ++ S) := fun q => by
            rcases List.mem_cons.mp q with q | q
            · exact (apart2 I ⟨oI, eI⟩).2 q
            · exact liveI I (s0live I q) rfl
          have hlow : Above C H2.objs.size := above_of re₂.ok (by rw [hCd]; exact Nat.le_succ _)
          have fe' : FnEnv (kComp κ scope) (compEnvC scope cl H2.objs.size env) := ⟨hkind, fe.glob, fe.bins, fun x => by
            show (relabel scope env).names.lookup x = _
            rw [relabel_eq fe]; rfl⟩
          have hM : Mset [H2.objs.size] [] = [H2.objs.size] := rfl
          have re₃ : RelS C τ' (I :: h₂.objs.size :: (cl.map (·.2) ++ S)) [H2.objs.size] (compEnvC scope cl H2.objs.size env) (gFree fr Γ) [] h₃ := by
            refine ⟨re.ok.pure k₀₃, fun b hb => ?_, fun b hb q => ?_, fun b hb => ?_, fun b hb => ?_, ?_, .head _, fun x c e => ?_, fun x e => ?_, fun x y c hc e => ?_, fun x c e => ?_, ?_⟩
            · rcases List.mem_cons.mp hb with rfl | hb
              · exact ⟨_, old _ _ eI⟩
              · rcases List.mem_cons.mp hb with rfl | hb
                · exact ⟨_, hacc⟩
                · obtain ⟨o, e⟩ := s0live b hb; exact k₀₃.live b o e
            · rw [hM] at q
              have q := List.mem_singleton.mp q
              rcases List.mem_cons.mp hb with rfl | hb
              · exact (apart2 b ⟨oI, eI⟩).1 q
              · rcases List.mem_cons.mp hb with hb | hb
                · exact hDC (hb.symm.trans q)
                · exact (apart2 b (live2 b (s0live b hb))).1 q
            · rw [hM] at hb; rw [List.mem_singleton.mp hb]; exact hlow
            · rw [hM] at hb; rw [List.mem_singleton.mp hb]
              obtain ⟨o, es, ep, e, hd, _⟩ := hns₃
              exact ⟨o, e, .inl ⟨es, ep, hd⟩⟩
            · rw [hM]; exact List.nodup_cons.mpr ⟨List.not_mem_nil, List.nodup_nil⟩
            · exact .inr ⟨.tail _ (.tail _ (List.mem_append_left _ (List.mem_map.mpr ⟨_, mem_of_lookup e, rfl⟩))), .inl rfl⟩
            · have e := (fe'.is x).symm.trans e
              unfold kComp at e
              rw [relN_lookup] at e
              cases q : scope.names.lookup x with
              | none => rw [q] at e; cases e
              | some k =>
                have hm := mem_of_lookup q
                rw [q] at e
                simp only [Option.map_some] at e
                split at e
                · rename_i hk
                  rw [Bool.and_eq_true] at hk
                  have := eq_of_beq hk.1
                  subst this
                  obtain ⟨c, hc⟩ := hc2 x hm
                  exact ⟨c, clLook x c hc⟩
                · cases e
                  exact absurd rfl (fits.nocell _ hm)
            · exfalso
              have := live2 c (clLive c (List.mem_map.mpr ⟨_, mem_of_lookup e, rfl⟩))
              exact (apart2 c this).1 (List.mem_singleton.mp hc)
            · obtain ⟨_, _, v, ic⟩ := clCell x c (mem_of_lookup e)
              exact ⟨_, cell_pure k₀₃ re.ok.tab ic⟩
            · refine ⟨_, hns₃, fun j dj ej => ?_⟩
              unfold gFree at ej
              split at ej
              · rename_i i ei
                split at ej
                · rename_i dd ed
                  cases ej
                  obtain ⟨x, ex', ex, hx⟩ := fits.at' j i ei
                  obtain ⟨x1, v, ex1, at', rv⟩ := hv0 i _ ed
                  rw [ex] at ex1; cases ex1
                  rcases at' with ⟨hk, _⟩ | ⟨_, c, hc, ic⟩
                  · exact absurd ((fe.is x).symm.trans hk) (fits.all x hx).1
                  · obtain ⟨c', hm⟩ := hc2 x hx
                    have ecc : c' = c := by have := (clCell x c' hm).1.symm.trans hc; exact Option.some.inj this
                    subst ecc
                    refine ⟨x, v, ex', .inr ⟨?_, c', clLook x c' hm, cell_pure k₀₃ re.ok.tab ic⟩, ?_⟩
                    · rw [fe'.is x]
                      unfold kComp
                      rw [relN_lookup, fits.free x hx]
                      simp only [Option.map_some]
                      split
                      · exact .inl rfl
                      · exact .inr rfl
                    · obtain ⟨as, rd, hs⟩ := rv
                      refine ⟨as, rd_keep k₀₃.get re.ok.tab (fun _ hb => nomatch hb) rd (fun _ _ q => nomatch q), fun b hb q => ?_⟩
                      have lb := rd_live rd b hb
                      rcases List.mem_append.mp q with q | q
                      · rcases List.mem_cons.mp q with q | q
                        · exact liveI b lb q
                        · rcases List.mem_cons.mp q with q | q
                          · exact (apart2 b (live2 b lb)).2 q
                          · rcases List.mem_append.mp q with q | q
                            · obtain ⟨p, hp, rfl⟩ := List.mem_map.mp q
                              obtain ⟨_, _, w, oc, ec, dc⟩ := clCell p.1 p.2 hp
                              obtain ⟨us, mm, el⟩ := rd_lists rd _ hb
                              rw [el] at ec; cases ec; cases dc
                            · exact hs b hb q
                      · rw [hM] at q; exact (apart2 b (live2 b lb)).1 (List.mem_singleton.mp q)
                · cases ej
              · cases ej
          have loop : ∀ s₃ : Shared, s₃ = { s with heap := h₃, toks := tk + ([] : List (Str × Value)).length } →
              codeAny (model C.prog C.w) A (.compLoop (.ListComp elt (⟨target, iter, ifs, 0⟩ :: rest) scope pos) 0 (.ref I) (.ref h₂.objs.size) (compEnvC scope cl H2.objs.size env)) (RR (.ref h₂.objs.size) H2.objs.size) s₃ := by
            rintro s₃ rfl
            have hΓ : ∀ v ∈ vs, gFree fr Γ v = none := fun v hv => by
              have := List.all_eq_true.mp hvs v hv
              unfold gFree
              cases q : fr.lookup v with
              | none => rfl
              | some i => rw [q] at this; cases this
            have off1 : ∀ b, (∃ o, h₁.get? b = some o) → b ∉ [h₂.objs.size, H2.objs.size] := fun b lb q => by
              have := apart2 b (live12 b lb)
              rcases List.mem_cons.mp q with q | q
              · exact this.2 q
              · exact this.1 (List.mem_singleton.mp q)
            refine comp_loop (S₀ := h₂.objs.size :: (cl.map (·.2) ++ S)) (xs := []) rfl hz htg hsets hts hci ha fe' re₃ (.head _) ⟨#[], 0, [], hacc, .nil, fun _ hb => nomatch hb⟩ hbD hbI hn0 hΓ ec (by simpa using hlen) Wi (Wi.frame _ _ _ st₀ fun b _ o e => old b o e)
              (fun b o e _ ht => k₁₃.get b o e (fun q => nomatch q) ht) (fun b hb => ⟨off1 b (hfp b hb).1, (hfp b hb).2⟩) (fun b o e _ => off1 b ⟨o, e⟩) (fun b o e hb q => ?_) fun h' tk' re' acc' kp lv => ?_
            · rcases List.mem_append.mp q with q | q
              · rcases List.mem_cons.mp q with q | q
                · rw [q, hI] at e; cases e
                · rcases List.mem_cons.mp q with q | q
                  · exact absurd (q ▸ .head _) (off1 b ⟨o, e⟩)
                  · rcases List.mem_append.mp q with q | q
                    · obtain ⟨p, hp, rfl⟩ := List.mem_map.mp q
                      exact ⟨p.1, clLook p.1 p.2 hp⟩
                    · exact absurd q hb
              · rw [hM] at q
                exact absurd (.tail _ q) (off1 b ⟨o, e⟩)
            · obtain ⟨mm, hnm, _⟩ := re'.loc
              obtain ⟨us, mu, as, eu, ru, hu⟩ := acc'
              have nb : ∀ b o, s.heap.get? b = some o → b ∉ [I, h₂.objs.size, H2.objs.size] := fun b o e q => by
                rcases List.mem_cons.mp q with q | q
                · exact liveI b ⟨o, e⟩ q
                · have := apart2 b (live2 b ⟨o, e⟩)
                  rcases List.mem_cons.mp q with q | q
                  · exact this.2 q
                  · exact this.1 (List.mem_singleton.mp q)
              have fresh : ∀ b, b ∈ [I, h₂.objs.size, H2.objs.size] → s.heap.get? b = none := fun b hb => by
                cases q : s.heap.get? b with
                | none => rfl
                | some o => exact absurd hb (nb b o q)
              refine h h₂.objs.size H2.objs.size h' tk' mm ⟨fun b o e _ ht => kp b o (k₀₃.get b o e (fun q => nomatch q) ht) (nb b o e) ht, fun b o e => ?_, re'.ok.tab⟩ (fresh _ (.tail _ (.head _))) (fresh _ (.tail _ (.tail _ (.head _)))) hlow hnm ⟨h₂.objs.size :: as, .list eu ru, fun b hb q => ?_⟩
              · obtain ⟨o', e'⟩ := k₀₃.live b o e
                exact lv b o' e' (liveI b ⟨o, e⟩)
              · rcases List.mem_cons.mp hb with rfl | hb
                · rcases List.mem_cons.mp q with q | q
                  · exact hDC q
                  · obtain ⟨o, e⟩ := re.live _ q
                    exact nb _ o e (.tail _ (.head _))
                · rcases List.mem_cons.mp q with q | q
                  · exact hu b hb (List.mem_append_right _ (by rw [hM, q]; exact .head _))
                  · exact hu b hb (List.mem_append_left _ (.tail _ (List.mem_append_right _ q)))
          exact compStart_k rfl (loop _ rfl) (Wi.self 0 _ _ _ (Wi.frame _ _ _ st₀ fun b _ o e => old b o e) (loop _ rfl))
        · cases ef
      · cases ef
    · cases ef
  · cases ef
end Mine
end
section -- F24
open PySem PySem.Spec PySem.Calls PySem.W PyProof.Rows
set_option Elab.async false
set_option maxRecDepth 100000
namespace Mine
variable {C : Cx} {τ τ' : List Str} {κ : Str → Option NameKind} {n : Nat}

/-- an object set apart is changed or dropped: a namespace -/
theorem RelS.other {S₀ W : List Addr} {env : Env} {Γ : G} {own : Own} {h h' : Heap} {I : Addr} (r : RelS C τ (I :: S₀) W env Γ own h) (g : ∀ b o, h.get? b = some o → b ≠ I → h'.get? b = some o)
    (hc : ∃ o es n, h.get? I = some o ∧ o.data = .dict es n) (hbI : C.hb.get? I = none) (hn0 : I ∉ S₀) : RelS C τ S₀ W env Γ own h' := by
  obtain ⟨oI, esI, nI, eI, dI⟩ := hc
  have ncl : ∀ w, oI.data ≠ .cell w := fun w q => by rw [dI] at q; cases q
  have t' : C.Tab h' := C.tabKeep h h' r.ok.tab fun b o vs e hd hcl => by
    refine g b o e ?_
    rintro rfl
    rw [eI] at e; cases e
    rw [dI] at hd; cases hd
  have gets : Gets C [I] h h' := fun b o e hb _ => g b o e fun q => hb (q ▸ .head _)
  have nf : ∀ b ∈ [I], ∀ o, h.get? b = some o → NotFix o := fun b hb o e vs m q => by
    rw [List.mem_singleton.mp hb, eI] at e; cases e
    rw [q] at dI; cases dI
  have hM : ∀ b ∈ Mset W own, b ≠ I := fun b hb q => r.dis I (.head _) (q ▸ hb)
  have cI' : ∀ {y : Str} {c : Addr}, env.cells.lookup y = some c → c ≠ I := fun {y c} hl q => by
    obtain ⟨w, o, e, hd⟩ := r.cells y c hl
    rw [q, eI] at e; cases e
    exact ncl w hd
  have ok' : HOk C h' := ⟨fun b o e ht => g b o (r.ok.base b o e ht) (fun q => by rw [q, hbI] at e; cases e), t'⟩
  have mt' : ∀ b ∈ Mset W own, ∃ o, h'.get? b = some o ∧ Mut o := fun b hb => by
    obtain ⟨o, e, m⟩ := r.mt b hb; exact ⟨o, g b o e (hM b hb), m⟩
  have ce : ∀ {c : Addr} {w : Option Value} {y : Str}, env.cells.lookup y = some c → h.IsCell c w → h'.IsCell c w := fun {c w y} hl ⟨o, e, hd⟩ => ⟨o, g c o e (cI' hl), hd⟩
  have cells' : ∀ x c, env.cells.lookup x = some c → ∃ v, h'.IsCell c v := fun x c e => by
    obtain ⟨v, hv⟩ := r.cells x c e; exact ⟨v, ce e hv⟩
  have lt' : ∀ b ∈ S₀, ∃ o, h'.get? b = some o := fun b hb => by
    obtain ⟨o, e⟩ := r.lt₀ b (.tail _ hb); exact ⟨o, g b o e fun q => hn0 (q ▸ hb)⟩
  obtain ⟨m, hn, hv⟩ := r.loc
  have ns' : h'.Ns env.locals m := hn.at' fun o e => g _ o e (hM _ r.frame_in)
  have hsub : ∀ b ∈ [I], b ∈ (I :: S₀) ++ Mset W own := fun b hb => by rw [List.mem_singleton.mp hb]; exact .head _
  refine ⟨ok', lt', fun b hb => r.dis b (.tail _ hb), r.low, mt', r.nd, r.wl, fun x c e => (r.wc x c e).imp id fun q => ⟨(List.mem_cons.mp q.1).resolve_left (cI' e), q.2⟩, r.ce, r.cnd, cells', m, ns', fun i d e => ?_⟩
  obtain ⟨x, v, ex, a, kn⟩ := hv i d e
  refine ⟨x, v, ex, a.keep' fun c w hl hcl => ce hl hcl, ?_⟩
  have sub' : ∀ b ∈ S₀ ++ Mset W own, b ∈ (I :: S₀) ++ Mset W own := fun b hb => .tail _ hb
  cases q : own.lookup i with
  | none => rw [q] at kn; exact Rv.sub (C := C) (Rv.keep (C := C) gets r.ok.tab nf hsub kn) sub'
  | some c =>
    rw [q] at kn
    refine ⟨kn.1, ?_⟩
    have ro := kn.2.keep gets r.ok.tab nf hsub fun x => hM c (own_in (lookup_mem q)) (List.mem_singleton.mp x)
    match d, ro with
    | .p (.list xs), ⟨vs, m', as, e', r', q'⟩ => exact ⟨vs, m', as, e', r', fun b hb x => q' b hb (sub' b x)⟩
    | .dict es, ⟨kvs, hd, hp⟩ => exact ⟨kvs, hd, hp⟩

theorem ns_dict {h : Heap} {a : Addr} {m : Str → Option Value} (x : h.Ns a m) : ∃ o es n, h.get? a = some o ∧ o.data = .dict es n := by
  obtain ⟨o, es, ep, e, hd, _⟩ := x; exact ⟨o, es, ep, e, hd⟩

theorem se_listcomp {elt target iter : Expr} {ifs : List Expr} {rest : List Comprehension} {scope : Scope} {pos : Pos} {fr : List (Nat × Nat)} {g : G → Option (List PyData)} {B : PyData → G → List Nat → Option (G × List Nat)} {vs : List Nat} {ft : G → Option Bool} {f : G → Option (List PyData)}
    (hz : ∀ g, rest[0]? = some g → g.is_async = 0) (hkind : scope.kind = .function) (fits : Fits τ τ' κ scope.names fr)
    (hsrc : Src0 C τ κ n target iter g) (htg : TG C τ' (kComp κ scope) n target B) (hsets : Sets B vs) (hts : TS C τ' (kComp κ scope) n ifs ft) (hci : CI C τ' (kComp κ scope) n elt (⟨target, iter, ifs, 0⟩ :: rest) scope pos 1 f)
    (hs : ∀ env x, foldedSetIterable iter env x = pure x) :
    SE C τ κ n (.ListComp elt (⟨target, iter, ifs, 0⟩ :: rest) scope pos) (fComp fr g B vs ft f) := by
  intro env S A s Γ d Q E ha fe re ef h
  obtain ⟨cl, hcl, hw⟩ := comp_core (RR := fun acc Cd => compPost (model C.prog C.w) A E none Q acc Cd) hz hkind fits hsrc htg hsets hts hci ha fe re ef (E := E) fun D Cd h' tk m k hD hCd low hns rv => by
    refine ⟨m, hns, fun h'' hsb => ?_⟩
    obtain ⟨o, es, n', eo, hd⟩ := ns_dict hns
    have g : ∀ b o, h'.get? b = some o → b ≠ Cd → h''.get? b = some o := fun b o e hb => (hsb.2 b hb).trans e
    have tb : C.Tab h'' := C.tabKeep h' h'' k.tab fun b o' vs e hd' _ => g b o' e fun q => by
      rw [q, eo] at e; cases e; rw [hd] at hd'; cases hd'
    have gets : Gets C [Cd] h' h'' := fun b o e hb _ => g b o e fun q => hb (q ▸ .head _)
    have nf : ∀ b ∈ [Cd], ∀ o, h'.get? b = some o → NotFix o := fun b hb o' e vs m q => by
      rw [List.mem_singleton.mp hb, eo] at e; cases e
      rw [q] at hd; cases hd
    refine h (.ref D) h'' tk ⟨fun b o e hb ht => g b o (k.get b o e hb ht) (fun q => by rw [q, hCd] at e; cases e), fun b o e => ?_, tb⟩ ((Rv.keep gets k.tab nf (fun b hb => by rw [List.mem_singleton.mp hb]; exact .head _) rv).sub fun b hb => .tail _ hb)
    obtain ⟨o', e'⟩ := k.live b o e
    exact ⟨o', g b o' e' fun q => by rw [q, hCd] at e; cases e⟩
  rw [eval_ListComp]
  exact wpAny_comprehension_free (use := none) rfl (hs env) hcl hkind fits.loc hw

/-- the comprehension that is stored at once -/
theorem s1_assign_comp (ap : Apart τ) {x : Str} {px : Pos} {spos : Pos} {elt target iter : Expr} {ifs : List Expr} {rest : List Comprehension} {scope : Scope} {pos : Pos} {fr : List (Nat × Nat)} {g : G → Option (List PyData)} {B : PyData → G → List Nat → Option (G × List Nat)} {vs : List Nat} {ft : G → Option Bool} {f : G → Option (List PyData)}
    (i : Nat) (hi : τ[i]? = some x) (hk : κ x = some .local)
    (hz : ∀ g, rest[0]? = some g → g.is_async = 0) (hkind : scope.kind = .function) (fits : Fits τ τ' κ scope.names fr)
    (hsrc : Src0 C τ κ n target iter g) (htg : TG C τ' (kComp κ scope) n target B) (hsets : Sets B vs) (hts : TS C τ' (kComp κ scope) n ifs ft) (hci : CI C τ' (kComp κ scope) n elt (⟨target, iter, ifs, 0⟩ :: rest) scope pos 1 f)
    (hs : ∀ env x, foldedSetIterable iter env x = pure x)
    (hsw : ∀ env : Env, env.blockKind = .function → env.kindOf x = some .local → swapsWith (.ListComp elt (⟨target, iter, ifs, 0⟩ :: rest) scope pos) (some (.Name x px)) spos.line env = pure true) :
    S1 C τ κ n (.Assign [.Name x px] (.ListComp elt (⟨target, iter, ifs, 0⟩ :: rest) scope pos) spos) (fAssign i (fComp fr g B vs ft f)) := by
  intro env S₀ W own A s Γ r Q E ha fe re er h
  unfold fAssign at er
  split at er
  · rename_i d O' ev
    cases er
    have hnat : ∀ d, fComp fr g B vs ft f Γ = some d → atomic d = false := fun d e => by
      unfold fComp at e
      split at e
      · split at e
        · split at e
          · split at e
            · cases e; rfl
            · cases e
          · cases e
        · cases e
      · cases e
    -- from what is known of the frame: what is owned stays, or is let go
    suffices main : ∀ (own₁ : Own) (Γ' : G), (own₁ = own ∨ own₁ = []) → own₁.map (·.1) = O' → Rel C τ (S₀ ++ Mset W own₁) env Γ' s.heap → fComp fr g B vs ft f Γ' = some d → RelS C τ S₀ W env Γ own₁ s.heap →
        wpAny (model C.prog C.w) A (exec (.Assign [.Name x px] (.ListComp elt (⟨target, iter, ifs, 0⟩ :: rest) scope pos) spos) env) Q E s by
      unfold evA at ev
      split at ev
      · rename_i d' ed
        cases ev
        exact main own _ (.inl rfl) rfl re.relD ed re
      · split at ev
        · rename_i d' ed
          cases ev
          have := hnat _ ed
          refine main [] Γ (.inr rfl) (by simp [this]) ?_ ed re.let_go
          rw [eW]; exact re.rel
        · cases ev
    intro own₁ Γ' ho eo rl ed re₁
    obtain ⟨cl, hcl, hw⟩ := comp_core (RR := fun acc Cd => compPost (model C.prog C.w) A E (some (assign (.Name x px) env)) (fun _ s' => Q .next s') acc Cd) hz hkind fits hsrc htg hsets hts hci ha fe.toFnEnv rl ed (E := E) fun D Cd h' tk m k hD hCd low hns rv => by
      obtain ⟨oC, es, n', eC, hdC⟩ := ns_dict hns
      have re₂ := re₁.guard k hCd ⟨oC, eC⟩
      have re₃ := re₂.weaken (i := i)
      have sub := mset_sub (W := W) (own := own₁) (own' := orem own₁ i) orem_sub
      have rv' : Rv C ((Cd :: S₀) ++ Mset W (orem own₁ i)) h' (.ref D) d := rv.sub fun b hb => by
        rcases List.mem_cons.mp hb with rfl | hb
        · exact .head _
        · refine .tail _ ?_
          rcases List.mem_append.mp hb with hb | hb
          · exact List.mem_append_left _ hb
          · exact List.mem_append_right _ (sub b hb)
      refine wpAny_assign_Name (stored_rel (s := { s with heap := h', toks := tk }) ap fe.toFnEnv re₃ hi (.inl hk) (d := d) (by rw [orem_self]; exact rv') fun h₂ tk₂ rel kp => ?_)
      rw [gset_none] at rel
      have tC : Cd ≠ C.tab := tab_ne re₂.ok.tab eC fun _ q => by rw [hdC] at q; cases q
      have dC := re₃.dis Cd (.head _)
      have ns₂ : h₂.Ns Cd m := hns.at' fun o e => kp.get Cd o e dC tC
      refine ⟨m, ns₂, fun h₃ hsb => ?_⟩
      have hbC : C.hb.get? Cd = none := hb_none re₁.ok hCd
      have hn0 : Cd ∉ S₀ := fun q => by obtain ⟨o, e⟩ := re₁.lt₀ Cd q; rw [hCd] at e; cases e
      have rel₃ := rel.other (h' := h₃) (fun b o e hb => (hsb.2 b hb).trans e) (ns_dict ns₂) hbC hn0
      refine h .next h₃ tk₂ (orem own₁ i) ⟨rfl, by rw [orem_keys, eo], rel₃⟩ ?_ fun p hp => (Sub.of ho) p (orem_sub p hp)
      have msub : ∀ b ∈ Mset W (orem own₁ i), b ∈ Mset W own := fun b hb => by
        have hb := sub b hb
        rcases ho with rfl | rfl
        · exact hb
        · unfold Mset at hb ⊢
          simp only [List.map_nil, List.append_nil] at hb
          exact List.mem_append_left _ hb
      have k₂ : Keep C (Mset W own) s.heap h₂ := k.nil.trans (kp.mono msub)
      refine ⟨fun b o e hb ht => (hsb.2 b fun q => by rw [q, hCd] at e; cases e).trans (k₂.get b o e hb ht), fun b o e => ?_, rel₃.ok.tab⟩
      obtain ⟨o', e'⟩ := k₂.live b o e
      exact ⟨o', (hsb.2 b fun q => by rw [q, hCd] at e; cases e).trans e'⟩
    have bk : env.blockKind = .function := by rw [Env.blockKind, fe.kind]; rfl
    rw [exec_Assign_Name_used _ _ _ _ (hsw env bk ((fe.is x).trans hk))]
    refine wpAny_bind (wpAny_standAt (wpAny_bind ?_))
    show wpAny _ A (do let _ ← comprehension (.ListComp elt (⟨target, iter, ifs, 0⟩ :: rest) scope pos) scope env _ (newList []) false (eval iter env) (some (assign (.Name x px) env))) _ _ s
    exact wpAny_bind (wpAny_mono (wpAny_comprehension_free (use := some (assign (.Name x px) env)) (Q := fun _ s' => Q .next s') rfl (hs env) hcl hkind fits.loc hw)
      (fun _ s' hq => wpAny_pure (wpAny_pure hq)) fun _ _ e => e)
  · cases er
end Mine
end
section -- F25
open PySem PySem.Spec PySem.Calls PySem.W PyProof.Rows
set_option Elab.async false
set_option maxRecDepth 100000
namespace Mine
variable {C : Cx} {τ τ' : List Str} {κ : Str → Option NameKind} {n : Nat}

/-- a call of a builtin one: its name, its arguments -/
theorem se_callB {x : Str} {id : String} {p pos : Pos} {e : Expr} {es : List Expr} {F : List DV → Option DV} {g : G → Option (List DV)} (hes : SEs C τ κ n (e :: es) g) (hF : FS C n (.builtin id) F)
    (hg : C.mg x = none) (hb : C.mb x = some (.builtin id)) (hk : κ x = some .globalImplicit) (hd : (x == ("__debug__" : Str)) = false)
    (hst : ∀ env, starEach (e :: es) env = (false, eval e env) :: starEach es env) (hpl : ∀ env, (backTo pos (starEach es env)).any (·.1) = false)
    (hev : ∀ env, eval (.Call (.Name x p) (e :: es) [] pos) env = (do callWith pos (← eval (.Name x p) env) [] (backTo pos (starEach (e :: es) env)) (backToKw pos (keywordEach [] env)))) :
    SE C τ κ n (.Call (.Name x p) (e :: es) [] pos) (fCall F g) := by
  intro env S A s Γ d Q E ha fe re ed h
  unfold fCall at ed
  split at ed
  · rename_i ds eds
    refine Call_ (glob_name fe re.ok hk (.inr ⟨hg, hb⟩) hd ?_) (hev env)
    have hb := hes env S A s Γ pos ds (fun vs s₁ => wpAny (model C.prog C.w) A (call (.builtin id) vs) Q E s₁) E ha fe re eds fun vs h₁ tk₁ k₁ rs => by
      have re₁ := re.pure k₁
      exact hF S A _ vs ds d Q E ha re₁.ok re₁.live rs ed fun v h₂ tk₂ k₂ rv => h v h₂ tk₂ (k₁.trans k₂) rv
    rw [hst env] at hb ⊢
    refine Calls.callWith_builtin ?_ (Calls.evalArgs_plain hb)
    show (false || (backTo pos (starEach es env)).any (·.1)) = false
    rw [hpl env]; rfl
  · cases ed

theorem of_list {S : List Addr} {h : Heap} {v : Value} {xs : List PyData} (r : Rv C S h v (.p (.list xs))) : ∃ a vs m as, v = .ref a ∧ h.get? a = some (lobj vs m) ∧ RdAll h vs.toList xs as ∧ a ∉ S ∧ ∀ b ∈ as, b ∉ S := by
  obtain ⟨as, r, hs⟩ := r
  cases r with
  | list e r => exact ⟨_, _, _, _, rfl, e, r, hs _ (.head _), fun b hb => hs b (.tail _ hb)⟩
theorem of_tuple {S : List Addr} {h : Heap} {v : Value} {xs : List PyData} (r : Rv C S h v (.p (.tuple xs))) : ∃ a vs m as, v = .ref a ∧ h.get? a = some (tobj vs m) ∧ RdAll h vs.toList xs as ∧ ∀ b ∈ as, b ∉ S := by
  obtain ⟨as, r, hs⟩ := r
  cases r with
  | tuple e r => exact ⟨_, _, _, _, rfl, e, r, hs⟩

/-- len -/
noncomputable def bLen : List DV → Option DV
  | [.p (.list xs)] => if xs.length ≤ 1000000 then some (dint xs.length) else none
  | [.p (.str x)] => if x.length ≤ 1000000 then some (dint x.length) else none
  | _ => none
theorem fs_len : FS C n (.builtin "len") bLen := by
  intro S A s vs ds d Q E ha ok hS rs ef h
  unfold bLen at ef
  split at ef
  · split at ef
    · rename_i xs hz
      cases ef
      cases rs with
      | cons r rs =>
        cases rs
        obtain ⟨a, vs, m, as, rfl, e, r, _⟩ := of_list r
        refine len_list ⟨_, e, rfl, _, rfl⟩ ?_ ?_
        · have := rdAll_length r
          rw [Array.length_toList] at this
          omega
        · have e' : (vs.size : Int) = (xs.length : Int) := by rw [← rdAll_length r, Array.length_toList]
          rw [e']
          exact h _ _ _ (.refl ok.tab) rv_int
    · cases ef
  · split at ef
    · rename_i x hz
      cases ef
      cases rs with
      | cons r rs =>
        cases rs
        obtain ⟨t, rfl⟩ := of_str r
        exact P.len_str (by omega) (h _ _ _ (.refl ok.tab) rv_int)
    · cases ef
  · cases ef

noncomputable def pints : List PyData → Option (List Int)
  | [] => some []
  | .int i :: r => match pints r with
    | some is => some (i :: is)
    | none => none
  | _ :: _ => none
theorem ints_are {h : Heap} : ∀ {vs : List Value} {xs : List PyData} {as : List Addr} {is : List Int}, RdAll h vs xs as → pints xs = some is → IntsAre vs is
  | _, _, _, is, .nil, e => by cases e; exact .nil
  | _, _, _, is, .cons (d := d) (ds := ds) r rs, e => by
    cases d with
    | int i =>
      cases q : pints ds with
      | none => simp [pints, q] at e
      | some js =>
        simp [pints, q] at e
        subst e
        cases r
        exact .cons _ _ (ints_are rs q)
    | _ => simp [pints] at e
theorem ints_map : ∀ {xs : List PyData} {is : List Int}, pints xs = some is → xs = is.map .int
  | [], _, e => by cases e; rfl
  | d :: ds, is, e => by
    cases d with
    | int i =>
      cases q : pints ds with
      | none => simp [pints, q] at e
      | some js =>
        simp [pints, q] at e
        subst e
        rw [List.map_cons, ints_map q]
    | _ => simp [pints] at e

/-- sum of pints -/
noncomputable def bSum : List DV → Option DV
  | [.p (.list xs)] => match pints xs with
    | some is => some (dint is.sum)
    | none => none
  | _ => none
theorem fs_sum : FS C n (.builtin "sum") bSum := by
  intro S A s vs ds d Q E ha ok hS rs ef h
  unfold bSum at ef
  split at ef
  · rename_i xs
    split at ef
    · rename_i is ei
      cases ef
      cases rs with
      | cons r rs =>
        cases rs
        obtain ⟨a, vs, m, as, rfl, e, r, _⟩ := of_list r
        have hi := ints_are r ei
        have hall := hi.allInts
        obtain ⟨ys, ey⟩ := hall.items
        have ev : vs = intItems ys := by rw [← ey]
        subst ev
        refine PySem.sum_intListG ha.handled ⟨_, e, rfl, _, rfl⟩ fun h' tk t' hk => ?_
        have hn : is = ys.toList.map (·.1) := by
          have h1 := hi.numsOf
          rw [nums_intItems] at h1
          exact h1.symm
        have es : preSum (numAt ys) ys.size = is.sum := by
          rw [preSum_eq, hn, List.take_of_length_le (by simp)]
        rw [es]
        exact h _ h' tk (.of_all ok.tab hk) rv_int
    · cases ef
  · cases ef

/-- a list of pints, sorted -/
noncomputable def insI (a : Int) : List Int → List Int
  | [] => [a]
  | b :: r => if a ≤ b then a :: b :: r else b :: insI a r
noncomputable def sortInts : List Int → List Int
  | [] => []
  | a :: r => insI a (sortInts r)
theorem insI_perm (a : Int) : ∀ l : List Int, (insI a l).Perm (a :: l)
  | [] => .refl _
  | b :: r => by
    unfold insI
    split
    · exact .refl _
    · exact ((insI_perm a r).cons b).trans (List.Perm.swap a b r)
theorem sortInts_perm : ∀ l : List Int, (sortInts l).Perm l
  | [] => .refl _
  | a :: r => (insI_perm a _).trans ((sortInts_perm r).cons a)
theorem insI_sorted (a : Int) : ∀ l : List Int, l.Pairwise (· ≤ ·) → (insI a l).Pairwise (· ≤ ·)
  | [], _ => by unfold insI; exact List.pairwise_singleton _ _
  | b :: r, h => by
    unfold insI
    have h2 := List.pairwise_cons.mp h
    split
    · rename_i hab
      refine List.pairwise_cons.mpr ⟨fun c hc => ?_, h⟩
      rcases List.mem_cons.mp hc with rfl | hc
      · exact hab
      · exact Int.le_trans hab (h2.1 c hc)
    · rename_i hab
      refine List.pairwise_cons.mpr ⟨fun c hc => ?_, insI_sorted a r h2.2⟩
      rcases List.mem_cons.mp ((insI_perm a r).mem_iff.mp hc) with rfl | hc
      · omega
      · exact h2.1 c hc
theorem sortInts_sorted : ∀ l : List Int, (sortInts l).Pairwise (· ≤ ·)
  | [] => .nil
  | a :: r => insI_sorted a _ (sortInts_sorted r)
theorem sorted_unique : ∀ {l l' : List Int}, l.Perm l' → l.Pairwise (· ≤ ·) → l'.Pairwise (· ≤ ·) → l = l'
  | [], l', p, _, _ => p.nil_eq
  | a :: r, l', p, h, h' => by
    cases l' with
    | nil => exact absurd p.length_eq (by simp)
    | cons b r' =>
      have h1 := List.pairwise_cons.mp h
      have h2 := List.pairwise_cons.mp h'
      have ab : a ≤ b := by
        rcases List.mem_cons.mp (p.mem_iff.mpr (List.mem_cons_self : b ∈ b :: r')) with q | q
        · rw [q]; exact Int.le_refl _
        · exact h1.1 b q
      have ba : b ≤ a := by
        rcases List.mem_cons.mp (p.mem_iff.mp (List.mem_cons_self : a ∈ a :: r)) with q | q
        · rw [q]; exact Int.le_refl _
        · exact h2.1 a q
      have e : a = b := Int.le_antisymm ab ba
      subst e
      rw [sorted_unique (List.Perm.cons_inv p) h1.2 h2.2]

theorem rdAll_ints {h : Heap} : ∀ {vs : List Value} {is : List Int}, IntsAre vs is → RdAll h vs (is.map .int) []
  | _, _, .nil => .nil
  | _, _, .cons i t r => RdAll.cons (as := []) (bs := []) (.int i t) (rdAll_ints r)

end Mine
end
section -- F26
open PySem PySem.Spec PySem.Calls PySem.W PyProof.Rows
set_option Elab.async false
set_option maxRecDepth 100000
namespace Mine
variable {C : Cx} {τ τ' : List Str} {κ : Str → Option NameKind} {n : Nat}

theorem rdAll_rep {h : Heap} {vs : List Value} {xs : List PyData} {as : List Addr} (r : RdAll h vs xs as) : ∀ k : Nat, ∃ bs, RdAll h (List.replicate k vs).flatten (List.replicate k xs).flatten bs ∧ ∀ b ∈ bs, b ∈ as
  | 0 => ⟨[], .nil, fun _ hb => nomatch hb⟩
  | k + 1 => by
    obtain ⟨bs, q, hb⟩ := rdAll_rep r k
    refine ⟨as ++ bs, ?_, fun b hm => ?_⟩
    · rw [List.replicate_succ, List.replicate_succ, List.flatten_cons, List.flatten_cons]
      exact rdAll_append r q
    · rcases List.mem_append.mp hm with hm | hm
      · exact hm
      · exact hb b hm

/-- a list as often as an int says -/
noncomputable def oMulL : DV → DV → Option DV
  | .p (.list xs), .p (.int k) => if 0 ≤ k ∧ k ≤ 1000 ∧ xs.length ≤ 1000 then some (.p (.list (List.replicate k.toNat xs).flatten)) else none
  | _, _ => none
theorem op_mulL : Op2 C n (binaryOp .Mult) oMulL := by
  intro S A s a b d u v Q E ha ho hs ru rv e h
  unfold oMulL at e
  split at e
  · rename_i xs k
    split at e
    · rename_i hz
      cases e
      obtain ⟨t2, rfl⟩ := of_int rv
      obtain ⟨l, vs, m, as, rfl, el, r, hl, has⟩ := of_list ru
      have hlen : vs.size ≤ 1000 := by
        have := rdAll_length r
        rw [Array.length_toList] at this
        omega
      have hk : k.toNat ≤ 1000 := by omega
      have hsz : vs.size * k.toNat ≤ 2 ^ 24 := Nat.le_trans (Nat.mul_le_mul hlen hk) (by decide)
      obtain ⟨bs, q, hb⟩ := rdAll_rep r k.toNat
      refine wpAny_binaryOp_repeat_ref (T := "list") (U := "int") (by decide) ⟨_, el, rfl⟩ (fun s' => typeIs_int s' k t2) noFill_list_mul F.fills_int_mul F.slot_int_rmul repeat_list F.slot_int_index.lookup
        (call_meets F.slot_int_rmul (typeIs_int s k t2) F.entry_int_rmul (F.args_int_rmul_2 _ _) (lm_int_rmul_list_any k t2 l vs m none #[])
          ⟨el, rfl, ⟨_, el, rfl⟩, call_meets F.slot_list_mul ⟨_, el, rfl⟩ F.entry_list_mul (F.args_list_mul_2 _ _)
            (lm_list_mul_any l vs m none #[] k t2 (by simp [Builtin.List.listFitsIndex]; omega) (by omega) (by simp [Builtin.List.listTooLong, sizeLine]; omega))
            ⟨el, ?_⟩⟩)
      show Q _ _
      have e1 := rv_new (C := C) (S := S) ho.tab hs q fun b hbm => has b (hb b hbm)
      have e2 := listMul_foldl_if vs k.toNat
      rw [e2]
      exact h _ _ s.toks (Keep.push ho.tab _) e1
    · cases e
  · cases e

/-- minus -/
noncomputable def fNeg (f : G → Option DV) : G → Option DV := fun Γ => match f Γ with
  | some (.p (.int a)) => some (dint (-a))
  | _ => none
theorem se_neg {e : Expr} {pos : Pos} {f : G → Option DV} (hf : SE C τ κ n e f) : SE C τ κ n (.UnaryOp .USub e pos) (fNeg f) := by
  intro env S A s Γ d Q E ha fe re ed h
  unfold fNeg at ed
  split at ed
  · rename_i a ea
    cases ed
    refine wpAny_UnaryOp (hf env S A s Γ _ _ E ha fe re ea fun v h₁ tk₁ k₁ rv => ?_)
    obtain ⟨t, rfl⟩ := of_int rv
    exact P.neg_int (h _ _ _ k₁ rv_int)
  · cases ed

/-- a test that is a value: a call's -/
theorem sb_val {e : Expr} {f : G → Option DV} (hf : SE C τ κ n e f) (hp : ∀ env (whole : Sem Value), isTrue e env whole = (do let v ← whole; standAt e.pos; holding [v] (truthy v))) : SB C τ κ n e (fun Γ => asB (f Γ)) := by
  intro env S A s Γ b Q E ha fe re eb h
  refine isTrue_plain (he := hp env _) (hf env S A s Γ _ _ E ha fe re (asB_some eb) fun v h₁ tk₁ k₁ rv => ?_)
  rw [of_bool rv]
  exact wpAny_truthy_bool (h h₁ tk₁ k₁)

/-- a text of the module's -/
theorem se_gstr {x : Str} {pos : Pos} {y : Str} {t : Tok} (hg : C.mg x = some (.str y t)) (hk : κ x = some .globalImplicit) (hd : (x == ("__debug__" : Str)) = false) : SE C τ κ n (.Name x pos) (fun _ => some (dstr y)) := by
  intro env S A s Γ d Q E ha fe re ed h
  cases ed
  exact glob_name fe re.ok hk (.inl hg) hd (h _ s.heap s.toks (.refl re.ok.tab) rv_str)

/-- what is never reached -/
theorem s1_never {st : Stmt} : S1 C τ κ n st (fun _ _ => none) := by
  intro env S₀ W own A s Γ r Q E _ _ _ e
  cases e
theorem ss_never {sts : List Stmt} : SS C τ κ n sts (fun _ _ => none) := by
  intro env S₀ W own A s Γ r Q E _ _ _ e
  cases e
theorem se_never {e : Expr} : SE C τ κ n e (fun _ => none) := by
  intro env S A s Γ d Q E _ _ _ ed
  cases ed

/-- isinstance(int, tuple) -/
noncomputable def fNotTuple (f : G → Option DV) : G → Option DV := fun Γ => match f Γ with
  | some (.p (.int _)) => some (dbool false)
  | _ => none
theorem isinst_int_tuple {prog : Program} {w : World} {A : Around} {s : Shared} {a : Int} {t : Tok} {Q : Value → Shared → Prop} {E : Value → Shared → Prop} (h : Q (.bool false) { s with toks := s.toks + 1 }) :
    wpAny (model prog w) A (call (.builtin "isinstance") [.int a t, .type "tuple"]) Q E s :=
  PySem.call_isinstance (isinstance_false_int (by decide +kernel) F.isi_meta_tuple F.sub_int_tuple) h
theorem se_nottuple {x y : Str} {p q pos : Pos} {e : Expr} {f : G → Option DV} (hf : SE C τ κ n e f)
    (hg : C.mg x = none) (hb : C.mb x = some (.builtin "isinstance")) (hk : κ x = some .globalImplicit) (hd : (x == ("__debug__" : Str)) = false)
    (hg' : C.mg y = none) (hb' : C.mb y = some (.type "tuple")) (hk' : κ y = some .globalImplicit) (hd' : (y == ("__debug__" : Str)) = false)
    (hst : ∀ env, starEach [e, .Name y q] env = (false, eval e env) :: starEach [.Name y q] env)
    (hst' : ∀ env, starEach [.Name y q] env = (false, eval (.Name y q) env) :: starEach [] env)
    (hpl : ∀ env, (backTo pos (starEach [.Name y q] env)).any (·.1) = false)
    (hev : ∀ env, eval (.Call (.Name x p) [e, .Name y q] [] pos) env = (do callWith pos (← eval (.Name x p) env) [] (backTo pos (starEach [e, .Name y q] env)) (backToKw pos (keywordEach [] env)))) :
    SE C τ κ n (.Call (.Name x p) [e, .Name y q] [] pos) (fNotTuple f) := by
  intro env S A s Γ d Q E ha fe re ed h
  unfold fNotTuple at ed
  split at ed
  · rename_i i ei
    cases ed
    refine Call_ (glob_name fe re.ok hk (.inr ⟨hg, hb⟩) hd ?_) (hev env)
    have hb : wpAny (model C.prog C.w) A (spliced (backTo pos (starEach [e, .Name y q] env))) (fun vs s₁ => wpAny (model C.prog C.w) A (call (.builtin "isinstance") vs) Q E s₁) E s := by
      refine args_cons (hf env S A s Γ _ _ E ha fe re ei fun v h₁ tk₁ k₁ rv => ?_) (hst env)
      refine args_cons (glob_name fe (re.pure k₁).ok hk' (.inr ⟨hg', hb'⟩) hd' ?_) (hst' env)
      refine args_nil ?_
      obtain ⟨t, rfl⟩ := of_int rv
      exact isinst_int_tuple (h _ _ _ k₁ rv_bool)
    rw [hst env] at hb ⊢
    refine Calls.callWith_builtin ?_ (Calls.evalArgs_plain hb)
    show (false || (backTo pos (starEach [.Name y q] env)).any (·.1)) = false
    rw [hpl env]; rfl
  · cases ed

/-- one pair in a dict display -/
noncomputable def fDict1 (fk fv : G → Option DV) : G → Option DV := fun Γ => match fk Γ, fv Γ with
  | some (.p (.int k)), some (.p (.int v)) => some (.dict [(k, v)])
  | _, _ => none
theorem se_dict1 {ek ev : Expr} {pos : Pos} {fk fv : G → Option DV} (hk : SE C τ κ n ek fk) (hv : SE C τ κ n ev fv) : SE C τ κ n (.Dict [some ek] [ev] pos) (fDict1 fk fv) := by
  intro env S A s Γ d Q E ha fe re ed h
  unfold fDict1 at ed
  split at ed
  · rename_i k v efk efv
    cases ed
    refine wpAny_Dict_walk (knd := intKind C.prog C.w) rfl rfl (by simp) (by simp) ?_
    have k₀ := Keep.push (C := C) re.ok.tab ({ cls := .type "dict", data := .dict #[] } : Obj)
    have re₀ := re.pure k₀
    refine pairTrees_cons_walk (hk env S A _ Γ _ _ E ha fe re₀ efk fun u h₁ tk₁ k₁ ru => ?_)
    have re₁ := re₀.pure k₁
    refine hv env S A _ Γ _ _ E ha fe re₁ efv fun u' h₂ tk₂ k₂ ru' => ?_
    refine pairTrees_nil_walk ?_
    obtain ⟨t1, rfl⟩ := of_int ru
    obtain ⟨t2, rfl⟩ := of_int ru'
    have k₁₂ := k₁.trans k₂
    have fresh : s.heap.get? s.heap.objs.size = none := get_fresh _
    have tabne : s.heap.objs.size ≠ C.tab := fun q => by
      obtain ⟨o', vs, e', _, _⟩ := C.tabGet s.heap re.ok.tab
      rw [← q, fresh] at e'; cases e'
    have at₀ : (s.heap.push ({ cls := .type "dict", data := .dict #[] } : Obj)).get? s.heap.objs.size = some { cls := .type "dict", data := .dict #[] } := Heap.get?_push_size _ rfl
    refine ⟨[(k, .int v t2)], ⟨intKind_int, rfl, trivial⟩, ?_, fun h' hd hs => ?_⟩
    · exact ⟨_, #[], 0, k₁₂.get _ _ at₀ (fun q => nomatch q) tabne, ⟨rfl, rfl, rfl⟩, rfl, (fun _ he => by simp at he), .nil, List.nodup_nil⟩
    · have old : ∀ b o, s.heap.get? b = some o → b ≠ C.tab → h'.get? b = some o := fun b o e ht =>
        (hs.2 b (fun q => by rw [q, fresh] at e; cases e)).trans (k₁₂.get b o (k₀.get b o e (fun q => nomatch q) ht) (fun q => nomatch q) ht)
      obtain ⟨oD, esD, nD, eD, dD, _⟩ := dictOf_get hd
      have tb : C.Tab h' := C.tabKeep _ h' (k₁₂.tab) fun b o vs e hd' _ => by
        refine (hs.2 b fun q => ?_).trans e
        have e2 := k₁₂.get _ _ at₀ (fun q => nomatch q) tabne
        rw [q, e2] at e; cases e; cases hd'
      refine h _ h' _ ⟨fun b o e _ ht => old b o e ht, fun b o e => ?_, tb⟩ ⟨_, _, rfl, fun q => ?_, above_of re.ok (Nat.le_refl _), hd, ?_⟩
      · obtain ⟨o1, e1⟩ := k₀.live b o e
        obtain ⟨o2, e2⟩ := k₁₂.live b o1 e1
        exact ⟨o2, (hs.2 b (fun q => by rw [q, fresh] at e; cases e)).trans e2⟩
      · obtain ⟨o, e⟩ := re.live _ q
        rw [fresh] at e; cases e
      · exact .cons .nil
  · cases ed

noncomputable def pstrs : List PyData → Option (List Str)
  | [] => some []
  | .str x :: r => match pstrs r with
    | some xs => some (x :: xs)
    | none => none
  | _ :: _ => none
theorem strs_are {h : Heap} : ∀ {vs : List Value} {xs : List PyData} {as : List Addr} {ys : List Str}, RdAll h vs xs as → pstrs xs = some ys → ∃ l : List (Str × Tok), vs = strValues l ∧ l.map (·.1) = ys
  | _, _, _, ys, .nil, e => by cases e; exact ⟨[], rfl, rfl⟩
  | _, _, _, ys, .cons (d := d) (ds := ds) r rs, e => by
    cases d with
    | str x =>
      cases q : pstrs ds with
      | none => simp [pstrs, q] at e
      | some zs =>
        simp [pstrs, q] at e
        subst e
        cases r with
        | str _ t =>
          obtain ⟨l, e1, e2⟩ := strs_are rs q
          exact ⟨(x, t) :: l, by rw [e1]; rfl, by rw [List.map_cons, e2]⟩
    | _ => simp [pstrs] at e

/-- sep.join(e) -/
noncomputable def fJoin (sep : Str) (f : G → Option DV) : G → Option DV := fun Γ => match f Γ with
  | some (.p (.list xs)) => match pstrs xs with
    | some ys => if JoinOk sep ys = true then some (dstr (Txt.join sep ys)) else none
    | none => none
  | _ => none
theorem se_join {sep : Str} {k : Nat} {p apos pos : Pos} {e : Expr} {f : G → Option DV} (hf : SE C τ κ n e f)
    (hbase : ∀ env, attributeBase (.Constant (.str sep) k p) "join" env (eval (.Constant (.str sep) k p) env) = eval (.Constant (.str sep) k p) env)
    (hs : ∀ env, starEach [e] env = [(false, eval e env)]) (hline : (apos.endLine == pos.line) = true) :
    SE C τ κ n (.Call (.Attribute (.Constant (.str sep) k p) "join" apos) [e] [] pos) (fJoin sep f) := by
  intro env S A s Γ d Q E ha fe re ed h
  unfold fJoin at ed
  split at ed
  · rename_i xs ex
    split at ed
    · rename_i ys ey
      split at ed
      · rename_i hok
        cases ed
        refine Call_method1 (hbase env) (hs env) hline (wpAny_Constant_str (SB.join ?_))
        refine hf env S A _ Γ _ _ E ha fe (re.pure (.refl re.ok.tab)) ex fun v h₁ tk₁ k₁ rv => ?_
        obtain ⟨a, vs, m, as, rfl, e1, r, _⟩ := of_list rv
        obtain ⟨l, el, ely⟩ := strs_are r ey
        refine ⟨a, l, rfl, ?_, ys, ely, hok, fun t' tk => h _ _ _ k₁ rv_str⟩
        rw [← el]
        exact ⟨_, e1, rfl, m, by simp⟩
      · cases ed
    · cases ed
  · cases ed

/-- a text from a place on -/
noncomputable def fFrom (i : Int) (f : G → Option DV) : G → Option DV := fun Γ => match f Γ with
  | some (.p (.str x)) => if x.length ≤ 1000000 then some (dstr (Txt.slice x (some i) none)) else none
  | _ => none
theorem se_from {val : Expr} {i : Int} {k : Nat} {ip p pos : Pos} {f : G → Option DV} (hf : SE C τ κ n val f) (ht : ∀ o r, letTemporaryGo val o r = pure ()) :
    SE C τ κ n (.Subscript val (.Slice (some (.Constant (.int i) k ip)) none none p) pos) (fFrom i f) := by
  intro env S A s Γ d Q E ha fe re ed h
  unfold fFrom at ed
  split at ed
  · rename_i x ex
    split at ed
    · rename_i hz
      cases ed
      refine wpAny_Subscript_str_slice (hf env S A s Γ _ _ E ha fe re ex fun v h₁ tk₁ k₁ rv => ?_) ht
      obtain ⟨t, rfl⟩ := of_str rv
      refine evalPart_some_step (wpAny_Constant_int (evalPart_none_step ?_))
      refine ⟨x, t, some (i, _), none, rfl, rfl, rfl, ?_⟩
      have kp := Keep.push (C := C) (re.pure k₁).ok.tab ({ cls := .type "slice", data := .fields #[.int i tk₁, .none, .none] } : Obj)
      refine post_val_or_str ⟨Nat.le_trans (Txt.slice_le x (some i) none) (Nat.le_trans hz (by decide)), fun t' tk => ?_⟩
      exact h _ _ tk (k₁.trans kp) rv_str
    · cases ed
  · cases ed

/-- a list from behind -/
noncomputable def fRev (f : G → Option DV) : G → Option DV := fun Γ => match f Γ with
  | some (.p (.list xs)) => if xs.length ≤ 1000000 then some (.p (.list xs.reverse)) else none
  | _ => none
theorem rdAll_reverse {h : Heap} : ∀ {vs : List Value} {xs : List PyData} {as : List Addr}, RdAll h vs xs as → ∃ bs, RdAll h vs.reverse xs.reverse bs ∧ ∀ b ∈ bs, b ∈ as
  | _, _, _, .nil => ⟨[], .nil, fun _ hb => hb⟩
  | _, _, _, .cons (as := as) (bs := bs) r rs => by
    obtain ⟨cs, q, hc⟩ := rdAll_reverse rs
    refine ⟨cs ++ (as ++ []), ?_, fun b hb => ?_⟩
    · rw [List.reverse_cons, List.reverse_cons]
      exact rdAll_append q (.cons r .nil)
    · rcases List.mem_append.mp hb with hb | hb
      · exact List.mem_append_right _ (hc b hb)
      · rw [List.append_nil] at hb; exact List.mem_append_left _ hb
theorem se_rev {val : Expr} {k : Nat} {ip p up pos : Pos} {f : G → Option DV} (hf : SE C τ κ n val f)
    (hs : ∀ o i, ∃ ops, subscripted (.Slice none none (some (.UnaryOp .USub (.Constant (.int 1) k ip) up)) p) false o i = operate ops (getItem o i)) :
    SE C τ κ n (.Subscript val (.Slice none none (some (.UnaryOp .USub (.Constant (.int 1) k ip) up)) p) pos) (fRev f) := by
  intro env S A s Γ d Q E ha fe re ed h
  unfold fRev at ed
  split at ed
  · rename_i xs ex
    split at ed
    · rename_i hz
      cases ed
      refine Subscript_ (hf env S A s Γ _ _ E ha fe re ex fun v h₁ tk₁ k₁ rv => ?_)
      obtain ⟨a, vs, m, as, rfl, e1, r, hS, has⟩ := of_list rv
      refine wpAny_Slice (evalPart_none_step (evalPart_none_step (evalPart_some_step (wpAny_UnaryOp (wpAny_Constant_int (P.neg_int ?_))))))
      have re₁ := re.pure k₁
      have kp := Keep.push (C := C) re₁.ok.tab ({ cls := .type "slice", data := .fields #[.none, .none, .int (-1) (tk₁ + 1)] } : Obj)
      have re₂ := re₁.pure kp
      have e2 := Heap.get?_push_of_some ({ cls := .type "slice", data := .fields #[.none, .none, .int (-1) (tk₁ + 1)] } : Obj) e1
      have hsz : vs.size = xs.length := by rw [← rdAll_length r, Array.length_toList]
      obtain ⟨ops, hops⟩ := hs (.ref a) (.ref h₁.objs.size)
      refine tail_any (T := "list") ⟨_, e2, rfl⟩ slot_list_getitem.lookup (wpAny_getItem_list_slice (lo := none) (hi := none) (st := some (-1)) ⟨_, e2, rfl, _, rfl⟩ (Heap.IsSliceOf.new _ _ _ _) .none .none (.int _ _) (by decide) ?_ (by rw [hsz]; exact Nat.le_trans hz (by decide))) hops
      rw [krv_pick]
      obtain ⟨bs, q, hb⟩ := rdAll_reverse (rdAll_keep kp.get re₁.ok.tab (fun _ hb => nomatch hb) r (fun _ _ q => nomatch q))
      exact h _ _ _ ((k₁.trans kp).trans (Keep.push re₂.ok.tab _)) (rv_new re₂.ok.tab re₂.live q fun b hm => has b (hb b hm))
    · cases ed
  · cases ed
end Mine
end
section -- F27
open PySem PySem.Spec PySem.Calls PySem.W PyProof.Rows
set_option Elab.async false
set_option maxRecDepth 100000
namespace Mine
variable {C : Cx} {τ τ' : List Str} {κ : Str → Option NameKind} {n : Nat}

/-- lists of ints compared -/
noncomputable def ltI : List Int → List Int → Bool
  | [], [] => false
  | [], _ :: _ => true
  | _ :: _, [] => false
  | a :: r, b :: q => if a = b then ltI r q else decide (a < b)

theorem intsAre_get : ∀ {vs : List Value} {xs : List Int}, IntsAre vs xs → ∀ i (h : i < xs.length), ∃ t, vs[i]? = some (.int xs[i] t)
  | _, _, .nil, i, h => absurd h (Nat.not_lt_zero _)
  | _, _, .cons a t r, i, h => by
    cases i with
    | zero => exact ⟨t, rfl⟩
    | succ i => obtain ⟨t', e⟩ := intsAre_get r i (Nat.lt_of_succ_lt_succ h); exact ⟨t', by simpa using e⟩

theorem lt_loop (l b : Addr) (vs ws : Array Value) (m k : Nat) (xs ys : List Int) (hx : IntsAre vs.toList xs) (hy : IntsAre ws.toList ys) (f : Nat) :
    ∀ i : Nat, i ≤ xs.length → i ≤ ys.length → xs.length - i = f → Meets (Builtin.«list.__eq__.loop» ⟨[.ref l, .ref b, rawInt i, rawInt 0], []⟩)
      (fun _ R s => s.heap.get? l = some (lobj vs m) ∧ s.heap.get? b = some (lobj ws k) ∧ R (.ok (.ret (.bool (ltI (xs.drop i) (ys.drop i))))) s) := by
  have lx : vs.size = xs.length := by have := hx.length; simpa using this
  have ly : ws.size = ys.length := by have := hy.length; simpa using this
  induction f with
  | zero =>
    intro i hi hi' hf prog w A R s h
    obtain ⟨hp, g, d, tk, os⟩ := s; obtain ⟨hl, hb, h⟩ := h
    wp_walk using AutoSeq1.wpAny_loadPart' hl, AutoSeq1.wpAny_loadPart' hb
    have hi1 : vs[((i : Nat) : Int).toNat]? = none := by simp; omega
    rw [hi1]
    have hd : xs.drop i = [] := by simp; omega
    rw [hd] at h
    wp_walk using AutoSeq1.wpAny_loadPart' hl, AutoSeq1.wpAny_loadPart' hb
    show R (.ok (.ret (.bool (decide (vs.size < ws.size))))) _
    have : decide (vs.size < ws.size) = ltI [] (ys.drop i) := by
      rw [lx, ly]
      by_cases q : xs.length < ys.length
      · rw [decide_eq_true q]
        have hlt : i < ys.length := by omega
        rw [List.drop_eq_getElem_cons hlt]; rfl
      · rw [decide_eq_false q]
        have : ys.drop i = [] := by simp; omega
        rw [this]; rfl
    rw [this]; exact h
  | succ f ih =>
    intro i hi hi' hf prog w A R s h
    obtain ⟨hp, g, d, tk, os⟩ := s; obtain ⟨hl, hb, h⟩ := h
    have hlt : i < xs.length := by omega
    obtain ⟨t, ei⟩ := intsAre_get hx i hlt
    have hi1 : vs[((i : Nat) : Int).toNat]? = some (.int xs[i] t) := by simpa using ei
    wp_walk using AutoSeq1.wpAny_loadPart' hl, AutoSeq1.wpAny_loadPart' hb
    rw [hi1]
    rw [List.drop_eq_getElem_cons hlt] at h
    by_cases hlt2 : i < ys.length
    · obtain ⟨u, ej⟩ := intsAre_get hy i hlt2
      have hi2 : ws[((i : Nat) : Int).toNat]? = some (.int ys[i] u) := by simpa using ej
      rw [hi2]
      rw [List.drop_eq_getElem_cons hlt2] at h
      have hc : ((i : Int) + 1) = ((i + 1 : Nat) : Int) := by push_cast; rfl
      refine wpAny_bind (MeetsSeq.EqGives.int _ _ _ _ prog w _ _ _ _ ?_)
      by_cases e : xs[i] = ys[i]
      · rw [beq_iff_eq.mpr e]
        wp_walk
        rw [hc]
        unfold ltI at h
        rw [if_pos e] at h
        exact ⟨plainId_quiet MeetsSeq3.plain_eq_loop _, codeAny_builtin MeetsSeq3.entry_eq_loop (by
          rw [Around.under_plainId MeetsSeq3.plain_eq_loop _]
          exact ih (i + 1) hlt hlt2 (by omega) prog w A R _ ⟨hl, hb, h⟩)⟩
      · rw [beq_eq_false_iff_ne.mpr e]
        unfold ltI at h
        rw [if_neg e] at h
        wp_walk using AutoSeq1.wpAny_loadPart' hl, AutoSeq1.wpAny_loadPart' hb
        rw [hi1, hi2]
        refine wpAny_bind (m := richCompare .Lt (.int xs[i] t) (.int ys[i] u)) (lt_int (a := xs[i]) (b := ys[i]) ?_)
        exact wpAny_pure h
    · have hi2 : ws[((i : Nat) : Int).toNat]? = none := by simp; omega
      rw [hi2]
      have hd : ys.drop i = [] := by simp; omega
      rw [hd] at h
      wp_walk using AutoSeq1.wpAny_loadPart' hl, AutoSeq1.wpAny_loadPart' hb
      show R (.ok (.ret (.bool (decide (vs.size < ws.size))))) _
      have : decide (vs.size < ws.size) = ltI (xs[i] :: xs.drop (i + 1)) [] := by
        rw [lx, ly, decide_eq_false (by omega)]; rfl
      rw [this]; exact h

theorem list_lt (l b : Addr) (vs ws : Array Value) (m k : Nat) (xs ys : List Int) (hx : IntsAre vs.toList xs) (hy : IntsAre ws.toList ys) :
    Meets (Builtin.«list.__lt__» ⟨[.ref l, .ref b], []⟩)
      (fun _ R s => s.heap.get? l = some (lobj vs m) ∧ s.heap.get? b = some (lobj ws k) ∧ R (.ok (.ret (.bool (ltI xs ys)))) s) := by
  intro prog w A R s h
  obtain ⟨hp, g, d, tk, os⟩ := s; obtain ⟨hl, hb, h⟩ := h
  have f3 := AutoSeq1.sub_list_list
  wp_walk using AutoSeq1.wpAny_loadPart' hl, AutoSeq1.wpAny_loadPart' hb
  exact ⟨plainId_quiet MeetsSeq3.plain_eq_loop _, codeAny_builtin MeetsSeq3.entry_eq_loop (by
    rw [Around.under_plainId MeetsSeq3.plain_eq_loop _]
    exact lt_loop l b vs ws m k xs ys hx hy _ 0 (Nat.zero_le _) (Nat.zero_le _) rfl prog w A R _ ⟨hl, hb, by simpa using h⟩)⟩

/-- the comparison of the sort -/
theorem sort_lt {prog : Program} {w : World} {A : Around} {E : Value → Shared → Prop} {s : Shared} {l b : Addr} {vs ws : Array Value} {m k : Nat} {xs ys : List Int} {Q : Bool → Shared → Prop} (hu : A.units < cLine)
    (hl : s.heap.get? l = some (lobj vs m)) (hb : s.heap.get? b = some (lobj ws k)) (hx : IntsAre vs.toList xs) (hy : IntsAre ws.toList ys) (h : Q (ltI xs ys) s) :
    wpAny (model prog w) A (keyLt' oneType' (.ref l) (.ref b)) Q E s := by
  rw [keyLt'_oneType, oneLt'_eq]
  simp only [if_true]
  refine wpAny_bind (wpAny_cRoomFor hu ?_)
  refine wpAny_bind (wpAny_callSpecialIfBound?_slot (T := "list") ⟨_, hl, rfl⟩ F.slot_list_lt (call_meets F.slot_list_lt ⟨_, hl, rfl⟩ F.entry_list_lt (F.args_list_lt_2 _ _) (list_lt l b vs ws m k xs ys hx hy) ⟨hl, hb, ?_⟩))
  exact wpAny_truthy_bool h

/-- the sort's questions, answered -/
noncomputable def kasRun {α : Type} (n : Nat) (lt : Nat → Nat → Bool) : KasT α → Option α
  | .ret a => some a
  | .ask i j k => if i < n ∧ j < n then kasRun n lt (k (lt i j)) else none
theorem kasRun_wp {α : Type} {n : Nat} {lt : Nat → Nat → Bool} {cmp : Nat → Nat → (Bool → Shared → Prop) → Shared → Prop} {s : Shared} {Q : α → Shared → Prop}
    (hc : ∀ i j C, i < n → j < n → C (lt i j) s → cmp i j C s) : ∀ (t : KasT α) {a : α}, kasRun n lt t = some a → Q a s → t.kasWp cmp Q s
  | .ret b, a, e, h => by cases e; exact h
  | .ask i j k, a, e, h => by
    unfold kasRun at e
    split at e
    · rename_i hij
      exact hc i j _ hij.1 hij.2 (kasRun_wp hc (k (lt i j)) e h)
    · cases e

theorem list_sort_kas {prog : Program} {w : World} {A : Around} {E : Value → Shared → Prop} {s : Shared} {a : Addr} {vs : List Value} {m : Nat} {lt : Nat → Nat → Bool} {p : Array Nat} {P : PySem.Fin → Shared → Prop}
    (ho : s.heap.get? a = some (seqObj "list" vs.toArray m)) (h2 : 2 ≤ vs.length) (h64 : vs.length < 64)
    (hT : ∀ h', (∀ b o, b ≠ a → s.heap.get? b = some o → h'.get? b = some o) → ∀ v ∈ vs, Looks (model prog w) h' (typeOf v) (.type "list"))
    (hc : ∀ h', (∀ b o, b ≠ a → s.heap.get? b = some o → h'.get? b = some o) → ∀ i j C, i < vs.length → j < vs.length → C (lt i j) { s with heap := h' } → kas_ask prog w A oneType' vs i j C { s with heap := h' })
    (hr : kasRun vs.length lt (kas_sort vs.length) = some p)
    (h : P (.done (.ret .none)) { s with heap := sortedHeap s.heap a vs (List.toArray (p.toList.map fun i => vs.getD i Value.none)) }) :
    wpAny (model prog w) A (Builtin.«list.sort» ⟨[.ref a], []⟩) P E s := by
  rw [list_sort_plain]
  have ha : a < s.heap.objs.size := Heap.lt_size ho
  refine wpAny_bind (listItems_at ho rfl ?_)
  refine wpAny_bind (listUpdate_at ho rfl ?_ (by rw [List.size_toArray, sizeLine_eq]; omega) (Nat.zero_le _))
  obtain ⟨e1, ho1⟩ : ∃ e1, (s.heap.update a (Obj.mapSeq fun _ => #[])).get? a = some (seqObj "list" #[] e1) := ⟨_, get?_update_seq ho (fun _ => #[])⟩
  refine wpAny_bind (seqEpoch_at ho1 rfl ?_)
  refine wpAny_bind (wpAny_newTuple ?_ (by show vs.length ≤ _; rw [sizeLine_eq]; omega))
  refine wpAny_bind (wpAny_newList ?_ (Nat.zero_le _))
  refine wpAny_holding ?_
  have ho6 : (((s.heap.update a (Obj.mapSeq fun _ => #[])).push (seqObj "tuple" vs.toArray 0)).push (seqObj "list" #[] 0)).get? a = some (seqObj "list" #[] e1) := by
    rw [Heap.get?_push_ne _ _ _ (by rw [size_push', Heap.size_update]; exact Nat.ne_of_lt (Nat.lt_succ_of_lt ha)), Heap.get?_push_ne _ _ _ (by rw [Heap.size_update]; exact Nat.ne_of_lt ha)]
    exact ho1
  have keep : ∀ b o, b ≠ a → s.heap.get? b = some o → (((s.heap.update a (Obj.mapSeq fun _ => #[])).push (seqObj "tuple" vs.toArray 0)).push (seqObj "list" #[] 0)).get? b = some o := fun b o hb e => by
    have hlt := Heap.lt_size e
    rw [Heap.get?_push_ne _ _ _ (by rw [size_push', Heap.size_update]; exact Nat.ne_of_lt (Nat.lt_succ_of_lt hlt)), Heap.get?_push_ne _ _ _ (by rw [Heap.size_update]; exact Nat.ne_of_lt hlt), Heap.get?_update_ne _ _ _ _ hb]
    exact e
  show wpAny (model prog w) A _ P E { s with heap := ((s.heap.update a (Obj.mapSeq fun _ => #[])).push (seqObj "tuple" vs.toArray 0)).push (seqObj "list" #[] 0) }
  dsimp only
  have hn2 : ¬ vs.toArray.size < 2 := by rw [List.size_toArray]; omega
  rw [if_neg hn2, if_neg hn2]
  refine wpAny_bind (kas_kind h2 (hT _ keep) (by decide) (by decide) ?_)
  have est : SortSt.mk' oneType' (vs.toArray.zip vs.toArray) #[] 7 none = kas_st oneType' (pairsOf vs) (List.toArray (List.range vs.length)) := by
    have e := kas_range (pairsOf vs)
    rw [pairsOf_size] at e
    show SortSt.mk' oneType' (pairsOf vs) #[] 7 none = SortSt.mk' oneType' ((List.toArray (List.range vs.length)).map (kas_item (pairsOf vs))) #[] 7 none
    rw [e]
  have ask : (kas_sort vs.length).kasWp (kas_ask prog w A oneType' vs) (fun p' s' => p' = p ∧ s' = { s with heap := ((s.heap.update a (Obj.mapSeq fun _ => #[])).push (seqObj "tuple" vs.toArray 0)).push (seqObj "list" #[] 0) })
      { s with heap := ((s.heap.update a (Obj.mapSeq fun _ => #[])).push (seqObj "tuple" vs.toArray 0)).push (seqObj "list" #[] 0) } :=
    kasRun_wp (hc _ keep) _ hr ⟨rfl, rfl⟩
  rw [kas_ask_eq] at ask
  have run := kas_runs (E := E) (Q := fun _ st' s' => p.size = vs.length ∧ arrOf st' = p.map (kas_item (pairsOf vs)) ∧ failedOf st' = none ∧ s' = { s with heap := ((s.heap.update a (Obj.mapSeq fun _ => #[])).push (seqObj "tuple" vs.toArray 0)).push (seqObj "list" #[] 0) })
    h2 h64 (fun p' st' s' a1 a2 a3 a4 => by obtain ⟨rfl, rfl⟩ := a4; exact ⟨a1, a2, a3, rfl⟩) ask
  rw [← est] at run
  refine wpAny_bind (wpAny_mono run ?_ fun _ _ e => e)
  rintro ⟨⟨⟩, st'⟩ s' ⟨hp, har, hf, rfl⟩
  dsimp only
  have hout : (arrOf st').map (·.2) = List.toArray (p.toList.map fun i => vs.getD i Value.none) := by
    apply Array.toList_inj.mp
    rw [har, Array.map_map, Array.toList_map]
    exact List.map_congr_left fun i _ => by show (kas_item (pairsOf vs) i).2 = _; rw [kas_item_eq]
  have hsz : (List.toArray (p.toList.map fun i => vs.getD i Value.none)).size = vs.length := by rw [List.size_toArray, List.length_map, Array.length_toList, hp]
  rw [hout]
  refine wpAny_bind (seqEpoch_at ho6 rfl ?_)
  refine wpAny_bind (listUpdate_at ho6 rfl ?_ (Nat.zero_le _) (Nat.le_trans (Nat.le_of_eq hsz) (by rw [sizeLine_eq]; omega)))
  rw [hf]
  simp only [bne_self_eq_false, Bool.false_eq_true, if_false]
  exact wpAny_pure h
end Mine
end
section -- F28
open PySem PySem.Spec PySem.Calls PySem.W PyProof.Rows
set_option Elab.async false
set_option maxRecDepth 100000
namespace Mine
variable {C : Cx} {τ τ' : List Str} {κ : Str → Option NameKind} {n : Nat}

theorem seqObj_list (out : Array Value) (e : Nat) : seqObj "list" out e = lobj out e := rfl

theorem rdAll_of_ints {h : Heap} {vs : List Value} {is : List Int} (r : IntsAre vs is) : RdAll h vs (is.map .int) [] := rdAll_ints r

/-- a list of ints, sorted -/
noncomputable def bSortI : List DV → Option DV
  | [.p (.list xs)] => match pints xs with
    | some is => if is.length < 64 then some (.p (.list ((sortInts is).map .int))) else none
    | none => none
  | _ => none
theorem fs_sortI : FS C n (.builtin "sorted") bSortI := by
  intro S A s vs ds d Q E ha ok hS rs ef h
  unfold bSortI at ef
  split at ef
  · rename_i xs
    split at ef
    · rename_i is ei
      split at ef
      · rename_i hz
        cases ef
        cases rs with
        | cons r rs =>
          cases rs
          obtain ⟨a, us, m, as, rfl, e, r, _⟩ := of_list r
          have hi := ints_are r ei
          have hl := hi.length
          refine sorted_ints (vs := us.toList) ⟨_, e, rfl, m, by simp⟩ hi (by omega) fun out ns' h1 h2 h3 => ?_
          have en : ns' = sortInts is := sorted_unique (h2.trans (sortInts_perm is).symm) h3 (sortInts_sorted is)
          subst en
          obtain ⟨e', he⟩ := sortedAll_at s.heap us.toList out
          refine h _ _ s.toks (.of_all ok.tab fun b o q => sortedAll_old q) ⟨[s.heap.objs.size + 1], .list he (rdAll_ints h1), fun b hb q => ?_⟩
          rw [List.mem_singleton.mp hb] at q
          obtain ⟨o, q'⟩ := hS _ q
          exact absurd (Heap.lt_size q') (Nat.not_lt.mpr (Nat.le_succ _))
      · cases ef
    · cases ef
  · cases ef

/-- lists of ints -/
noncomputable def plists : List PyData → Option (List (List Int))
  | [] => some []
  | .list xs :: r => match pints xs, plists r with
    | some is, some ls => some (is :: ls)
    | _, _ => none
  | _ :: _ => none
/-- values that are lists of ints -/
inductive ListsAre (h : Heap) : List Value → List (List Int) → List Addr → Prop
  | nil : ListsAre h [] [] []
  | cons {a vs m is ws ls as} : h.get? a = some (lobj vs m) → IntsAre vs.toList is → ListsAre h ws ls as → ListsAre h (.ref a :: ws) (is :: ls) (a :: as)
theorem lists_are {h : Heap} : ∀ {vs : List Value} {xs : List PyData} {as : List Addr} {ls : List (List Int)}, RdAll h vs xs as → plists xs = some ls → ∃ bs, ListsAre h vs ls bs ∧ ∀ b ∈ bs, b ∈ as
  | _, _, _, ls, .nil, e => by cases e; exact ⟨[], .nil, fun _ hb => hb⟩
  | _, _, _, ls, .cons (d := d) (ds := ds) (as := as) (bs := bs) r rs, e => by
    cases d with
    | list xs =>
      cases q : pints xs with
      | none => simp [plists, q] at e
      | some is =>
        cases q' : plists ds with
        | none => simp [plists, q, q'] at e
        | some ls' =>
          simp [plists, q, q'] at e
          subst e
          cases r with
          | list ea ra =>
            obtain ⟨cs, l1, l2⟩ := lists_are rs q'
            refine ⟨_, .cons ea (ints_are ra q) l1, fun b hb => ?_⟩
            rcases List.mem_cons.mp hb with rfl | hb
            · exact List.mem_append_left _ (.head _)
            · exact List.mem_append_right _ (l2 b hb)
    | _ => simp [plists] at e
theorem listsAre_length {h : Heap} : ∀ {vs : List Value} {ls : List (List Int)} {as : List Addr}, ListsAre h vs ls as → vs.length = ls.length
  | _, _, _, .nil => rfl
  | _, _, _, .cons _ _ r => by rw [List.length_cons, List.length_cons, listsAre_length r]
theorem listsAre_get {h : Heap} : ∀ {vs : List Value} {ls : List (List Int)} {as : List Addr}, ListsAre h vs ls as → ∀ i, i < vs.length → ∃ a us m, vs.getD i Value.none = .ref a ∧ h.get? a = some (lobj us m) ∧ IntsAre us.toList (ls.getD i []) ∧ a ∈ as
  | _, _, _, .nil, i, hi => absurd hi (Nat.not_lt_zero _)
  | _, _, _, .cons e r rs, i, hi => by
    cases i with
    | zero => exact ⟨_, _, _, rfl, e, r, .head _⟩
    | succ i =>
      obtain ⟨a, us, m, e1, e2, e3, e4⟩ := listsAre_get rs i (Nat.lt_of_succ_lt_succ hi)
      exact ⟨a, us, m, by simpa using e1, e2, by simpa using e3, .tail _ e4⟩
theorem listsAre_keep {h h' : Heap} : ∀ {vs : List Value} {ls : List (List Int)} {as : List Addr}, ListsAre h vs ls as → (∀ b ∈ as, ∀ o, h.get? b = some o → h'.get? b = some o) → ListsAre h' vs ls as
  | _, _, _, .nil, _ => .nil
  | _, _, _, .cons e r rs, k => .cons (k _ (.head _) _ e) r (listsAre_keep rs fun b hb => k b (.tail _ hb))
theorem listsAre_live {h : Heap} : ∀ {vs : List Value} {ls : List (List Int)} {as : List Addr}, ListsAre h vs ls as → ∀ b ∈ as, ∃ o, h.get? b = some o
  | _, _, _, .nil, _, hb => nomatch hb
  | _, _, _, .cons e r rs, b, hb => by
    rcases List.mem_cons.mp hb with rfl | hb
    · exact ⟨_, e⟩
    · exact listsAre_live rs b hb

noncomputable def sortPos (ls : List (List Int)) : Option (List Nat) := if ls.length < 64 then
    if ls.length < 2 then some (List.range ls.length) else (kasRun ls.length (fun i j => ltI (ls.getD i []) (ls.getD j [])) (kas_sort ls.length)).map (·.toList)
  else none
/-- a list of lists of ints, sorted -/
noncomputable def bSortL : List DV → Option DV
  | [.p (.list xs)] => match plists xs with
    | some ls => match sortPos ls with
      | some p => some (.p (.list (p.map fun i => xs.getD i .none)))
      | none => none
    | none => none
  | _ => none

theorem rdAll_pick {h : Heap} {vs : List Value} {xs : List PyData} {as : List Addr} (r : RdAll h vs xs as) : ∀ p : List Nat, ∃ bs, RdAll h (p.map fun i => vs.getD i Value.none) (p.map fun i => xs.getD i .none) bs ∧ ∀ b ∈ bs, b ∈ as
  | [] => ⟨[], .nil, fun _ hb => nomatch hb⟩
  | i :: p => by
    obtain ⟨bs, q, hb⟩ := rdAll_pick r p
    have one : ∃ cs, Rd h (vs.getD i Value.none) (xs.getD i .none) cs ∧ ∀ c ∈ cs, c ∈ as := by
      have hl := rdAll_length r
      cases e : xs[i]? with
      | some d =>
        obtain ⟨v, cs, e1, r1, h1⟩ := rdAll_get r e
        refine ⟨cs, ?_, h1⟩
        rw [List.getD_eq_getElem?_getD, List.getD_eq_getElem?_getD, e, e1]; exact r1
      | none =>
        have : vs[i]? = none := by
          rw [List.getElem?_eq_none_iff] at e ⊢
          omega
        refine ⟨[], ?_, fun _ hc => nomatch hc⟩
        rw [List.getD_eq_getElem?_getD, List.getD_eq_getElem?_getD, e, this]; exact .none
    obtain ⟨cs, r1, h1⟩ := one
    refine ⟨cs ++ bs, .cons r1 q, fun b hm => ?_⟩
    rcases List.mem_append.mp hm with hm | hm
    · exact h1 b hm
    · exact hb b hm
theorem getD_range {α : Type} (l : List α) (d : α) : ((List.range l.length).map fun i => l.getD i d) = l := by
  apply List.ext_getElem
  · simp
  · intro i h1 h2
    simp at h1
    simp [h1]

theorem list_sort_short {prog : Program} {w : World} {A : Around} {E : Value → Shared → Prop} {s : Shared} {a : Addr} {vs : List Value} {m : Nat} {P : PySem.Fin → Shared → Prop}
    (ho : s.heap.get? a = some (seqObj "list" vs.toArray m)) (h2 : vs.length < 2) (h : P (.done (.ret .none)) { s with heap := sortedHeap s.heap a vs vs.toArray }) :
    wpAny (model prog w) A (Builtin.«list.sort» ⟨[.ref a], []⟩) P E s := by
  rw [list_sort_plain]
  have ha : a < s.heap.objs.size := Heap.lt_size ho
  refine wpAny_bind (listItems_at ho rfl ?_)
  refine wpAny_bind (listUpdate_at ho rfl ?_ (by rw [List.size_toArray, sizeLine_eq]; omega) (Nat.zero_le _))
  obtain ⟨e1, ho1⟩ : ∃ e1, (s.heap.update a (Obj.mapSeq fun _ => #[])).get? a = some (seqObj "list" #[] e1) := ⟨_, get?_update_seq ho (fun _ => #[])⟩
  refine wpAny_bind (seqEpoch_at ho1 rfl ?_)
  refine wpAny_bind (wpAny_newTuple ?_ (by show vs.length ≤ _; rw [sizeLine_eq]; omega))
  refine wpAny_bind (wpAny_newList ?_ (Nat.zero_le _))
  refine wpAny_holding ?_
  have ho6 : (((s.heap.update a (Obj.mapSeq fun _ => #[])).push (seqObj "tuple" vs.toArray 0)).push (seqObj "list" #[] 0)).get? a = some (seqObj "list" #[] e1) := by
    rw [Heap.get?_push_ne _ _ _ (by rw [size_push', Heap.size_update]; exact Nat.ne_of_lt (Nat.lt_succ_of_lt ha)), Heap.get?_push_ne _ _ _ (by rw [Heap.size_update]; exact Nat.ne_of_lt ha)]
    exact ho1
  show wpAny (model prog w) A _ P E { s with heap := ((s.heap.update a (Obj.mapSeq fun _ => #[])).push (seqObj "tuple" vs.toArray 0)).push (seqObj "list" #[] 0) }
  dsimp only
  have hn2 : vs.toArray.size < 2 := by rw [List.size_toArray]; omega
  rw [if_pos hn2, if_pos hn2]
  refine wpAny_bind (wpAny_pure ?_)
  rw [StateT.run_pure]
  refine wpAny_bind (wpAny_pure ?_)
  dsimp only
  have hout : (arrOf (SortSt.mk' general' (vs.toArray.zip vs.toArray) #[] 7 none)).map (·.2) = vs.toArray := by
    show (vs.toArray.zip vs.toArray).map (·.2) = vs.toArray
    apply Array.toList_inj.mp
    rw [Array.toList_map, Array.toList_zip]
    exact List.map_snd_zip (Nat.le_refl _)
  rw [hout]
  refine wpAny_bind (seqEpoch_at ho6 rfl ?_)
  refine wpAny_bind (listUpdate_at ho6 rfl ?_ (Nat.zero_le _) (by rw [List.size_toArray, sizeLine_eq]; omega))
  have hf : failedOf (SortSt.mk' general' (vs.toArray.zip vs.toArray) #[] 7 none) = none := rfl
  simp only [bne_self_eq_false, Bool.false_eq_true, if_false]
  exact wpAny_pure h

theorem fs_sortL (hn : 1 ≤ n) : FS C n (.builtin "sorted") bSortL := by
  intro S A s vs ds d Q E ha ok hS rs ef h
  unfold bSortL at ef
  split at ef
  · rename_i xs
    split at ef
    · rename_i ls el
      split at ef
      · rename_i p ep
        cases ef
        cases rs with
        | cons r rs =>
          cases rs
          obtain ⟨a, us, m, as, rfl, e, r, haS, has⟩ := of_list r
          obtain ⟨bs, lr, hbs⟩ := lists_are r el
          have hll := listsAre_length lr
          have h64 : us.toList.length < 64 := by
            unfold sortPos at ep
            split at ep
            · omega
            · cases ep
          -- behind the sort: a new list
          have fin : ∀ out : Array Value, out.toList = (p.map fun i => us.toList.getD i Value.none) → Q (.ref (s.heap.objs.size + 1)) { s with heap := sortedAll s.heap us.toList out } := by
            intro out eo
            obtain ⟨e', he⟩ := sortedAll_at s.heap us.toList out
            obtain ⟨cs, rc, hcs⟩ := rdAll_pick r p
            have k : Keep C [] s.heap (sortedAll s.heap us.toList out) := .of_all ok.tab fun b o q => sortedAll_old q
            refine h _ _ s.toks k ⟨(s.heap.objs.size + 1) :: cs, .list he ?_, fun b hb q => ?_⟩
            · rw [eo]
              exact rdAll_keep k.get ok.tab (fun _ hb => nomatch hb) rc (fun _ _ q => nomatch q)
            · rcases List.mem_cons.mp hb with rfl | hb
              · obtain ⟨o, q'⟩ := hS _ q
                exact absurd (Heap.lt_size q') (Nat.not_lt.mpr (Nat.le_succ _))
              · exact has b (hcs b hb) q
          have hl : s.heap.IsList a us.toList.toArray := ⟨_, e, rfl, m, by simp⟩
          refine Calls.call_function_entry kind_sorted plain_sorted entry_sorted (args_sorted1 _) ?_
          unfold Builtin.«sorted»
          refine wpAny_bind (m := checkCount "sorted" 1 1 _) (wpAny_pure ?_)
          refine wpAny_bind (collect_list hl ?_ (by rw [sizeLine_eq]; omega))
          refine wpAny_bind (wpAny_newList ?_ (by rw [sizeLine_eq]; omega))
          have hsz : ((s.heap.push (seqObj "list" #[] 0)).update s.heap.objs.size (Obj.mapSeq (· ++ us.toList.toArray))).objs.size = s.heap.objs.size + 1 := by
            rw [Heap.size_update, size_push']
          have hoL : (((s.heap.push (seqObj "list" #[] 0)).update s.heap.objs.size (Obj.mapSeq (· ++ us.toList.toArray))).push (seqObj "list" us.toList.toArray 0)).get? (s.heap.objs.size + 1) = some (seqObj "list" us.toList.toArray 0) := by
            rw [← hsz]; exact Heap.get?_push_size _ rfl
          have keep : ∀ b o, s.heap.get? b = some o → (((s.heap.push (seqObj "list" #[] 0)).update s.heap.objs.size (Obj.mapSeq (· ++ us.toList.toArray))).push (seqObj "list" us.toList.toArray 0)).get? b = some o := fun b o q => by
            have hlt : b < s.heap.objs.size := Heap.lt_size q
            rw [Heap.get?_push_ne _ _ _ (by rw [hsz]; exact Nat.ne_of_lt (Nat.lt_succ_of_lt hlt)), Heap.get?_update_ne _ _ _ _ (Nat.ne_of_lt hlt), Heap.get?_push_ne _ _ _ (Nat.ne_of_lt hlt)]
            exact q
          show wpAny _ _ _ _ _ { s with heap := ((s.heap.push (seqObj "list" #[] 0)).update s.heap.objs.size (Obj.mapSeq (· ++ us.toList.toArray))).push (seqObj "list" us.toList.toArray 0) }
          rw [hsz]
          refine wpAny_bind (wpAny_holding (wpAny_call_entry slot_list_sort ⟨_, hoL, rfl⟩ entry_list_sort ?_ (args_list_sort _)))
          unfold sortPos at ep
          split at ep
          · split at ep
            · rename_i hlt
              cases ep
              -- none or one: nothing is asked
              have e0 : us.toList.length < 2 := by omega
              have hp : ((List.range ls.length).map fun i => us.toList.getD i Value.none) = us.toList := by rw [← hll]; exact getD_range _ _
              exact list_sort_short (s := { s with heap := ((s.heap.push (seqObj "list" #[] 0)).update s.heap.objs.size (Obj.mapSeq (· ++ us.toList.toArray))).push (seqObj "list" us.toList.toArray 0) }) hoL e0
                ⟨_, rfl, wpAny_pure ⟨_, rfl, fin us.toList.toArray (by rw [hp])⟩⟩
            · rename_i hge
              cases hr : kasRun ls.length (fun i j => ltI (ls.getD i []) (ls.getD j [])) (kas_sort ls.length) with
              | none => rw [hr] at ep; cases ep
              | some pa =>
                rw [hr] at ep
                cases ep
                have hu : A.in1.in1.units < cLine := by
                  have := ha.units
                  simp only [units_in1]
                  omega
                refine list_sort_kas (s := { s with heap := ((s.heap.push (seqObj "list" #[] 0)).update s.heap.objs.size (Obj.mapSeq (· ++ us.toList.toArray))).push (seqObj "list" us.toList.toArray 0) })
                  (lt := fun i j => ltI (ls.getD i []) (ls.getD j [])) (p := pa) hoL (by omega) h64 (fun h' k v hv => ?_) (fun h' k i j K hi hj hK => ?_) (by rw [hll]; exact hr) ⟨_, rfl, wpAny_pure ⟨_, rfl, fin _ rfl⟩⟩
                · obtain ⟨i, hi, rfl⟩ := List.mem_iff_getElem.mp hv
                  obtain ⟨b, ws, mb, e1, e2, _, hb⟩ := listsAre_get lr i hi
                  have e1' : us.toList[i] = .ref b := by
                    rw [List.getD_eq_getElem?_getD, List.getElem?_eq_getElem hi] at e1
                    exact e1
                  rw [e1']
                  have ne : b ≠ s.heap.objs.size + 1 := fun q => absurd (Heap.lt_size e2) (by rw [q]; exact Nat.not_lt.mpr (Nat.le_succ _))
                  exact (Looks.ld (k b _ ne (keep b _ e2))).andThen .now
                · obtain ⟨b1, w1, m1, e1, f1, g1, _⟩ := listsAre_get lr i hi
                  obtain ⟨b2, w2, m2, e2, f2, g2, _⟩ := listsAre_get lr j hj
                  unfold kas_ask
                  rw [e1, e2]
                  have n1 : b1 ≠ s.heap.objs.size + 1 := fun q => absurd (Heap.lt_size f1) (by rw [q]; exact Nat.not_lt.mpr (Nat.le_succ _))
                  have n2 : b2 ≠ s.heap.objs.size + 1 := fun q => absurd (Heap.lt_size f2) (by rw [q]; exact Nat.not_lt.mpr (Nat.le_succ _))
                  exact sort_lt hu (k b1 _ n1 (keep b1 _ f1)) (k b2 _ n2 (keep b2 _ f2)) g1 g2 hK
          · cases ep
      · cases ef
    · cases ef
  · cases ef
end Mine
end
section -- F29
open PySem PySem.Spec PySem.Calls PySem.W PyProof.Rows
set_option Elab.async false
set_option maxRecDepth 100000
namespace Mine
variable {C : Cx} {τ τ' : List Str} {κ : Str → Option NameKind} {n : Nat}

theorem bindL_other {k : Str → Option NameKind} {x : Str} : ∀ {bs : List (Str × Value)} {m : Str → Option Value}, x ∉ bs.map (·.1) → bindL k bs m x = m x
  | [], _, _ => rfl
  | (y, v) :: r, m, h => by
    unfold bindL
    rw [bindL_other fun q => h (List.mem_cons_of_mem _ q)]
    split
    · have : x ≠ y := fun q => h (q ▸ .head _)
      exact if_neg this
    · rfl
theorem bindC_other {k : Str → Option NameKind} {x : Str} : ∀ {bs : List (Str × Value)} {m : Str → Option Value}, x ∉ bs.map (·.1) → bindC k bs m x = m x
  | [], _, _ => rfl
  | (y, v) :: r, m, h => by
    unfold bindC
    rw [bindC_other fun q => h (List.mem_cons_of_mem _ q)]
    split
    · rfl
    · have : x ≠ y := fun q => h (q ▸ .head _)
      exact if_neg this
theorem bindL_at {k : Str → Option NameKind} {x : Str} {v : Value} (hk : k x = some .local) : ∀ {bs : List (Str × Value)} {m : Str → Option Value}, (bs.map (·.1)).Nodup → (x, v) ∈ bs → bindL k bs m x = some v
  | (y, u) :: r, m, nd, h => by
    rw [List.map_cons, List.nodup_cons] at nd
    unfold bindL
    rcases List.mem_cons.mp h with q | h
    · cases q
      rw [bindL_other nd.1, if_pos hk, if_pos rfl]
    · exact bindL_at hk nd.2 h
theorem bindC_at {k : Str → Option NameKind} {x : Str} {v : Value} (hk : k x ≠ some .local) : ∀ {bs : List (Str × Value)} {m : Str → Option Value}, (bs.map (·.1)).Nodup → (x, v) ∈ bs → bindC k bs m x = some v
  | (y, u) :: r, m, nd, h => by
    rw [List.map_cons, List.nodup_cons] at nd
    unfold bindC
    rcases List.mem_cons.mp h with q | h
    · cases q
      rw [bindC_other nd.1, if_neg hk, if_pos rfl]
    · exact bindC_at hk nd.2 h
theorem zip_mem {α β : Type} {l : List α} {r : List β} {i : Nat} {a : α} {b : β} (ha : l[i]? = some a) (hb : r[i]? = some b) : (a, b) ∈ l.zip r := by
  have : (l.zip r)[i]? = some (a, b) := by rw [List.getElem?_zip_eq_some]; exact ⟨ha, hb⟩
  exact List.mem_iff_getElem?.mpr ⟨i, this⟩
theorem zip_fst {α β : Type} {l : List α} {r : List β} (h : r.length = l.length) : (l.zip r).map (·.1) = l := List.map_fst_zip (by omega)

theorem lookup_nodup {β : Type} : ∀ {l : List (Str × β)} {x : Str} {b : β}, (l.map (·.1)).Nodup → (x, b) ∈ l → l.lookup x = some b
  | (y, c) :: r, x, b, nd, h => by
    rw [List.map_cons, List.nodup_cons] at nd
    rw [List.lookup_cons]
    rcases List.mem_cons.mp h with q | h
    · cases q; rw [beq_self_eq_true]
    · have : (x == y) = false := beq_eq_false_iff_ne.mpr fun q => nd.1 (q ▸ List.mem_map.mpr ⟨_, h, rfl⟩)
      rw [this]
      exact lookup_nodup nd.2 h

/-- the frame of a def with cells, at its start -/
theorem relS_cells {names : List Str} {fd : FuncData} {fa : Addr} {S : List Addr} {s s₁ : Shared} {vs : List Value} {ds : List DV} (ok : HOk C s.heap) (hS : ∀ x ∈ S, ∃ o, s.heap.get? x = some o) (rs : RvAll C S s.heap vs ds)
    (hlv : vs.length = names.length) (hnd : names.Nodup) (hτ : ∀ (i : Nat) (x : Str), names[i]? = some x → τ[i]? = some x)
    (hkn : ∀ x ∈ names, fd.scope.names.lookup x = some .local ∨ fd.scope.names.lookup x = some .cell) (hcn : ((cellsFrom 0 fd.scope.names []).map (·.1)).Nodup)
    (X : InCallC s (callEnvC fd s.heap.objs.size fa).locals (bindL (callEnvC fd s.heap.objs.size fa).kindOf (names.zip vs) fun _ => none) (callEnvC fd s.heap.objs.size fa).cells
        (bindC (callEnvC fd s.heap.objs.size fa).kindOf (names.zip vs) fun _ => none) s₁) :
    RelS C τ S (s.heap.objs.size :: (callEnvC fd s.heap.objs.size fa).cells.map (·.2)) (callEnvC fd s.heap.objs.size fa) (gArgs ds) [] s₁.heap := by
  have k₀ : Keep C [] s.heap s₁.heap := .of_all ok.tab X.toInCall.keep
  have hM : Mset (s.heap.objs.size :: (callEnvC fd s.heap.objs.size fa).cells.map (·.2)) [] = s.heap.objs.size :: (callEnvC fd s.heap.objs.size fa).cells.map (·.2) := by unfold Mset; simp
  have ndk : ((callEnvC fd s.heap.objs.size fa).cells.map (·.1)).Nodup := by
    show ((cellsFrom (s.heap.objs.size + 1) fd.scope.names []).map (·.1)).Nodup
    rw [cellsFrom_names fd.scope.names (s.heap.objs.size + 1) 0 [] [] rfl]; exact hcn
  have cell : ∀ c ∈ (callEnvC fd s.heap.objs.size fa).cells.map (·.2), s.heap.objs.size < c ∧ ∃ v, s₁.heap.IsCell c v := fun c hc => by
    obtain ⟨p, hp, rfl⟩ := List.mem_map.mp hc
    exact ⟨X.above p.1 p.2 hp, _, X.cell _ _ (lookup_nodup ndk hp)⟩
  have above : ∀ b ∈ s.heap.objs.size :: (callEnvC fd s.heap.objs.size fa).cells.map (·.2), s.heap.objs.size ≤ b := fun b hb => by
    rcases List.mem_cons.mp hb with rfl | hb
    · exact Nat.le_refl _
    · exact Nat.le_of_lt (cell b hb).1
  have fresh : ∀ b, s.heap.objs.size ≤ b → s.heap.get? b = none := fun b hb => by
    cases e : s.heap.get? b with
    | none => rfl
    | some o => exact absurd (Heap.lt_size e) (Nat.not_lt.mpr hb)
  have offW : ∀ {as : List Addr}, (∀ b ∈ as, ∃ o, s.heap.get? b = some o) → (∀ b ∈ as, b ∉ S) → ∀ b ∈ as, b ∉ S ++ Mset (s.heap.objs.size :: (callEnvC fd s.heap.objs.size fa).cells.map (·.2)) [] := fun {as} hl hs b hb q => by
    rcases List.mem_append.mp q with q | q
    · exact hs b hb q
    · rw [hM] at q
      obtain ⟨o, e⟩ := hl b hb
      rw [fresh b (above b q)] at e; cases e
  have widen : ∀ {v : Value} {d : DV}, Rv C S s.heap v d → Rv C (S ++ Mset (s.heap.objs.size :: (callEnvC fd s.heap.objs.size fa).cells.map (·.2)) []) s₁.heap v d := fun {v d} r => by
    cases d with
    | p d => obtain ⟨as, r, hs⟩ := r; exact ⟨as, rd_keep k₀.get ok.tab (fun _ hb => nomatch hb) r (fun _ _ q => nomatch q), offW (rd_live r) hs⟩
    | dict es =>
      obtain ⟨a, kvs, rfl, hs, hl, hd, hp⟩ := r
      obtain ⟨o', es', n', e', _, _⟩ := dictOf_get hd
      refine ⟨a, kvs, rfl, ?_, hl, dictOf_at hd fun o e => X.toInCall.keep a o e, hp⟩
      exact offW (as := [a]) (fun b hb => by rw [List.mem_singleton.mp hb]; exact ⟨_, e'⟩) (fun b hb => by rw [List.mem_singleton.mp hb]; exact hs) a (.head _)
    | order =>
      obtain ⟨as, r, hs⟩ := r
      exact ⟨as, C.ordKeep _ _ _ _ r (fun b _ o e => X.toInCall.keep b o e) (fun b _ _ e => X.toInCall.keep b _ e), offW (fun b hb => (C.ordLt _ _ _ r b hb).1) hs⟩
  refine ⟨ok.pure k₀, fun b hb => ?_, fun b hb q => ?_, fun b hb => ?_, fun b hb => ?_, ?_, .head _, fun x c e => .inl ?_, fun x e => ?_, fun x y c _ e e' => ?_, fun x c e => ⟨_, X.cell x c e⟩, ?_⟩
  · obtain ⟨o, e⟩ := hS b hb; exact k₀.live b o e
  · rw [hM] at q
    obtain ⟨o, e⟩ := hS b hb
    rw [fresh b (above b q)] at e; cases e
  · rw [hM] at hb; exact above_of ok (above b hb)
  · rw [hM] at hb
    rcases List.mem_cons.mp hb with rfl | hb
    · obtain ⟨o, es, ep, e, hd, _⟩ := X.toInCall.ns
      exact ⟨o, e, .inl ⟨es, ep, hd⟩⟩
    · obtain ⟨_, v, o, e, hd⟩ := cell b hb
      exact ⟨o, e, .inr (.inl ⟨v, hd⟩)⟩
  · rw [hM, List.nodup_cons]
    refine ⟨fun q => Nat.lt_irrefl _ (cell _ q).1, ?_⟩
    rw [List.nodup_iff_pairwise_ne, List.pairwise_map]
    exact X.apart
  · exact .tail _ (List.mem_map.mpr ⟨_, mem_of_lookup e, rfl⟩)
  · have := cellsFrom_some (x := x) fd.scope.names (s.heap.objs.size + 1) [] (.inl e)
    exact Option.isSome_iff_exists.mp this
  · exact name_of_addr X.apart (mem_of_lookup e) (mem_of_lookup e')
  · refine ⟨_, X.toInCall.ns, fun i di ei => ?_⟩
    obtain ⟨v, ev, rv⟩ := rvAll_get rs ei
    have li : i < names.length := by
      obtain ⟨l, _⟩ := List.getElem?_eq_some_iff.mp ei
      have := rvAll_length rs
      omega
    have en : names[i]? = some names[i] := by simp [li]
    have hz : (names[i], v) ∈ names.zip vs := zip_mem en ev
    have ndz : ((names.zip vs).map (·.1)).Nodup := by rw [zip_fst hlv]; exact hnd
    refine ⟨names[i], v, hτ i _ en, ?_, known_rv (widen rv)⟩
    rcases hkn _ (List.getElem_mem li) with hk | hk
    · exact .inl ⟨hk, bindL_at (k := (callEnvC fd s.heap.objs.size fa).kindOf) hk ndz hz⟩
    · obtain ⟨c, ec⟩ := Option.isSome_iff_exists.mp (cellsFrom_some (x := names[i]) fd.scope.names (s.heap.objs.size + 1) [] (.inl hk))
      refine .inr ⟨.inl hk, c, ec, ?_⟩
      have h1 := X.cell _ c ec
      have h2 := bindC_at (k := (callEnvC fd s.heap.objs.size fa).kindOf) (x := names[i]) (v := v) (fun q => by
        have : (callEnvC fd s.heap.objs.size fa).kindOf names[i] = some .cell := hk
        rw [this] at q; cases q) (m := fun _ => none) ndz hz
      rw [h2] at h1; exact h1

theorem fs_defC {fa : Addr} {fo : Obj} {fd : FuncData} {body : List Stmt} {names : List Str} {F : G → List Nat → Option Res} (hob : C.hb.get? fa = some fo) (hft : fa ≠ C.tab) (hdata : fo.data = .func fd) (hbody : fd.body = .stmts body)
    (hcd : ∀ h, HOk C h → h.CodeRec fd.code fd.qualname) (hbind : ∀ (vs : List Value), vs.length = names.length → bindArgs fd ⟨vs, []⟩ = pure (names.zip vs)) (hnd : names.Nodup) (hτ : ∀ (i : Nat) (x : Str), names[i]? = some x → τ[i]? = some x)
    (hkn : ∀ x ∈ names, fd.scope.names.lookup x = some .local ∨ fd.scope.names.lookup x = some .cell) (hcn : ((cellsFrom 0 fd.scope.names []).map (·.1)).Nodup) (hcl : fd.closure = []) (hgl : fd.globals = mainGlobals) (hbl : fd.builtins = builtinsNs)
    (hco : fd.scope.isCoroutine = false) (hgen : fd.scope.isGenerator = false) (hk : fd.scope.kind = .function) (hκ : ∀ x, fd.scope.names.lookup x = κ x) (hF : SS C τ κ n body F) :
    FS C (n + 1) (.ref fa) (runF names.length F) := by
  intro S A s vs ds d Q E ha ok hS rs ef h
  unfold runF at ef
  split at ef
  · rename_i hlen
    split at ef
    · rename_i d' eF
      cases ef
      have hlv : vs.length = names.length := (rvAll_length rs).trans hlen
      refine wpAny_call (codeAny_call_cells (by have := ha.depth; omega) (ok.base fa fo hob hft) hdata (C.lim s.heap ok.base) (hcd s.heap ok) hbody (hbind vs hlv) hcl (fun x hx => ?_) (fun s₁ X => ?_) hco hgen hk)
      · obtain ⟨x1, x2⟩ := x
        rcases hkn x1 (List.of_mem_zip hx).1 with q | q
        · exact .inl q
        · exact .inr ⟨q, cellsFrom_some _ _ _ (.inl q)⟩
      · have re := relS_cells (τ := τ) (C := C) ok hS rs hlv hnd hτ hkn hcn X
        have fe : FnS κ (callEnvC fd s.heap.objs.size fa) := ⟨⟨hk, hgl, hbl, fun x => hκ x⟩, fun q => nomatch q⟩
        obtain ⟨h₁, tk₁, e₁⟩ := X.toInCall.same
        subst e₁
        have ha' : AOk n (A.deeper (callEnvC fd s.heap.objs.size fa)) := ⟨ha.handled, by have := ha.depth; show A.depth + 1 + n < _; omega, by have := ha.units; show A.units + 3 + 100 * n < _; omega⟩
        refine hF _ S _ [] _ _ (gArgs ds) (.ret d) _ _ ha' fe re eF fun fl h' tk own' rr kp _ => ?_
        obtain ⟨v, rfl, ok', rv⟩ := rr
        refine h v h' tk ⟨fun b o e _ ht => kp.get b o (X.toInCall.keep b o e) (fun q => ?_) ht, fun b o e => kp.live b o (X.toInCall.keep b o e), kp.tab⟩ rv
        have hM : Mset (s.heap.objs.size :: (callEnvC fd s.heap.objs.size fa).cells.map (·.2)) [] = s.heap.objs.size :: (callEnvC fd s.heap.objs.size fa).cells.map (·.2) := by unfold Mset; simp
        rw [hM] at q
        have hge : s.heap.objs.size ≤ b := by
          rcases List.mem_cons.mp q with rfl | q
          · exact Nat.le_refl _
          · obtain ⟨p, hp, rfl⟩ := List.mem_map.mp q
            exact Nat.le_of_lt (X.above p.1 p.2 hp)
        exact absurd (Heap.lt_size e) (Nat.not_lt.mpr hge)
    · cases ef
  · cases ef
end Mine
end
section -- F30
open PySem PySem.Spec PySem.Calls PySem.W PyProof.Rows
set_option Elab.async false
set_option maxRecDepth 100000
namespace Mine
variable {C : Cx} {τ τ' : List Str} {κ : Str → Option NameKind} {n : Nat}

noncomputable abbrev selKey : Str := Str.ofString "comp_select_list"
structure OrdIn (cl tab : Addr) (h : Heap) (x dx t t1 t2 t3 : Addr) : Prop where
  inst : h.Inst x cl fun y => if y = selKey then some (.ref t) else none
  dict : ∀ o, h.get? x = some o → o.dict = some dx
  tup : ∃ n, h.get? t = some (tobj #[.ref t1, .ref t2, .ref t3] n)
  p1 : ∃ u v n, h.get? t1 = some (tobj #[.int 0 u, .int (-1) v] n)
  p2 : ∃ u v n, h.get? t2 = some (tobj #[.int 1 u, .int (-1) v] n)
  p3 : ∃ u v n, h.get? t3 = some (tobj #[.int 2 u, .int (-1) v] n)
  nx : x ≠ tab
  nd : dx ≠ tab
noncomputable def OrdAt (cl tab : Addr) (h : Heap) (v : Value) (as : List Addr) : Prop := ∃ x dx t t1 t2 t3, v = .ref x ∧ as = [x, dx] ∧ OrdIn cl tab h x dx t t1 t2 t3
theorem OrdIn.keep {cl tab : Addr} {h h' : Heap} {x dx t t1 t2 t3 : Addr} (o : OrdIn cl tab h x dx t t1 t2 t3) (k : ∀ b ∈ [x, dx], ∀ o, h.get? b = some o → h'.get? b = some o)
    (kt : ∀ b vs n, h.get? b = some { cls := .type "tuple", data := .seq vs n } → h'.get? b = some { cls := .type "tuple", data := .seq vs n }) : OrdIn cl tab h' x dx t t1 t2 t3 := by
  obtain ⟨ox, ex, cx, nc, hd⟩ := o.inst
  have dxe := o.dict ox ex
  have ex' := k x (.head _) ox ex
  refine ⟨⟨ox, ex', cx, nc, ?_⟩, fun o' e' => ?_, ?_, ?_, ?_, ?_, o.nx, o.nd⟩
  · rcases hd with ⟨hn, _⟩ | ⟨d, h1, h2, h3⟩
    · rw [dxe] at hn; cases hn
    · rw [dxe] at h1; cases h1
      exact .inr ⟨dx, dxe, h2, h3.at fun o e => k dx (.tail _ (.head _)) o e⟩
  · rw [ex'] at e'; cases e'; exact dxe
  · obtain ⟨n, e⟩ := o.tup; exact ⟨n, kt _ _ _ e⟩
  · obtain ⟨u, v, n, e⟩ := o.p1; exact ⟨u, v, n, kt _ _ _ e⟩
  · obtain ⟨u, v, n, e⟩ := o.p2; exact ⟨u, v, n, kt _ _ _ e⟩
  · obtain ⟨u, v, n, e⟩ := o.p3; exact ⟨u, v, n, kt _ _ _ e⟩
theorem ordAt_keep {cl tab : Addr} (h h' : Heap) (v : Value) (as : List Addr) (o : OrdAt cl tab h v as) (k : ∀ b ∈ as, ∀ o, h.get? b = some o → h'.get? b = some o)
    (kt : ∀ b vs n, h.get? b = some { cls := .type "tuple", data := .seq vs n } → h'.get? b = some { cls := .type "tuple", data := .seq vs n }) : OrdAt cl tab h' v as := by
  obtain ⟨x, dx, t, t1, t2, t3, rfl, rfl, o⟩ := o
  exact ⟨x, dx, t, t1, t2, t3, rfl, rfl, o.keep k kt⟩
theorem ordAt_lt {cl tab : Addr} (h : Heap) (v : Value) (as : List Addr) (o : OrdAt cl tab h v as) : ∀ b ∈ as, (∃ o, h.get? b = some o) ∧ b ≠ tab := by
  obtain ⟨x, dx, t, t1, t2, t3, rfl, rfl, o⟩ := o
  obtain ⟨ox, ex, cx, nc, hd⟩ := o.inst
  have dxe := o.dict ox ex
  intro b hb
  rcases List.mem_cons.mp hb with rfl | hb
  · exact ⟨⟨_, ex⟩, o.nx⟩
  · rw [List.mem_singleton.mp hb]
    refine ⟨?_, o.nd⟩
    rcases hd with ⟨hn, _⟩ | ⟨d, h1, h2, h3⟩
    · rw [dxe] at hn; cases hn
    · rw [dxe] at h1; cases h1
      obtain ⟨o', es, ep, e, _⟩ := h3
      exact ⟨o', e⟩

noncomputable def ordL : List PyData := [.tuple [.int 0, .int (-1)], .tuple [.int 1, .int (-1)], .tuple [.int 2, .int (-1)]]

/-- what the class of the orders is in the heap -/
structure OrdCls (C : Cx) (cl N fI : Addr) (oI : Obj) (mN : Str → Option Value) : Prop where
  is : ∀ h v as, C.Ord h v as ↔ OrdAt cl C.tab h v as
  obj : ∃ nm q bs sn sub col dd k0 k1 k2 k3 k5, C.hb.get? cl = some (excClassObj nm q cl N bs [.type "object"] true sn sub false col dd k0 k1 k2 k3 k5 "object.__new__")
  clTab : cl ≠ C.tab
  ns : C.hb.Ns N mN
  nsTab : N ≠ C.tab
  ga : mN "__getattribute__" = none
  gh : mN "__getattr__" = none
  sa : mN "__setattr__" = none
  key : mN selKey = none
  init : mN "__init__" = some (.ref fI)
  fn : C.hb.get? fI = some oI
  fnc : oI.cls = .type "function"
  fnTab : fI ≠ C.tab
theorem OrdCls.at {cl N fI : Addr} {oI : Obj} {mN : Str → Option Value} (O : OrdCls C cl N fI oI mN) {h : Heap} (ok : HOk C h) : ∃ nm q bs sn sub col dd k0 k1 k2 k3 k5, h.get? cl = some (excClassObj nm q cl N bs [.type "object"] true sn sub false col dd k0 k1 k2 k3 k5 "object.__new__") := by
  obtain ⟨nm, q, bs, sn, sub, col, dd, k0, k1, k2, k3, k5, e⟩ := O.obj
  exact ⟨nm, q, bs, sn, sub, col, dd, k0, k1, k2, k3, k5, ok.base _ _ e O.clTab⟩
theorem OrdCls.nsAt {cl N fI : Addr} {oI : Obj} {mN : Str → Option Value} (O : OrdCls C cl N fI oI mN) {h : Heap} (ok : HOk C h) : h.Ns N mN := O.ns.at' fun o e => ok.base _ _ e O.nsTab
theorem lookB : typeLookup (.type "object") selKey = pure none := by rw [typeLookup_type, builtinLookup_eq_fast]; kernel_rfl

/-- for .. in self.comp_select_list -/
noncomputable def gOrd (f : G → Option DV) : G → List Nat → Option (List PyData × List Nat) := fun Γ O => match evA f Γ O with
  | some (.order, O') => some (ordL, O')
  | _ => none
theorem src_order {cl N fI : Addr} {oI : Obj} {mN : Str → Option Value} (O : OrdCls C cl N fI oI mN) {target o : Expr} {apos : Pos} {f : G → Option DV} (hf : SE C τ κ n o f)
    (hev : ∀ env, eval (.Attribute o selKey apos) env = (do let ov ← eval o env; standAt apos.atName; let r ← holding [ov] (getAttr ov selKey true); letTemporaryGo o ov r; pure r))
    (hlt : ∀ ov r, letTemporaryGo o ov r = pure ()) :
    Src C τ κ n target (.Attribute o selKey apos) (gOrd f) := by
  intro env S₀ W own A s Γ ds O' Q E ha fe re eg h
  unfold gOrd at eg
  split at eg
  · rename_i O'' ev
    cases eg
    rw [hev]
    refine wpAny_bind (evalS hf ha fe re ev fun v h₁ tk₁ own₁ eo ho k₁ re₁ rv => wpAny_bind (wpAny_standAt (wpAny_bind (wpAny_holding ?_))))
    obtain ⟨as, ro, hs⟩ := rv
    obtain ⟨x, dx, t, t1, t2, t3, rfl, rfl, oi⟩ := (O.is _ _ _).mp ro
    obtain ⟨nm, q, bs, sn, sub, col, dd, k0, k1, k2, k3, k5, hC⟩ := O.at re₁.ok
    refine load_attr (name := selKey) (v := .ref t) hC (O.nsAt re₁.ok) O.ga O.key lookB oi.inst (if_pos rfl) (by rfl) ?_
    refine wpAny_bind (wpAny_of_eq (hlt _ _) (wpAny_pure ?_))
    obtain ⟨nt, et⟩ := oi.tup
    have ht : h₁.IsTuple t #[.ref t1, .ref t2, .ref t3] := ⟨_, et, rfl, _, rfl⟩
    refine wpAny_pyIter_tuple ht ?_
    have hfr := get_fresh h₁
    have tupM : ∀ b vs m, h₁.get? b = some (tobj vs m) → b ∉ Mset W own₁ := fun b vs m e q => by
      obtain ⟨o', e', mu⟩ := re₁.mt b q
      rw [e] at e'; cases e'
      exact mu.notFix _ _ rfl
    have tt : t ≠ C.tab := tab_ne re₁.ok.tab et fun _ q => nomatch q
    refine h h₁ _ _ own₁ h₁.objs.size [t] (fun i h => h.IsTupleIter h₁.objs.size t i ∧ h.get? t = some (tobj #[.ref t1, .ref t2, .ref t3] nt)) eo ho k₁ re₁ (Keep.push re₁.ok.tab _) hfr
      ⟨⟨_, Heap.get?_push_size _ rfl, rfl, rfl⟩, Heap.get?_push_of_some _ et⟩ (fun b hb => ?_) fun X hX => ⟨fun i h h' st k => ?_, fun i h st => ?_, fun i s d K E ed st g hk => ?_, fun i s Q E st hq => wpAny_pyIter_tupleiter st.1 hq, fun s Q E st hk => ?_⟩
    · rw [List.mem_singleton.mp hb]
      refine ⟨⟨_, et⟩, ⟨tupM t _ _ et, fun D hD ⟨us, mu, eD⟩ q => ?_⟩, tt⟩
      rw [← q, et] at eD
      exact absurd (Value.type.inj (congrArg Obj.cls (Option.some.inj eD))) (by decide)
    · obtain ⟨⟨o', e', c', d'⟩, e2⟩ := st
      exact ⟨⟨o', k _ (.inl rfl) _ e', c', d'⟩, k t (.inr (.head _)) _ e2⟩
    · obtain ⟨⟨o', e', c', d'⟩, e2⟩ := st
      exact ⟨o', _, e', c', by decide, by decide, _, d'⟩
    · have hne : t ≠ h₁.objs.size := Nat.ne_of_lt (Heap.lt_size et)
      -- the pair at the place
      have pair : ∀ (tk : Addr) (a b : Int) (u w : Tok) (m : Nat), h₁.get? tk = some (tobj #[.int a u, .int b w] m) → (#[Value.ref t1, .ref t2, .ref t3] : Array Value)[i]? = some (.ref tk) → d = .tuple [.int a, .int b] →
          wpAny (model C.prog C.w) A (pyNext (.ref h₁.objs.size)) (fun r s₁ => match r with
            | none => False
            | some v => wpAny (model C.prog C.w) A (letOwnedTupleGo target (.ref h₁.objs.size) v) (fun _ s₂ => K v s₂) E s₁) E s := by
        intro tk a b u w m ek ex ed'
        subst ed'
        refine wpAny_pyNext_tuple_item st.1 ⟨_, st.2, rfl, _, rfl⟩ (x := .ref tk) ex fun h' hit hsb => ?_
        obtain ⟨o', eo', hc, hd'⟩ := hit
        refine go_plain eo' hc (by decide) ?_
        refine hk _ h' _ ⟨⟨o', eo', hc, hd'⟩, (hsb.2 t hne).trans st.2⟩ (fun b o e hb => (hsb.2 b hb).trans e) ⟨[], .tuple (vs := #[.int a u, .int b w]) (n := m) ?_ (.cons (as := []) (bs := []) (.int a u) (.cons (as := []) (bs := []) (.int b w) .nil)), fun _ hb => nomatch hb⟩
        have nI : tk ≠ h₁.objs.size := Nat.ne_of_lt (Heap.lt_size ek)
        refine (hsb.2 tk nI).trans (g tk _ ek (fun q => ?_) (tab_ne re₁.ok.tab ek fun _ q => nomatch q))
        rcases List.mem_cons.mp q with q | q
        · exact nI q
        · rcases List.mem_append.mp q with q | q
          · exact (hX tk q).2 _ ek _ _ rfl
          · exact tupM tk _ _ ek q
      match i, ed with
      | 0, ed => obtain ⟨u, w, m, e⟩ := oi.p1; exact pair t1 0 (-1) u w m e rfl (by simpa [ordL] using ed.symm)
      | 1, ed => obtain ⟨u, w, m, e⟩ := oi.p2; exact pair t2 1 (-1) u w m e rfl (by simpa [ordL] using ed.symm)
      | 2, ed => obtain ⟨u, w, m, e⟩ := oi.p3; exact pair t3 2 (-1) u w m e rfl (by simpa [ordL] using ed.symm)
      | _ + 3, ed => simp [ordL] at ed
    · refine wpAny_pyNext_tuple_end ha.handled st.1 ⟨_, st.2, rfl, _, rfl⟩ (by simp [ordL]) fun h' he => ?_
      exact hk h' _ fun b o e hb => he b o hb e
  · cases eg
end Mine
end
section -- F31
open PySem PySem.Spec PySem.Calls PySem.W PyProof.Rows
set_option Elab.async false
set_option maxRecDepth 100000
namespace Mine
variable {C : Cx} {τ τ' : List Str} {κ : Str → Option NameKind} {n : Nat}

noncomputable def isPair (a b : Int) : PyData → Bool
  | .tuple [.int x, .int y] => x == a && y == b
  | _ => false
theorem isPair_eq {a b : Int} {d : PyData} (h : isPair a b d = true) : d = .tuple [.int a, .int b] := by
  unfold isPair at h
  split at h
  · rw [Bool.and_eq_true, beq_iff_eq, beq_iff_eq] at h
    obtain ⟨rfl, rfl⟩ := h
    rfl
  · cases h
noncomputable def isOrd : PyData → Bool
  | .tuple [p, q, r] => isPair 0 (-1) p && (isPair 1 (-1) q && isPair 2 (-1) r)
  | _ => false
theorem isOrd_eq {d : PyData} (h : isOrd d = true) : d = .tuple ordL := by
  unfold isOrd at h
  split at h
  · rw [Bool.and_eq_true, Bool.and_eq_true] at h
    obtain ⟨h1, h2, h3⟩ := h
    rw [isPair_eq h1, isPair_eq h2, isPair_eq h3]
    rfl
  · cases h
theorem pair_of {h : Heap} {v : Value} {a b : Int} {as : List Addr} (r : Rd h v (.tuple [.int a, .int b]) as) : ∃ t u w m, v = .ref t ∧ h.get? t = some (tobj #[.int a u, .int b w] m) := by
  cases r with
  | @tuple t vs m _ _ e r =>
    generalize hvs : vs.toList = lv at r
    cases r with
    | cons r1 r' =>
      cases r' with
      | cons r2 r'' =>
        cases r''
        cases r1
        cases r2
        rename_i u w
        have evs : vs = #[.int a u, .int b w] := by apply Array.ext'; rw [hvs]
        subst evs
        exact ⟨t, _, _, m, rfl, e⟩
theorem ord_tuple {h : Heap} {v : Value} {as : List Addr} (r : Rd h v (.tuple ordL) as) : ∃ t t1 t2 t3 m, v = .ref t ∧ h.get? t = some (tobj #[.ref t1, .ref t2, .ref t3] m) ∧
    (∃ u w n, h.get? t1 = some (tobj #[.int 0 u, .int (-1) w] n)) ∧ (∃ u w n, h.get? t2 = some (tobj #[.int 1 u, .int (-1) w] n)) ∧ ∃ u w n, h.get? t3 = some (tobj #[.int 2 u, .int (-1) w] n) := by
  unfold ordL at r
  cases r with
  | @tuple t vs m _ _ e r =>
    generalize hvs : vs.toList = lv at r
    cases r with
    | cons r1 r' =>
      cases r' with
      | cons r2 r'' =>
        cases r'' with
        | cons r3 r''' =>
          cases r'''
          obtain ⟨t1, u1, w1, m1, rfl, e1⟩ := pair_of r1
          obtain ⟨t2, u2, w2, m2, rfl, e2⟩ := pair_of r2
          obtain ⟨t3, u3, w3, m3, rfl, e3⟩ := pair_of r3
          have evs : vs = #[.ref t1, .ref t2, .ref t3] := by apply Array.ext'; rw [hvs]
          subst evs
          exact ⟨t, t1, t2, t3, m, rfl, e, ⟨_, _, _, e1⟩, ⟨_, _, _, e2⟩, ⟨_, _, _, e3⟩⟩

/-- the init of the orders: a def that stores its second argument -/
structure OrdInit (C : Cx) (fI : Addr) (oI : Obj) (sf arg : Str) : Prop where
  dat : ∃ fd p1 p2 p3 p4, oI.data = .func fd ∧ fd.body = .stmts [.Assign [.Attribute (.Name sf p1) selKey p2] (.Name arg p3) p4] ∧
    (∀ v u, bindArgs fd ⟨[v, u], []⟩ = pure [(sf, v), (arg, u)]) ∧ (∀ x ∈ fd.scope.names, x.2 ≠ .cell) ∧ fd.scope.names.lookup sf = some .local ∧ fd.scope.names.lookup arg = some .local ∧
    fd.scope.isCoroutine = false ∧ fd.scope.isGenerator = false ∧ fd.scope.kind = .function ∧ (∀ h, HOk C h → h.CodeRec fd.code fd.qualname)
  ne : (sf == arg) = false
  d1 : (sf == ("__debug__" : Str)) = false
  d2 : (arg == ("__debug__" : Str)) = false

theorem hide_ok {h : Heap} (ok : HOk C h) : ∀ b o, (hideAll C.hb [C.tab]).get? b = some o → h.get? b = some o := fun b o e =>
  ok.base b o (of_hideAll _ e) fun q => by rw [q, hideAll_none _ (.head _)] at e; cases e

noncomputable def fNewOrd (g : G → Option DV) : G → Option DV := fun Γ => match g Γ with
  | some (.p d) => if isOrd d = true then some .order else none
  | _ => none
theorem se_neworder {cl N fI : Addr} {oI : Obj} {mN : Str → Option Value} {sf arg : Str} (O : OrdCls C cl N fI oI mN) (I : OrdInit C fI oI sf arg) (hn2 : 2 ≤ n) {x : Str} {p pos : Pos} {e : Expr} {g : G → Option DV} (hf : SE C τ κ n e g)
    (hg : C.mg x = some (.ref cl)) (hk : κ x = some .globalImplicit) (hd : (x == ("__debug__" : Str)) = false)
    (hst : ∀ env, starEach [e] env = (false, eval e env) :: starEach [] env) (hpl : ∀ env, (backTo pos (starEach [] env)).any (·.1) = false)
    (hev : ∀ env, eval (.Call (.Name x p) [e] [] pos) env = (do callWith pos (← eval (.Name x p) env) [] (backTo pos (starEach [e] env)) (backToKw pos (keywordEach [] env)))) :
    SE C τ κ n (.Call (.Name x p) [e] [] pos) (fNewOrd g) := by
  intro env S A s Γ d Q E ha fe re ed h
  unfold fNewOrd at ed
  split at ed
  · rename_i dd eg
    split at ed
    · rename_i hio
      cases ed
      have hdd := isOrd_eq hio
      subst hdd
      refine Call_ (glob_name fe re.ok hk (.inl hg) hd ?_) (hev env)
      have X : ClsAt (hideAll C.hb [C.tab]) cl N mN := by
        obtain ⟨nm, q, bs, sn, sub, col, dd, k0, k1, k2, k3, k5, e⟩ := O.obj
        refine ⟨⟨nm, q, bs, sn, sub, col, dd, k0, k1, k2, k3, k5, hideAll_get _ e fun q => O.clTab (List.mem_singleton.mp q)⟩, ?_⟩
        obtain ⟨o, es, ep, e, r⟩ := O.ns
        exact ⟨o, es, ep, hideAll_get _ e fun q => O.nsTab (List.mem_singleton.mp q), r⟩
      refine callWith_cls X ?_ (hst env) (hpl env)
      refine args_cons (hf env S A s Γ _ _ E ha fe re eg fun v h₁ tk₁ k₁ rv => ?_) (hst env)
      refine args_nil ⟨hide_ok (re.ok.pure k₁), ?_⟩
      have re₁ := re.pure k₁
      obtain ⟨as, rd, hs⟩ := rv
      obtain ⟨t, t1, t2, t3, m, rfl, et, e1, e2, e3⟩ := ord_tuple rd
      obtain ⟨nm, q, bs, sn, sub, col, dd, k0, k1, k2, k3, k5, hC⟩ := O.at re₁.ok
      have hfn := re₁.ok.base _ _ O.fn O.fnTab
      refine wpAny_call_obj_init PySem.F.objNew hC (O.nsAt re₁.ok) O.init hfn O.fnc fun h₂ x dx Mk => ?_
      have k₂ : Keep C [] h₁ h₂ := .of_all re₁.ok.tab Mk.keeps
      have re₂ := re₁.pure k₂
      obtain ⟨fd, p1, p2, p3, p4, hdat, hbody, hbind, hcell, l1, l2, hco, hgen, hkd, hcd⟩ := I.dat
      have hdep : (A.under (.builtin "type.__call__" ⟨.ref cl :: [.ref t], []⟩)).depth = A.depth + 1 := rfl
      refine wpAny_call (codeAny_call_def (by rw [hdep]; have := ha.depth; omega) (Mk.keeps _ _ hfn) hdat (C.lim h₂ re₂.ok.base) (hcd h₂ re₂.ok) hbody (.of_eq (hbind _ _)) hcell (fun y hy => ?_) (fun h₃ hns hk₃ => ?_) hco hgen hkd)
      · rcases List.mem_cons.mp hy with rfl | hy
        · exact l1
        · rw [List.mem_singleton.mp hy]; exact l2
      · have k₃ : Keep C [] h₂ h₃ := .of_all re₂.ok.tab hk₃
        have re₃ := re₂.pure k₃
        have hkf : (callEnv fd h₂.objs.size fI).scope.kind = .function := hkd
        obtain ⟨nm, q, bs, sn, sub, col, dd', k0, k1, k2, k3, k5, hC₃⟩ := O.at re₃.ok
        have lookArg : ([(sf, Value.ref x), (arg, Value.ref t)] : List (Str × Value)).reverse.lookup arg = some (.ref t) := by
          show List.lookup arg [(arg, Value.ref t), (sf, Value.ref x)] = _
          rw [List.lookup_cons, beq_self_eq_true]
        have lookSelf : ([(sf, Value.ref x), (arg, Value.ref t)] : List (Str × Value)).reverse.lookup sf = some (.ref x) := by
          show List.lookup sf [(arg, Value.ref t), (sf, Value.ref x)] = _
          rw [List.lookup_cons, I.ne, List.lookup_cons, beq_self_eq_true]
        refine wpAny_execs_cons (plainObj_wpAny_Assign_Attribute (wpAny_Name (wpAny_loadName_local hkf l2 hns lookArg (wpAny_Name (wpAny_loadName_local hkf l1 hns lookSelf ?_) I.d1)) I.d2) (by rfl))
        have Ix : h₃.Inst x cl fun _ => none := Mk.inst.keeps hk₃
        obtain ⟨ox, ex, cx, ncx, hdx⟩ := Mk.inst
        have edx := Mk.dict ox ex
        have ex₃ := hk₃ _ _ ex
        have hxC : x ≠ cl := fun q => by have := Mk.newX; rw [q, hC] at this; cases this
        refine store_attr (ns := []) (name := selKey) PySem.F.store_object hC₃ (O.nsAt re₃.ok) O.sa O.key lookB hxC Ix (fun h₄ tk₄ I₄ hk₄ hsame => wpAny_execs_nil ⟨rfl, ?_⟩) (Within.nil) (by rw [sizeLine_eq]; exact Nat.zero_le _)
        have old : ∀ b o, h₁.get? b = some o → h₄.get? b = some o := fun b o e => by
          refine hk₄ b o (fun q => by rw [q, Mk.newX] at e; cases e) (fun o₀ d' e₀ ed q => ?_) (hk₃ _ _ (Mk.keeps _ _ e))
          rw [ex₃] at e₀; cases e₀
          rw [edx] at ed; cases ed
          rw [q, Mk.newD] at e; cases e
        have k₄ : Keep C [] h₁ h₄ := .of_all re₁.ok.tab old
        have fresh : ∀ b, h₁.get? b = none → b ≠ C.tab ∧ b ∉ S := fun b e => by
          refine ⟨fun q => ?_, fun q => ?_⟩
          · obtain ⟨o', vs, e', _, _⟩ := C.tabGet h₁ re₁.ok.tab
            rw [← q, e] at e'; cases e'
          · obtain ⟨o, e'⟩ := re₁.live b q
            rw [e] at e'; cases e'
        refine h (.ref x) h₄ _ (k₁.trans k₄) ⟨[x, dx], (O.is _ _ _).mpr ⟨x, dx, t, t1, t2, t3, rfl, rfl, ?_⟩, fun b hb => ?_⟩
        · refine ⟨I₄, fun o e => ?_, ⟨m, old _ _ et⟩, ?_, ?_, ?_, (fresh x Mk.newX).1, (fresh dx Mk.newD).1⟩
          · obtain ⟨o₁, e₁, _, _, _, dk⟩ := hsame ox ex₃
            rw [e₁] at e; cases e
            exact dk dx edx
          · obtain ⟨u, w, n, e⟩ := e1; exact ⟨u, w, n, old _ _ e⟩
          · obtain ⟨u, w, n, e⟩ := e2; exact ⟨u, w, n, old _ _ e⟩
          · obtain ⟨u, w, n, e⟩ := e3; exact ⟨u, w, n, old _ _ e⟩
        · rcases List.mem_cons.mp hb with rfl | hb
          · exact (fresh b Mk.newX).2
          · rw [List.mem_singleton.mp hb]; exact (fresh dx Mk.newD).2
    · cases ed
  · cases ed
end Mine
end
section -- F32
open PySem PySem.Spec PySem.Calls PySem.W PyProof.Rows
set_option Elab.async false
set_option maxRecDepth 100000
namespace Mine
variable {C : Cx} {τ τ' : List Str} {κ : Str → Option NameKind} {n : Nat}

noncomputable def fMeth (F : List DV → Option DV) (f : G → Option DV) (g : G → Option (List DV)) : G → Option DV := fun Γ => match f Γ, g Γ with
  | some .order, some ds => F (.order :: ds)
  | _, _ => none
/-- a method of an order, called -/
theorem se_meth {cl N fI fC : Addr} {oI oC : Obj} {fd : FuncData} {mN : Str → Option Value} {name : Str} (O : OrdCls C cl N fI oI mN) (hm : mN name = some (.ref fC)) (hfo : C.hb.get? fC = some oC) (hfc : oC.cls = .type "function") (hdat : oC.data = .func fd) (hft : fC ≠ C.tab)
    (hnk : name ≠ selKey) {y : Option Value} (hB : typeLookup (.type "object") name = pure y) {F : List DV → Option DV} (hF : FS C n (.ref fC) F)
    {o e : Expr} {es : List Expr} {apos pos : Pos} {f : G → Option DV} {g : G → Option (List DV)} (hf : SE C τ κ n o f) (hg : SEs C τ κ n (e :: es) g)
    (hst : ∀ env, starEach (e :: es) env = (false, eval e env) :: starEach es env)
    (hev : ∀ env, ∃ pl, eval (.Call (.Attribute o name apos) (e :: es) [] pos) env = (do
      let ov ← eval o env
      standAt apos.atName
      let (f, first) ← holding [ov] (getMethod ov name pl)
      callWith pos f first (backTo pos (starEach (e :: es) env)) (backToKw pos (keywordEach [] env)))) :
    SE C τ κ n (.Call (.Attribute o name apos) (e :: es) [] pos) (fMeth F f g) := by
  intro env S A s Γ d Q E ha fe re ed h
  unfold fMeth at ed
  split at ed
  · rename_i ds ef eg
    obtain ⟨pl, he⟩ := hev env
    rw [he]
    refine wpAny_bind (hf env S A s Γ _ _ E ha fe re ef fun v h₁ tk₁ k₁ rv => wpAny_bind (wpAny_standAt (wpAny_bind (wpAny_holding ?_))))
    have re₁ := re.pure k₁
    obtain ⟨as, ro, hs⟩ := rv
    obtain ⟨x, dx, t, t1, t2, t3, rfl, rfl, oi⟩ := (O.is _ _ _).mp ro
    obtain ⟨nm, q, bs, sn, sub, col, dd, k0, k1, k2, k3, k5, hC⟩ := O.at re₁.ok
    refine method_of hC (O.nsAt re₁.ok) O.ga O.gh hm (re₁.ok.base _ _ hfo hft) hfc hB oi.inst (if_neg hnk) ?_
    show wpAny _ A (callWith pos (.ref fC) [.ref x] (backTo pos (starEach (e :: es) env)) (backToKw pos (keywordEach [] env))) Q E _
    have hb := hg env S A { s with heap := h₁, toks := tk₁ } Γ pos ds (fun vs s₁ => (s₁.heap.get? fC = some oC ∧ oC.data = .func fd) ∧ wpAny (model C.prog C.w) A (call (.ref fC) ([.ref x] ++ vs)) Q E s₁) E ha fe re₁ eg fun vs h₂ tk₂ k₂ rs => by
      have re₂ := re₁.pure k₂
      refine ⟨⟨re₂.ok.base _ _ hfo hft, hdat⟩, hF S A _ _ (.order :: ds) d Q E ha re₂.ok re₂.live (.cons (Rv.pure k₂ re₁.ok.tab ⟨_, ro, hs⟩) rs) ed fun v h₃ tk₃ k₃ rv => h v h₃ tk₃ ((k₁.trans k₂).trans k₃) rv⟩
    rw [hst env] at hb ⊢
    exact Calls.callWith_function (o := oC) (fd := fd) (Calls.evalArgs_plain hb)
  · cases ed
end Mine
end
section -- F33
open PySem PySem.Spec PySem.Calls PySem.W PyProof.Rows
set_option Elab.async false
set_option maxRecDepth 100000
namespace Mine
variable {C : Cx} {τ τ' : List Str} {κ : Str → Option NameKind} {n : Nat}

noncomputable def oShr : DV → DV → Option DV
  | .p (.int a), .p (.int b) => if 0 ≤ b then some (dint (a.fdiv (2 ^ b.toNat))) else none
  | _, _ => none
theorem op_shr : Op2 C n (binaryOp .RShift) oShr := by
  intro S A s a b d u v Q E _ ho _ ru rv e k
  unfold oShr at e
  split at e
  · split at e
    · rename_i hb
      cases e
      obtain ⟨t1, rfl⟩ := of_int ru
      obtain ⟨t2, rfl⟩ := of_int rv
      exact rshift_int hb (k _ _ _ (.refl ho.tab) rv_int)
    · cases e
  · cases e
noncomputable def oShl : DV → DV → Option DV
  | .p (.int a), .p (.int b) => if 0 ≤ b ∧ b ≤ 1000 ∧ 0 ≤ a ∧ a < 1000000 then some (dint (a * 2 ^ b.toNat)) else none
  | _, _ => none
theorem op_shl : Op2 C n (binaryOp .LShift) oShl := by
  intro S A s a b d u v Q E _ ho _ ru rv e k
  unfold oShl at e
  split at e
  · split at e
    · rename_i hb
      cases e
      obtain ⟨t1, rfl⟩ := of_int ru
      obtain ⟨t2, rfl⟩ := of_int rv
      exact lshift_int_small hb.1 (by omega) (by omega) (k _ _ _ (.refl ho.tab) rv_int)
    · cases e
  · cases e
theorem op_xor : Op2 C n (binaryOp .BitXor) (oInt Builtin.bitXor) := op_int fun _ _ _ _ _ _ _ _ h => xor_int h
noncomputable def oDiv : DV → DV → Option DV
  | .p (.int a), .p (.int b) => if b ≠ 0 ∧ a.natAbs < 1000000 ∧ b.natAbs < 1000000 then some (dint (a.fdiv b)) else none
  | _, _ => none
theorem op_div : Op2 C n (binaryOp .FloorDiv) oDiv := by
  intro S A s a b d u v Q E _ ho _ ru rv e k
  unfold oDiv at e
  split at e
  · split at e
    · rename_i hb
      cases e
      obtain ⟨t1, rfl⟩ := of_int ru
      obtain ⟨t2, rfl⟩ := of_int rv
      exact floordiv_int hb.1 (k _ _ _ (.refl ho.tab) rv_int) (.inl (PyProof.noPylong_small (by omega)))
    · cases e
  · cases e

/-- a.bit_length() -/
noncomputable def fBits (f : G → Option DV) : G → Option DV := fun Γ => match f Γ with
  | some (.p (.int a)) => some (dint (Builtin.Int.intBits a))
  | _ => none
theorem se_bits {o : Expr} {apos pos : Pos} {f : G → Option DV} (hf : SE C τ κ n o f)
    (hev : ∀ env, ∃ pl, eval (.Call (.Attribute o (Str.ofString "bit_length") apos) [] [] pos) env = (do
      let ov ← eval o env
      standAt apos.atName
      let (f, first) ← holding [ov] (getMethod ov (Str.ofString "bit_length") pl)
      callWith pos f first (backTo pos (starEach [] env)) (backToKw pos (keywordEach [] env)))) :
    SE C τ κ n (.Call (.Attribute o (Str.ofString "bit_length") apos) [] [] pos) (fBits f) := by
  intro env S A s Γ d Q E ha fe re ed h
  unfold fBits at ed
  split at ed
  · rename_i a ea
    cases ed
    obtain ⟨pl, he⟩ := hev env
    rw [he]
    refine wpAny_bind (hf env S A s Γ _ _ E ha fe re ea fun v h₁ tk₁ k₁ rv => wpAny_bind (wpAny_standAt (wpAny_bind (wpAny_holding ?_))))
    obtain ⟨t, rfl⟩ := of_int rv
    refine getMethod_int_bit_length ?_
    show wpAny _ A (callWith pos (.builtin "int.bit_length") [.int a t] [] []) Q E _
    refine Calls.callWith_builtin rfl (PySem.evalArgs_none ?_)
    exact call_int_bit_length (h _ _ _ k₁ rv_int)
  · cases ed

/-- truth of an int -/
noncomputable def bNz (f : G → Option DV) : G → Option Bool := fun Γ => match f Γ with
  | some (.p (.int a)) => some (a != 0)
  | _ => none
theorem sb_int {e : Expr} {f : G → Option DV} (hf : SE C τ κ n e f) (hp : ∀ env (whole : Sem Value), isTrue e env whole = (do let v ← whole; standAt e.pos; holding [v] (truthy v))) : SB C τ κ n e (bNz f) := by
  intro env S A s Γ b Q E ha fe re eb h
  unfold bNz at eb
  split at eb
  · rename_i a ea
    cases eb
    refine isTrue_plain (he := hp env _) (hf env S A s Γ _ _ E ha fe re ea fun v h₁ tk₁ k₁ rv => ?_)
    obtain ⟨t, rfl⟩ := of_int rv
    exact P.truthy_int (h h₁ tk₁ k₁)
  · cases eb

theorem rdAll_set {h : Heap} {v : Value} {d : PyData} : ∀ {vs : List Value} {xs : List PyData} {as : List Addr} (j : Nat), RdAll h vs xs as → Rd h v d [] → ∃ bs, RdAll h (vs.set j v) (xs.set j d) bs ∧ ∀ b ∈ bs, b ∈ as
  | _, _, _, _, .nil, _ => ⟨[], .nil, fun _ hb => hb⟩
  | _, _, _, 0, .cons (as := as) (bs := bs) r rs, q => ⟨[] ++ bs, .cons q rs, fun b hb => List.mem_append_right _ (by simpa using hb)⟩
  | _, _, _, j + 1, .cons (as := as) (bs := bs) r rs, q => by
    obtain ⟨cs, q', hc⟩ := rdAll_set j rs q
    refine ⟨as ++ cs, .cons r q', fun b hb => ?_⟩
    rcases List.mem_append.mp hb with hb | hb
    · exact List.mem_append_left _ hb
    · exact List.mem_append_right _ (hc b hb)

/-- x[k] = v, for an owned list and an int -/
noncomputable def fSetL (i : Nat) (fk fv : G → Option DV) : G → List Nat → Option Res := fun Γ O =>
  match Γ i, fk Γ, fv Γ with
  | some (.p (.list xs)), some (.p (.int k)), some (.p (.int v)) => if O.contains i = true ∧ 0 ≤ k ∧ k < xs.length ∧ xs.length ≤ 1000 then some (.next (gset Γ i (.p (.list (xs.set k.toNat (.int v))))) O) else none
  | _, _, _ => none
theorem s1_setL {x : Str} {px spos pos : Pos} {ek ev : Expr} {fk fv : G → Option DV} (i : Nat) (hi : τ[i]? = some x) (hk : SE C τ κ n ek fk) (hv : SE C τ κ n ev fv)
    (hd : (x == ("__debug__" : Str)) = false) (hc : (x == ("__classdict__" : Str)) = false)
    (hs : ∀ env, swapsWith ev (some (.Subscript (.Name x px) ek spos)) pos.line env = pure false) :
    S1 C τ κ n (.Assign [.Subscript (.Name x px) ek spos] ev pos) (fSetL i fk fv) := by
  intro env S₀ W own A s Γ r Q E ha fe re er h
  unfold fSetL at er
  split at er
  · rename_i xs k v eg efk efv
    split at er
    · rename_i hz
      cases er
      obtain ⟨a, hl, _⟩ := known_own re eg hz.1
      refine wpAny_Assign_Subscript (hv env _ A s Γ _ _ E ha fe.toFnEnv re.rel efv fun u h₁ tk₁ k₁ ru => ?_) (hs env)
      have re₁ := re.pure k₁
      obtain ⟨t1, rfl⟩ := of_int ru
      obtain ⟨a', hl', _, m, x', hn, ex, at_⟩ := known_own re₁ eg hz.1
      rw [hl] at hl'; cases hl'
      rw [hi] at ex; cases ex
      refine name_at fe.toFnEnv hn at_ hd hc ?_
      refine hk env _ A _ Γ _ _ E ha fe.toFnEnv re₁.rel efk fun w h₂ tk₂ k₂ rw' => ?_
      obtain ⟨t2, rfl⟩ := of_int rw'
      have re₂ := re₁.pure k₂
      obtain ⟨a', hl', ro, _⟩ := known_own re₂ eg hz.1
      rw [hl] at hl'; cases hl'
      obtain ⟨vs, m', as, e', r', q'⟩ := ro
      have hsz : vs.size = xs.length := by rw [← rdAll_length r', Array.length_toList]
      refine ki_setAt (l := a) (items := vs) (n := m') e' hz.2.1 (by have := hz.2.2.1; have := hz.2.2.2; omega) (by rw [hsz]; exact hz.2.2.1) ?_
      have hsb := Heap.SameBut.update h₂ a (Obj.mapSeq (·.setIfInBounds k.toNat (.int v t1)))
      have e3 : ∃ m3, (h₂.update a (Obj.mapSeq (·.setIfInBounds k.toNat (.int v t1)))).get? a = some (lobj (vs.setIfInBounds k.toNat (.int v t1)) m3) := ⟨_, get?_update_seq (c := "list") e' _⟩
      obtain ⟨m3, e3⟩ := e3
      obtain ⟨rel, kp⟩ := re₂.mutate (d' := .p (.list (xs.set k.toNat (.int v)))) eg hl hsb ⟨_, e3, .inr (.inr ⟨_, _, rfl⟩)⟩ fun t' => by
        have kk : Gets C [a] h₂ _ := fun b o e hb _ => (hsb.2 b (fun q => hb (q ▸ .head _))).trans e
        have ain : a ∈ S₀ ++ Mset W own := List.mem_append_right _ (own_in (lookup_mem hl))
        have hm : ∀ b ∈ [a], ∀ o, h₂.get? b = some o → NotFix o := notFix_of fun b hb => by rw [List.mem_singleton.mp hb]; exact ⟨_, e', .inr (.inr ⟨_, _, rfl⟩)⟩
        obtain ⟨bs, q3, hb3⟩ := rdAll_set k.toNat r' (.int v t1 : Rd h₂ (.int v t1) (.int v) [])
        refine ⟨_, m3, bs, e3, ?_, fun b hb => q' b (hb3 b hb)⟩
        rw [Array.toList_setIfInBounds]
        exact rdAll_keep kk re₂.ok.tab hm q3 fun b hb q => q' b (hb3 b hb) (by rw [List.mem_singleton.mp q]; exact ain)
      exact h .next _ _ own ⟨rfl, rfl, rel⟩ ((k₁.trans k₂).nil.trans kp) .refl
    · cases er
  · cases er
end Mine
end
section -- F34
open PySem PySem.Spec PySem.Calls PySem.W PyProof.Rows
set_option Elab.async false
set_option maxRecDepth 100000
namespace Mine
variable {C : Cx} {τ τ' : List Str} {κ : Str → Option NameKind} {n : Nat}

theorem swaps_cell {elt : Expr} {gens : List Comprehension} {scope : Scope} {pos : Pos} {x : Str} {px : Pos} {line : Nat} {env : Env} (h : env.kindOf x = some .cell) :
    swapsWith (.ListComp elt gens scope pos) (some (.Name x px)) line env = pure false := by
  show (pure (env.blockKind == .function && env.kindOf x == some .local && px.line == pos.line && !(scope.names.any fun (n, k) => n == x && (k == .local || k == .cell))) : Sem Bool) = _
  rw [h]
  have : (some NameKind.cell == some NameKind.local) = false := by decide
  rw [this, Bool.and_false]
  rfl
theorem swaps_yes {elt : Expr} {gens : List Comprehension} {scope : Scope} {pos : Pos} {x : Str} {px : Pos} {line : Nat} {env : Env} (hb : env.blockKind = .function) (h : env.kindOf x = some .local)
    (hl : (px.line == pos.line && !(scope.names.any fun (n, k) => n == x && (k == .local || k == .cell))) = true) :
    swapsWith (.ListComp elt gens scope pos) (some (.Name x px)) line env = pure true := by
  show (pure (env.blockKind == .function && env.kindOf x == some .local && px.line == pos.line && !(scope.names.any fun (n, k) => n == x && (k == .local || k == .cell))) : Sem Bool) = _
  rw [h, hb]
  have e1 : (ScopeKind.function == ScopeKind.function) = true := by decide
  have e2 : (some NameKind.local == some NameKind.local) = true := by decide
  rw [e1, e2, Bool.true_and, Bool.true_and, hl]

noncomputable def fitsB (τ τ' : List Str) (κ : Str → Option NameKind) (names : List (Str × NameKind)) (fr : List (Nat × Nat)) : Bool :=
  (fr.all fun p => match τ'[p.1]?, τ[p.2]? with | some x, some y => x == y && names.any (fun q => q.1 == x && q.2 == .free) | _, _ => false) &&
  names.all fun y => y.2 != .cell && (y.2 != .local || names.lookup y.1 == some .local) && (y.2 != .free || (names.lookup y.1 == some .free && κ y.1 != some .local && fr.any fun p => τ[p.2]? == some y.1))
theorem lookup_memN {β : Type} {l : List (Nat × β)} {x : Nat} {b : β} (h : l.lookup x = some b) : (x, b) ∈ l := by
  induction l with
  | nil => cases h
  | cons p r ih =>
    obtain ⟨j, c⟩ := p
    rw [List.lookup_cons] at h
    cases qx : x == j with
    | true => rw [qx] at h; cases h; rw [eq_of_beq qx]; exact .head _
    | false => rw [qx] at h; exact .tail _ (ih h)
theorem fits_of {names : List (Str × NameKind)} {fr : List (Nat × Nat)} (h : fitsB τ τ' κ names fr = true) : Fits τ τ' κ names fr := by
  unfold fitsB at h
  rw [Bool.and_eq_true, List.all_eq_true, List.all_eq_true] at h
  obtain ⟨h1, h2⟩ := h
  have per : ∀ y ∈ names, y.2 ≠ .cell ∧ (y.2 = .local → names.lookup y.1 = some .local) ∧ (y.2 = .free → names.lookup y.1 = some .free ∧ κ y.1 ≠ some .local ∧ ∃ p ∈ fr, τ[p.2]? = some y.1) := fun y hy => by
    have q := h2 y hy
    rw [Bool.and_eq_true, Bool.and_eq_true, Bool.or_eq_true, Bool.or_eq_true] at q
    obtain ⟨⟨q1, q2⟩, q3⟩ := q
    refine ⟨by simpa using q1, fun e => ?_, fun e => ?_⟩
    · rcases q2 with q2 | q2
      · rw [e] at q2; exact absurd q2 (by decide)
      · simpa using q2
    · rcases q3 with q3 | q3
      · rw [e] at q3; exact absurd q3 (by decide)
      · rw [Bool.and_eq_true, Bool.and_eq_true, List.any_eq_true] at q3
        obtain ⟨⟨a, b⟩, p, hp, c⟩ := q3
        exact ⟨by simpa using a, by simpa using b, p, hp, by simpa using c⟩
  refine ⟨fun j i hl => ?_, fun x hx => ⟨((per _ hx).2.2 rfl).2.1, ((per _ hx).2.2 rfl).2.2⟩, fun x hx => ((per _ hx).2.2 rfl).1, fun y hy => (per y hy).1, fun y hy => (per y hy).2.1⟩
  have q := h1 _ (lookup_memN hl)
  dsimp only at q
  split at q
  · rename_i x y e1 e2
    rw [Bool.and_eq_true, List.any_eq_true] at q
    obtain ⟨a, p, hp, b⟩ := q
    rw [Bool.and_eq_true] at b
    have exy : x = y := eq_of_beq a
    subst exy
    obtain ⟨p1, p2⟩ := p
    have b1 : p1 = x := eq_of_beq b.1
    have b2 : p2 = NameKind.free := by simpa using b.2
    subst b1 b2
    exact ⟨p1, e1, e2, hp⟩
  · cases q

/-- a def of the module's: where it lies -/
structure DefIn (C : Cx) (x : Str) (fa : Addr) : Prop where
  g : C.mg x = some (.ref fa)
  o : ∃ fo fd, C.hb.get? fa = some fo ∧ fo.data = .func fd
  t : fa ≠ C.tab
theorem se_callD {x : Str} {p pos : Pos} {e : Expr} {es : List Expr} {fa : Addr} {F : List DV → Option DV} {g : G → Option (List DV)} (D : DefIn C x fa) (hF : FS C n (.ref fa) F) (hes : SEs C τ κ n (e :: es) g)
    (hk : κ x = some .globalImplicit) (hd : (x == ("__debug__" : Str)) = false)
    (hst : ∀ env, starEach (e :: es) env = (false, eval e env) :: starEach es env) (hpl : ∀ env, (backTo pos (starEach es env)).any (·.1) = false)
    (hev : ∀ env, eval (.Call (.Name x p) (e :: es) [] pos) env = (do callWith pos (← eval (.Name x p) env) [] (backTo pos (starEach (e :: es) env)) (backToKw pos (keywordEach [] env)))) :
    SE C τ κ n (.Call (.Name x p) (e :: es) [] pos) (fCall F g) := by
  obtain ⟨fo, fd, h1, h2⟩ := D.o
  exact se_call hes hF D.g h1 h2 D.t hk hd hst hpl hev

theorem AOk.mono {m k : Nat} (h : m ≤ k) {A : Around} (a : AOk k A) : AOk m A := ⟨a.handled, by have := a.depth; omega, by have := a.units; omega⟩
theorem FS.mono {m k : Nat} {v : Value} {F : List DV → Option DV} (h : m ≤ k) (f : FS C m v F) : FS C k v F := fun S A s vs ds d Q E ha => f S A s vs ds d Q E (ha.mono h)
end Mine
end
section -- P0
open PySem PySem.Spec PySem.Calls PySem.W PyProof.Rows
set_option Elab.async false
set_option maxRecDepth 100000
namespace Mine
variable {C : Cx} {τ τ' : List Str} {κ : Str → Option NameKind} {n : Nat}
noncomputable def topStmt (k : Nat) : Stmt := (PySem.Challenge.pw_pg0083_01.main.body[k]?).getD (.Pass ⟨0, 0, 0, 0⟩)
noncomputable def bodyOf : Stmt → List Stmt
  | .FunctionDef _ _ b _ _ _ _ _ _ _ => b
  | .ClassDef _ _ _ b .. => b
  | _ => []
noncomputable def scopeOf : Stmt → Scope
  | .FunctionDef _ _ _ _ _ _ s _ _ _ => s
  | _ => default
noncomputable def kOf (s : Stmt) : Str → Option NameKind := fun x => (scopeOf s).names.lookup x
noncomputable def nthOf (l : List Stmt) (k : Nat) : Stmt := (l[k]?).getD (.Pass ⟨0, 0, 0, 0⟩)

/-- what the module's names and the builtin ones are -/
structure GCx (C : Cx) : Prop where
  g_len : C.mg (Str.ofString "len") = none
  b_len : C.mb (Str.ofString "len") = some (.builtin "len")
  g_sum : C.mg (Str.ofString "sum") = none
  b_sum : C.mb (Str.ofString "sum") = some (.builtin "sum")
  g_sorted : C.mg (Str.ofString "sorted") = none
  b_sorted : C.mb (Str.ofString "sorted") = some (.builtin "sorted")
  g_range : C.mg (Str.ofString "range") = none
  b_range : C.mb (Str.ofString "range") = some (.type "range")
  g_isinstance : C.mg (Str.ofString "isinstance") = none
  b_isinstance : C.mb (Str.ofString "isinstance") = some (.builtin "isinstance")
  g_tuple : C.mg (Str.ofString "tuple") = none
  b_tuple : C.mb (Str.ofString "tuple") = some (.type "tuple")
  crlf : ∃ t, C.mg (Str.ofString "CRLF") = some (.str (Str.ofString "\r\n") t)

noncomputable def gv (i : Nat) : G → Option DV := fun Γ => Γ i
noncomputable def oSub_ : DV → DV → Option DV := oInt (· - ·)
noncomputable def oXor : DV → DV → Option DV := oInt Builtin.bitXor
noncomputable def oLt : DV → DV → Option DV := oIntB fun a b => decide (a < b)
noncomputable def oGt : DV → DV → Option DV := oIntB fun a b => decide (b < a)
noncomputable def oLe : DV → DV → Option DV := oIntB fun a b => decide (a ≤ b)

theorem se_crlf (g : GCx C) {pos : Pos} (hk : κ (Str.ofString "CRLF") = some .globalImplicit) : SE C τ κ n (.Name (Str.ofString "CRLF") pos) (fun _ => some (dstr (Str.ofString "\r\n"))) := by
  obtain ⟨t, e⟩ := g.crlf
  exact se_gstr e hk rfl

/-- the orders: their class, its init, its compare -/
structure OrdAll (C : Cx) (ac : Addr) : Prop where
  ex : ∃ cl N fI oI mN sf arg oC fd, OrdCls C cl N fI oI mN ∧ OrdInit C fI oI sf arg ∧ C.mg (Str.ofString "TupleComp") = some (.ref cl) ∧ mN (Str.ofString "compare") = some (.ref ac) ∧
    C.hb.get? ac = some oC ∧ oC.cls = .type "function" ∧ oC.data = .func fd ∧ ac ≠ C.tab
theorem OrdAll.src {ac : Addr} (O : OrdAll C ac) {target o : Expr} {apos : Pos} {f : G → Option DV} (hf : SE C τ κ n o f)
    (hev : ∀ env, eval (.Attribute o selKey apos) env = (do let ov ← eval o env; standAt apos.atName; let r ← holding [ov] (getAttr ov selKey true); letTemporaryGo o ov r; pure r))
    (hlt : ∀ ov r, letTemporaryGo o ov r = pure ()) : Src C τ κ n target (.Attribute o selKey apos) (gOrd f) := by
  obtain ⟨cl, N, fI, oI, mN, sf, arg, oC, fd, h1, _⟩ := O.ex
  exact src_order h1 hf hev hlt
theorem OrdAll.new {ac : Addr} (O : OrdAll C ac) (hn2 : 2 ≤ n) {p pos : Pos} {e : Expr} {g : G → Option DV} (hf : SE C τ κ n e g)
    (hk : κ (Str.ofString "TupleComp") = some .globalImplicit) (hd : ((Str.ofString "TupleComp") == ("__debug__" : Str)) = false)
    (hst : ∀ env, starEach [e] env = (false, eval e env) :: starEach [] env) (hpl : ∀ env, (backTo pos (starEach [] env)).any (·.1) = false)
    (hev : ∀ env, eval (.Call (.Name (Str.ofString "TupleComp") p) [e] [] pos) env = (do callWith pos (← eval (.Name (Str.ofString "TupleComp") p) env) [] (backTo pos (starEach [e] env)) (backToKw pos (keywordEach [] env)))) :
    SE C τ κ n (.Call (.Name (Str.ofString "TupleComp") p) [e] [] pos) (fNewOrd g) := by
  obtain ⟨cl, N, fI, oI, mN, sf, arg, oC, fd, h1, h2, h3, _⟩ := O.ex
  exact se_neworder h1 h2 hn2 hf h3 hk hd hst hpl hev
theorem look_compare : ∃ y, typeLookup (.type "object") (Str.ofString "compare") = pure y := ⟨none, by rw [typeLookup_type, builtinLookup_eq_fast]; kernel_rfl⟩
theorem OrdAll.cmp {ac : Addr} (O : OrdAll C ac) {F : List DV → Option DV} (hF : FS C n (.ref ac) F)
    {o e : Expr} {es : List Expr} {apos pos : Pos} {f : G → Option DV} {g : G → Option (List DV)} (hf : SE C τ κ n o f) (hg : SEs C τ κ n (e :: es) g)
    (hst : ∀ env, starEach (e :: es) env = (false, eval e env) :: starEach es env)
    (hev : ∀ env, ∃ pl, eval (.Call (.Attribute o (Str.ofString "compare") apos) (e :: es) [] pos) env = (do
      let ov ← eval o env
      standAt apos.atName
      let (f, first) ← holding [ov] (getMethod ov (Str.ofString "compare") pl)
      callWith pos f first (backTo pos (starEach (e :: es) env)) (backToKw pos (keywordEach [] env)))) :
    SE C τ κ n (.Call (.Attribute o (Str.ofString "compare") apos) (e :: es) [] pos) (fMeth F f g) := by
  obtain ⟨cl, N, fI, oI, mN, sf, arg, oC, fd, h1, h2, h3, h4, h5, h6, h7, h8⟩ := O.ex
  obtain ⟨y, hy⟩ := look_compare
  exact se_meth h1 h4 h5 h6 h7 h8 (by decide) hy hF hf hg hst hev

/-- a compiled pattern of the module's: what its sub gives -/
structure ReSub (C : Cx) (n : Nat) (x : Str) (F : List DV → Option DV) : Prop where
  is : ∃ p, C.mg x = some (.ref p) ∧ (∀ h, HOk C h → ∀ (A : Around) (s : Shared) (E : Value → Shared → Prop) (Q : Value × List Value → Shared → Prop) (pl : Sem Bool), s.heap = h →
      Q (.builtin "re.Pattern.sub", [.ref p]) s → wpAny (model C.prog C.w) A (getMethod (.ref p) (Str.ofString "sub") pl) Q E s) ∧
    ∀ (S : List Addr) (A : Around) (s : Shared) (vs : List Value) (ds : List DV) (d : DV) (Q : Value → Shared → Prop) (E : Value → Shared → Prop),
      AOk n A → HOk C s.heap → (∀ x ∈ S, ∃ o, s.heap.get? x = some o) → RvAll C S s.heap vs ds → F ds = some d →
      (∀ v h' tk, Keep C [] s.heap h' → Rv C S h' v d → Q v { s with heap := h', toks := tk }) → wpAny (model C.prog C.w) A (call (.builtin "re.Pattern.sub") (.ref p :: vs)) Q E s
theorem ReSub.se {x : Str} {F : List DV → Option DV} (R : ReSub C n x F) {p apos pos : Pos} {e : Expr} {es : List Expr} {g : G → Option (List DV)} (hg : SEs C τ κ n (e :: es) g)
    (hk : κ x = some .globalImplicit) (hd : (x == ("__debug__" : Str)) = false) (hst : ∀ env, starEach (e :: es) env = (false, eval e env) :: starEach es env) (hpl : ∀ env, (backTo pos (starEach es env)).any (·.1) = false)
    (hev : ∀ env, ∃ pl, eval (.Call (.Attribute (.Name x p) (Str.ofString "sub") apos) (e :: es) [] pos) env = (do
      let ov ← eval (.Name x p) env
      standAt apos.atName
      let (f, first) ← holding [ov] (getMethod ov (Str.ofString "sub") pl)
      callWith pos f first (backTo pos (starEach (e :: es) env)) (backToKw pos (keywordEach [] env)))) :
    SE C τ κ n (.Call (.Attribute (.Name x p) (Str.ofString "sub") apos) (e :: es) [] pos) (fCall F g) := by
  intro env S A s Γ d Q E ha fe re ed h
  unfold fCall at ed
  split at ed
  · rename_i ds eg
    obtain ⟨pl, he⟩ := hev env
    obtain ⟨a, h1, h2, h3⟩ := R.is
    rw [he]
    refine wpAny_bind (glob_name fe re.ok hk (.inl h1) hd (wpAny_bind (wpAny_standAt (wpAny_bind (wpAny_holding (h2 _ re.ok A s E _ pl rfl ?_))))))
    show wpAny _ A (callWith pos (.builtin "re.Pattern.sub") [.ref a] (backTo pos (starEach (e :: es) env)) (backToKw pos (keywordEach [] env))) Q E _
    have hb := hg env S A s Γ pos ds (fun vs s₁ => wpAny (model C.prog C.w) A (call (.builtin "re.Pattern.sub") ([.ref a] ++ vs)) Q E s₁) E ha fe re eg fun vs h₂ tk₂ k₂ rs => by
      have re₂ := re.pure k₂
      exact h3 S A _ vs ds d Q E ha re₂.ok re₂.live rs ed fun v h₃ tk₃ k₃ rv => h v h₃ tk₃ (k₂.trans k₃) rv
    rw [hst env] at hb ⊢
    refine Calls.callWith_builtin ?_ (Calls.evalArgs_plain hb)
    show (false || (backTo pos (starEach es env)).any (·.1)) = false
    rw [hpl env]; rfl
  · cases ed
end Mine
end
section -- PB
open PySem PySem.Spec PySem.Calls PySem.W PyProof.Rows
set_option Elab.async false
set_option maxRecDepth 100000
namespace Mine
theorem op2_of {o : DV → DV → Option DV} {f g : G → Option DV} {Γ : G} {a b : DV} (ha : f Γ = some a) (hb : g Γ = some b) : op2 o f g Γ = o a b := by unfold op2; rw [ha, hb]
theorem fcons_of {f : G → Option DV} {g : G → Option (List DV)} {Γ : G} {a : DV} {b : List DV} (ha : f Γ = some a) (hb : g Γ = some b) : fcons f g Γ = some (a :: b) := by unfold fcons; rw [ha, hb]
/-- inner, plainly -/
noncomputable def innerP : Nat → Int → Int → Int → List Int → Option (List Int)
  | 0, _, _, _, _ => none
  | m + 1, x, L, R, xs =>
    if L + 1 = R then (if 0 ≤ L ∧ L < xs.length ∧ xs.length ≤ 1000 then some (xs.set L.toNat x) else none)
    else
      let mid := (L + R).fdiv 2
      let shift := (mid - L) * 3
      let upper := x.fdiv (2 ^ shift.toNat)
      if 0 ≤ mid - L ∧ mid - L < 300 ∧ 0 ≤ upper ∧ upper < 1000000 then
        match innerP m (Builtin.bitXor x (upper * 2 ^ shift.toNat)) L mid xs with
        | some ys => innerP m upper mid R ys
        | none => none
      else none
noncomputable def i2dK (a : Int) : Int := ((Builtin.Int.intBits a : Int) + 3 - 1).fdiv 3
/-- the digits, plainly -/
noncomputable def i2dP (a : Int) : Option (List Int) :=
  if 0 ≤ a ∧ a < 512 ∧ 0 ≤ i2dK a ∧ i2dK a ≤ 1000 then
    (if a ≠ 0 then innerP 4 a 0 (i2dK a) (List.replicate (i2dK a).toNat 0) else some (List.replicate (i2dK a).toNat 0))
  else none
noncomputable def B_i2d : List DV → Option DV
  | [.p (.int a), .p (.int 3)] => match i2dP a with
    | some ys => some (.p (.list (ys.map .int)))
    | none => none
  | _ => none

/-- line ends made one -/
noncomputable def eol2 : List Nat → List Nat
  | [] => []
  | 13 :: 10 :: r => 13 :: 10 :: eol2 r
  | c :: r => if c = 10 ∨ c = 13 then 13 :: 10 :: eol2 r else c :: eol2 r
/-- a dot that leads a line made two -/
noncomputable def dot1 : Bool → List Nat → List Nat
  | _, [] => []
  | b, c :: r => if b = true ∧ c = 46 then 46 :: 46 :: dot1 false r else c :: dot1 (decide (c = 10)) r
noncomputable def B_sub2 : List DV → Option DV
  | [.p (.str r), .p (.str x)] => if r = Str.ofString "\r\n" ∧ x.length ≤ 1000 then some (dstr ⟨(eol2 x.cps.toList).toArray⟩) else none
  | _ => none
noncomputable def B_sub1 : List DV → Option DV
  | [.p (.str r), .p (.str x)] => if r = Str.ofString ".." ∧ x.length ≤ 1000 then some (dstr ⟨(dot1 true x.cps.toList).toArray⟩) else none
  | _ => none
end Mine
end
section -- P1
open PySem PySem.Spec PySem.Calls PySem.W PyProof.Rows
set_option Elab.async false
set_option maxRecDepth 100000
namespace Mine
noncomputable def τ_draw : List Str := [(Str.ofString "script"), (Str.ofString "place"), (Str.ofString "spare"), (Str.ofString "bound")]
noncomputable def F_draw : G → List Nat → Option Res :=
  (fSeq (fRet (op2 oMod (fIf (fun Γ => asB (op2 oLt (gv 1) (fCall bLen (fcons (gv 0) fnil)) Γ)) (op2 oSub (gv 0) (gv 1)) (gv 2)) (gv 3))) fDone)
noncomputable def B_draw : List DV → Option DV := runF 4 F_draw
set_option maxHeartbeats 4000000 in
theorem ss_draw {C : Cx} (g : GCx C) {n : Nat}  : SS C τ_draw (kOf (topStmt 14)) n (bodyOf (topStmt 14)) F_draw :=
  (ss_cons (s1_ret (se_bin (se_ifexp (sb_cmp (se_name 1 rfl) (se_callB (ses_cons (se_name 0 rfl) ses_nil (fun _ => rfl)) fs_len g.g_len g.b_len rfl rfl (fun _ => rfl) (fun _ => rfl) (fun _ => rfl)) op_lt rfl) (se_sub (se_name 0 rfl) (se_name 1 rfl) (fun _ _ => ⟨_, rfl⟩)) (se_name 2 rfl)) (se_name 3 rfl) op_mod)) ss_nil)
noncomputable def τ_nost : List Str := [(Str.ofString "one"), (Str.ofString "other")]
noncomputable def F_nost : G → List Nat → Option Res :=
  (fSeq (fCond (bOr (fun Γ => asB (op2 oNe (fCall bSum (fcons (gv 0) fnil)) (fCall bSum (fcons (gv 1) fnil)) Γ)) (fun Γ => asB (op2 oGt (op2 oSub (gv 0) (fun _ => some (dint 0))) (op2 oSub (gv 1) (fun _ => some (dint 0))) Γ))) (fSeq (fRet (fun _ => some (dbool false))) fDone) fDone) (fSeq (fRet (op2 oLe (op2 oAdd (op2 oSub (gv 0) (fun _ => some (dint 0))) (op2 oSub (gv 0) (fun _ => some (dint 1)))) (op2 oAdd (op2 oSub (gv 1) (fun _ => some (dint 0))) (op2 oSub (gv 1) (fun _ => some (dint 1)))))) fDone))
noncomputable def B_nost : List DV → Option DV := runF 2 F_nost
set_option maxHeartbeats 4000000 in
theorem ss_nost {C : Cx} (g : GCx C) {n : Nat} (hn : 1 ≤ n) : SS C τ_nost (kOf (topStmt 18)) n (bodyOf (topStmt 18)) F_nost :=
  (ss_cons (s1_if (sb_or2 (sb_cmp (se_callB (ses_cons (se_name 0 rfl) ses_nil (fun _ => rfl)) fs_sum g.g_sum g.b_sum rfl rfl (fun _ => rfl) (fun _ => rfl) (fun _ => rfl)) (se_callB (ses_cons (se_name 1 rfl) ses_nil (fun _ => rfl)) fs_sum g.g_sum g.b_sum rfl rfl (fun _ => rfl) (fun _ => rfl) (fun _ => rfl)) (op_ne hn) rfl) (sb_cmp (se_sub (se_name 0 rfl) se_int (fun _ _ => ⟨_, rfl⟩)) (se_sub (se_name 1 rfl) se_int (fun _ _ => ⟨_, rfl⟩)) op_gt rfl)) (ss_cons (s1_ret se_bool) ss_nil) ss_nil) (ss_cons (s1_ret (se_cmp (se_bin (se_sub (se_name 0 rfl) se_int (fun _ _ => ⟨_, rfl⟩)) (se_sub (se_name 0 rfl) se_int (fun _ _ => ⟨_, rfl⟩)) op_add) (se_bin (se_sub (se_name 1 rfl) se_int (fun _ _ => ⟨_, rfl⟩)) (se_sub (se_name 1 rfl) se_int (fun _ _ => ⟨_, rfl⟩)) op_add) op_le rfl)) ss_nil))
noncomputable def τ_count : List Str := [(Str.ofString "callers"), (Str.ofString "nc"), (Str.ofString "calls")]
noncomputable def F_count : G → List Nat → Option Res :=
  (fSeq (fAssign 1 (fun _ => some (dint 0))) (fSeq (fFor (gVals (gv 0)) (bName 2) (fSeq (fAug 1 (gv 2)) fDone)) (fSeq (fRet (gv 1)) fDone)))
noncomputable def B_count : List DV → Option DV := runF 1 F_count
set_option maxHeartbeats 4000000 in
theorem ss_count {C : Cx} (g : GCx C) {n : Nat}  : SS C τ_count (kOf (topStmt 6)) n (bodyOf (topStmt 6)) F_count :=
  (ss_cons (s1_assign (apart_of (τ := τ_count) (by decide +kernel)) 1 rfl se_int (.inl rfl) (fun _ _ => rfl)) (ss_cons (s1_for (src_vals (se_name 0 rfl) (fun _ => rfl) rfl) (tg_name (apart_of (τ := τ_count) (by decide +kernel)) 2 rfl rfl) (ss_cons (s1_aug (apart_of (τ := τ_count) (by decide +kernel)) 1 rfl (se_name 2 rfl) rfl) ss_nil) (fun _ _ => rfl)) (ss_cons (s1_ret (se_name 1 rfl)) ss_nil)))
noncomputable def τ_addc : List Str := [(Str.ofString "target"), (Str.ofString "source"), (Str.ofString "new_callers"), (Str.ofString "func"), (Str.ofString "caller")]
noncomputable def F_addc : G → List Nat → Option Res :=
  (fSeq (fNew 2 (.dict [])) (fSeq (fFor (gItems (gv 0)) (bPair 3 4) (fSeq (fSet 2 (gv 3) (gv 4)) fDone)) (fSeq (fFor (gItems (gv 1)) (bPair 3 4) (fSeq (fCond (fun Γ => asB (op2 oIn (gv 3) (gv 2) Γ)) (fSeq (fCond (fun Γ => asB ((fNotTuple (gv 4)) Γ)) (fun _ _ => none) (fSeq (fAugSet 2 (gv 3) (gv 4)) fDone)) fDone) (fSeq (fSet 2 (gv 3) (gv 4)) fDone)) fDone)) (fSeq (fRet (gv 2)) fDone))))
noncomputable def B_addc : List DV → Option DV := runF 2 F_addc
set_option maxHeartbeats 4000000 in
theorem ss_addc {C : Cx} (g : GCx C) {n : Nat}  : SS C τ_addc (kOf (topStmt 5)) n (bodyOf (topStmt 5)) F_addc :=
  (ss_cons (s1_newdict (apart_of (τ := τ_addc) (by decide +kernel)) 2 rfl rfl) (ss_cons (s1_for (src_items (se_name 0 rfl) (fun _ => rfl) rfl) (tg_pair (apart_of (τ := τ_addc) (by decide +kernel)) 3 4 rfl rfl rfl rfl) (ss_cons (s1_set 2 rfl (se_name 3 rfl) (se_name 4 rfl) rfl rfl (fun _ => rfl)) ss_nil) (fun _ _ => rfl)) (ss_cons (s1_for (src_items (se_name 1 rfl) (fun _ => rfl) rfl) (tg_pair (apart_of (τ := τ_addc) (by decide +kernel)) 3 4 rfl rfl rfl rfl) (ss_cons (s1_if (sb_cmp (se_name 3 rfl) (se_name 2 rfl) op_in rfl) (ss_cons (s1_if (sb_val (se_nottuple (se_name 4 rfl) g.g_isinstance g.b_isinstance rfl rfl g.g_tuple g.b_tuple rfl rfl (fun _ => rfl) (fun _ => rfl) (fun _ => rfl) (fun _ => rfl)) (fun _ _ => rfl)) ss_never (ss_cons (s1_augset 2 rfl (se_name 3 rfl) (se_name 4 rfl) rfl rfl (fun _ _ _ => rfl)) ss_nil)) ss_nil) (ss_cons (s1_set 2 rfl (se_name 3 rfl) (se_name 4 rfl) rfl rfl (fun _ => rfl)) ss_nil)) ss_nil) (fun _ _ => rfl)) (ss_cons (s1_ret (se_name 2 rfl)) ss_nil))))
noncomputable def τ_compare : List Str := [(Str.ofString "self"), (Str.ofString "left"), (Str.ofString "right"), (Str.ofString "index"), (Str.ofString "direction"), (Str.ofString "l"), (Str.ofString "r")]
noncomputable def F_compare : G → List Nat → Option Res :=
  (fSeq (fFor (gOrd (gv 0)) (bPair 3 4) (fSeq (fAssign 5 (op2 oSub (gv 1) (gv 3))) (fSeq (fAssign 6 (op2 oSub (gv 2) (gv 3))) (fSeq (fCond (fun Γ => asB (op2 oLt (gv 5) (gv 6) Γ)) (fSeq (fRet (fNeg (gv 4))) fDone) fDone) (fSeq (fCond (fun Γ => asB (op2 oGt (gv 5) (gv 6) Γ)) (fSeq (fRet (gv 4)) fDone) fDone) fDone))))) (fSeq (fRet (fun _ => some (dint 0))) fDone))
noncomputable def B_compare : List DV → Option DV := runF 3 F_compare
set_option maxHeartbeats 4000000 in
theorem ss_compare {C : Cx} (g : GCx C) {n : Nat} {a_compare : Addr} (O : OrdAll C a_compare) : SS C τ_compare (kOf (nthOf (bodyOf (topStmt 4)) 1)) n (bodyOf (nthOf (bodyOf (topStmt 4)) 1)) F_compare :=
  (ss_cons (s1_for (O.src (se_name 0 rfl) (fun _ => rfl) (fun _ _ => rfl)) (tg_pair (apart_of (τ := τ_compare) (by decide +kernel)) 3 4 rfl rfl rfl rfl) (ss_cons (s1_assign (apart_of (τ := τ_compare) (by decide +kernel)) 5 rfl (se_sub (se_name 1 rfl) (se_name 3 rfl) (fun _ _ => ⟨_, rfl⟩)) (.inl rfl) (fun _ _ => rfl)) (ss_cons (s1_assign (apart_of (τ := τ_compare) (by decide +kernel)) 6 rfl (se_sub (se_name 2 rfl) (se_name 3 rfl) (fun _ _ => ⟨_, rfl⟩)) (.inl rfl) (fun _ _ => rfl)) (ss_cons (s1_if (sb_cmp (se_name 5 rfl) (se_name 6 rfl) op_lt rfl) (ss_cons (s1_ret (se_neg (se_name 4 rfl))) ss_nil) ss_nil) (ss_cons (s1_if (sb_cmp (se_name 5 rfl) (se_name 6 rfl) op_gt rfl) (ss_cons (s1_ret (se_name 4 rfl)) ss_nil) ss_nil) ss_nil)))) (fun _ _ => rfl)) (ss_cons (s1_ret se_int) ss_nil))
noncomputable def τ_quote : List Str := [(Str.ofString "data")]
noncomputable def F_quote : G → List Nat → Option Res :=
  (fSeq (fRet (fCall B_sub1 (fcons (fun _ => some (dstr (Str.ofString ".."))) (fcons (fCall B_sub2 (fcons (fun _ => some (dstr (Str.ofString "\r\n"))) (fcons (gv 0) fnil))) fnil)))) fDone)
noncomputable def B_quote : List DV → Option DV := runF 1 F_quote
set_option maxHeartbeats 4000000 in
theorem ss_quote {C : Cx} (g : GCx C) {n : Nat} (h_sub2 : ReSub C n (Str.ofString "_twin_re_2") B_sub2) (h_sub1 : ReSub C n (Str.ofString "_twin_re_1") B_sub1) : SS C τ_quote (kOf (topStmt 11)) n (bodyOf (topStmt 11)) F_quote :=
  (ss_cons (s1_ret (h_sub1.se (ses_cons se_str (ses_cons (h_sub2.se (ses_cons (se_crlf g rfl) (ses_cons (se_name 0 rfl) ses_nil (fun _ => rfl)) (fun _ => rfl)) rfl rfl (fun _ => rfl) (fun _ => rfl) (fun _ => ⟨_, rfl⟩)) ses_nil (fun _ => rfl)) (fun _ => rfl)) rfl rfl (fun _ => rfl) (fun _ => rfl) (fun _ => ⟨_, rfl⟩))) ss_nil)
noncomputable def τ_fix : List Str := [(Str.ofString "data")]
noncomputable def F_fix : G → List Nat → Option Res :=
  (fSeq (fRet (fCall B_sub2 (fcons (fun _ => some (dstr (Str.ofString "\r\n"))) (fcons (gv 0) fnil)))) fDone)
noncomputable def B_fix : List DV → Option DV := runF 1 F_fix
set_option maxHeartbeats 4000000 in
theorem ss_fix {C : Cx} (g : GCx C) {n : Nat} (h_sub2 : ReSub C n (Str.ofString "_twin_re_2") B_sub2) : SS C τ_fix (kOf (topStmt 12)) n (bodyOf (topStmt 12)) F_fix :=
  (ss_cons (s1_ret (h_sub2.se (ses_cons (se_crlf g rfl) (ses_cons (se_name 0 rfl) ses_nil (fun _ => rfl)) (fun _ => rfl)) rfl rfl (fun _ => rfl) (fun _ => rfl) (fun _ => ⟨_, rfl⟩))) ss_nil)
noncomputable def τ_columns : List Str := [(Str.ofString "rows"), (Str.ofString "ends"), (Str.ofString "columns"), (Str.ofString "turn"), (Str.ofString "text"), (Str.ofString "k"), (Str.ofString "sent")]
noncomputable def τ_columns1 : List Str := [(Str.ofString "row")]
noncomputable def τ_columns2 : List Str := [(Str.ofString "row")]
noncomputable def F_columns : G → List Nat → Option Res :=
  (fSeq (fNew 2 (.p (.list []))) (fSeq (fFor (gRange (fun _ => some (dint 3))) (bName 3) (fSeq (fAssign 4 (op2 oSub (gv 0) (fun _ => some (dint 0)))) (fSeq (fFor (gRange (fun _ => some (dint 3))) (bName 5) (fSeq (fAssign 4 (op2 oAdd (op2 oAdd (gv 4) (op2 oSub (gv 1) (gv 5))) (op2 oSub (gv 0) (op2 oAdd (gv 5) (fun _ => some (dint 1)))))) fDone)) (fSeq (fAssign 6 (fCall B_quote (fcons (gv 4) fnil))) (fSeq (fCond (fun Γ => asB (op2 oNe (gv 6) (fJoin (Str.ofString "\r\n") (fComp [] (gList0 (gv 0)) (bName 0) [0] tTrue (cEmit (fIf (fun Γ => asB (op2 oEq (op2 oSub (gv 0) (fun _ => some (dint 0))) (fun _ => some (dstr (Str.ofString "."))) Γ)) (op2 oAdd (fun _ => some (dstr (Str.ofString "."))) (gv 0)) (gv 0))))) Γ)) (fSeq (fRet (fList fnil)) fDone) fDone) (fSeq (fAppend 2 (op2 oSub_ (fCall bLen (fcons (gv 6) fnil)) (fCall bLen (fcons (fCall B_fix (fcons (gv 4) fnil)) fnil)))) (fSeq (fAssign 0 (fComp [] (gList0 (gv 0)) (bName 0) [0] tTrue (cEmit (fIf (fun Γ => asB (op2 oEq (op2 oSub (gv 0) (fun _ => some (dint 0))) (fun _ => some (dstr (Str.ofString "."))) Γ)) (fFrom 1 (gv 0)) (gv 0))))) fDone))))))) (fSeq (fRet (gv 2)) fDone)))
noncomputable def B_columns : List DV → Option DV := runF 2 F_columns
set_option maxHeartbeats 4000000 in
theorem ss_columns {C : Cx} (g : GCx C) {n : Nat} {a_fix a_quote : Addr} (d_quote : DefIn C (Str.ofString "quotedata") a_quote) (h_quote : FS C n (.ref a_quote) B_quote) (hn : 1 ≤ n) (d_fix : DefIn C (Str.ofString "_fix_eols") a_fix) (h_fix : FS C n (.ref a_fix) B_fix) : SS C τ_columns (kOf (topStmt 15)) n (bodyOf (topStmt 15)) F_columns :=
  (ss_cons (s1_newlist (apart_of (τ := τ_columns) (by decide +kernel)) 2 rfl rfl) (ss_cons (s1_for (src_range se_int g.g_range g.b_range rfl rfl (fun _ => rfl) (fun _ => rfl)) (tg_name (apart_of (τ := τ_columns) (by decide +kernel)) 3 rfl rfl) (ss_cons (s1_assign (apart_of (τ := τ_columns) (by decide +kernel)) 4 rfl (se_sub (se_name 0 rfl) se_int (fun _ _ => ⟨_, rfl⟩)) (.inl rfl) (fun _ _ => rfl)) (ss_cons (s1_for (src_range se_int g.g_range g.b_range rfl rfl (fun _ => rfl) (fun _ => rfl)) (tg_name (apart_of (τ := τ_columns) (by decide +kernel)) 5 rfl rfl) (ss_cons (s1_assign (apart_of (τ := τ_columns) (by decide +kernel)) 4 rfl (se_bin (se_bin (se_name 4 rfl) (se_sub (se_name 1 rfl) (se_name 5 rfl) (fun _ _ => ⟨_, rfl⟩)) op_add) (se_sub (se_name 0 rfl) (se_bin (se_name 5 rfl) se_int op_add) (fun _ _ => ⟨_, rfl⟩)) op_add) (.inl rfl) (fun _ _ => rfl)) ss_nil) (fun _ _ => rfl)) (ss_cons (s1_assign (apart_of (τ := τ_columns) (by decide +kernel)) 6 rfl (se_callD d_quote h_quote (ses_cons (se_name 4 rfl) ses_nil (fun _ => rfl)) rfl rfl (fun _ => rfl) (fun _ => rfl) (fun _ => rfl)) (.inl rfl) (fun _ _ => rfl)) (ss_cons (s1_if (sb_cmp (se_name 6 rfl) (se_join (se_listcomp (by intro g h; cases h) rfl (fits_of (τ' := τ_columns1) (by decide +kernel)) (src0_list (se_name 0 rfl)) (tg_name (apart_of (τ := τ_columns1) (by decide +kernel)) 0 rfl rfl) sets_name ts_nil (ci_emit rfl (se_ifexp (sb_cmp (se_sub (se_name 0 rfl) se_int (fun _ _ => ⟨_, rfl⟩)) se_str (op_eq hn) rfl) (se_bin se_str (se_name 0 rfl) op_add) (se_name 0 rfl))) (fun _ _ => rfl)) (fun _ => rfl) (fun _ => rfl) rfl) (op_ne hn) rfl) (ss_cons (s1_ret (se_list ses_nil)) ss_nil) ss_nil) (ss_cons (s1_append 2 rfl (se_bin (se_callB (ses_cons (se_name 6 rfl) ses_nil (fun _ => rfl)) fs_len g.g_len g.b_len rfl rfl (fun _ => rfl) (fun _ => rfl) (fun _ => rfl)) (se_callB (ses_cons (se_callD d_fix h_fix (ses_cons (se_name 4 rfl) ses_nil (fun _ => rfl)) rfl rfl (fun _ => rfl) (fun _ => rfl) (fun _ => rfl)) ses_nil (fun _ => rfl)) fs_len g.g_len g.b_len rfl rfl (fun _ => rfl) (fun _ => rfl) (fun _ => rfl)) op_sub) rfl rfl (fun _ => rfl) rfl (fun _ => rfl) (fun env h => by rw [interactive, h]; rfl) (fun _ => rfl)) (ss_cons (s1_assign_comp (apart_of (τ := τ_columns) (by decide +kernel)) 0 rfl rfl (by intro g h; cases h) rfl (fits_of (τ' := τ_columns2) (by decide +kernel)) (src0_list (se_name 0 rfl)) (tg_name (apart_of (τ := τ_columns2) (by decide +kernel)) 0 rfl rfl) sets_name ts_nil (ci_emit rfl (se_ifexp (sb_cmp (se_sub (se_name 0 rfl) se_int (fun _ _ => ⟨_, rfl⟩)) se_str (op_eq hn) rfl) (se_from (se_name 0 rfl) (fun _ _ => rfl)) (se_name 0 rfl))) (fun _ _ => rfl) (fun _ h1 h2 => swaps_yes h1 h2 rfl)) ss_nil)))))) (fun _ _ => rfl)) (ss_cons (s1_ret (se_name 2 rfl)) ss_nil)))
noncomputable def τ_ways : List Str := [(Str.ofString "dots"), (Str.ofString "choices"), (Str.ofString "table"), (Str.ofString "n"), (Str.ofString "after"), (Str.ofString "choice"), (Str.ofString "moved"), (Str.ofString "number")]
noncomputable def F_ways : G → List Nat → Option Res :=
  (fSeq (fAssign 1 (fList (fcons (fList (fcons (fun _ => some (dint 0)) fnil)) (fcons (fList (fcons (fun _ => some (dint 1)) (fcons (fun _ => some (dint 8)) (fcons (fun _ => some (dint 64)) fnil)))) (fcons (fList (fcons (op2 oAdd (fun _ => some (dint 1)) (fun _ => some (dint 8))) (fcons (op2 oAdd (fun _ => some (dint 1)) (fun _ => some (dint 64))) (fcons (op2 oAdd (fun _ => some (dint 8)) (fun _ => some (dint 64))) fnil)))) (fcons (fList (fcons (op2 oAdd (op2 oAdd (fun _ => some (dint 1)) (fun _ => some (dint 8))) (fun _ => some (dint 64))) fnil)) fnil)))))) (fSeq (fAssign 2 (fDict1 (fun _ => some (dint 0)) (fun _ => some (dint 1)))) (fSeq (fFor (gList (gv 0)) (bName 3) (fSeq (fNew 4 (.dict [])) (fSeq (fFor (gList (op2 oSub (gv 1) (gv 3))) (bName 5) (fSeq (fNew 6 (.dict [])) (fSeq (fFor (gKeys (gv 2)) (bName 7) (fSeq (fSet 6 (op2 oAdd (gv 7) (gv 5)) (op2 oSub (gv 2) (gv 7))) fDone)) (fSeq (fAssign 4 (fCall B_addc (fcons (gv 4) (fcons (gv 6) fnil)))) fDone)))) (fSeq (fAssign 2 (gv 4)) fDone)))) (fSeq (fRet (gv 2)) fDone))))
noncomputable def B_ways : List DV → Option DV := runF 1 F_ways
theorem st_const (c : Const) (k : Nat) (p : Pos) {r : List Expr} : ∀ env, starEach (.Constant c k p :: r) env = (false, eval (.Constant c k p) env) :: starEach r env := fun _ => rfl
theorem st_bin (a : Expr) (o : Operator) (b : Expr) (p : Pos) {r : List Expr} : ∀ env, starEach (.BinOp a o b p :: r) env = (false, eval (.BinOp a o b p) env) :: starEach r env := fun _ => rfl
theorem st_list (es : List Expr) (p : Pos) {r : List Expr} : ∀ env, starEach (.List es p :: r) env = (false, eval (.List es p) env) :: starEach r env := fun _ => rfl
theorem sw_list (es : List Expr) (p : Pos) (x : Option Expr) (l : Nat) : ∀ env : Env, swapsWith (.List es p) x l env = pure false := fun _ => rfl
theorem τ_ways1 : τ_ways[1]? = some (Str.ofString "choices") := rfl
theorem κ_ways1 : kOf (topStmt 16) (Str.ofString "choices") = some .local := rfl
theorem ap_ways : Apart τ_ways := apart_of (by decide +kernel)
theorem ways_s0 {C : Cx} {n : Nat} (k1 : Nat) (p2 : Pos) (p3 : Pos) (k4 : Nat) (p5 : Pos) (k6 : Nat) (p7 : Pos) (k8 : Nat) (p9 : Pos) (p10 : Pos) (k11 : Nat) (p12 : Pos) (k13 : Nat) (p14 : Pos) (p15 : Pos) (k16 : Nat) (p17 : Pos) (k18 : Nat) (p19 : Pos) (p20 : Pos) (k21 : Nat) (p22 : Pos) (k23 : Nat) (p24 : Pos) (p25 : Pos) (p26 : Pos) (k27 : Nat) (p28 : Pos) (k29 : Nat) (p30 : Pos) (p31 : Pos) (k32 : Nat) (p33 : Pos) (p34 : Pos) (p35 : Pos) (p36 : Pos) (p37 : Pos) (p38 : Pos) : S1 C τ_ways (kOf (topStmt 16)) n (.Assign [.Name (Str.ofString "choices") p37] (.List [(.List [(.Constant (.int 0) k1 p2)] p3), (.List [(.Constant (.int 1) k4 p5), (.Constant (.int 8) k6 p7), (.Constant (.int 64) k8 p9)] p10), (.List [(.BinOp (.Constant (.int 1) k11 p12) .Add (.Constant (.int 8) k13 p14) p15), (.BinOp (.Constant (.int 1) k16 p17) .Add (.Constant (.int 64) k18 p19) p20), (.BinOp (.Constant (.int 8) k21 p22) .Add (.Constant (.int 64) k23 p24) p25)] p26), (.List [(.BinOp (.BinOp (.Constant (.int 1) k27 p28) .Add (.Constant (.int 8) k29 p30) p31) .Add (.Constant (.int 64) k32 p33) p34)] p35)] p36) p38) (fAssign 1 (fList (fcons (fList (fcons (fun _ => some (dint 0)) fnil)) (fcons (fList (fcons (fun _ => some (dint 1)) (fcons (fun _ => some (dint 8)) (fcons (fun _ => some (dint 64)) fnil)))) (fcons (fList (fcons (op2 oAdd (fun _ => some (dint 1)) (fun _ => some (dint 8))) (fcons (op2 oAdd (fun _ => some (dint 1)) (fun _ => some (dint 64))) (fcons (op2 oAdd (fun _ => some (dint 8)) (fun _ => some (dint 64))) fnil)))) (fcons (fList (fcons (op2 oAdd (op2 oAdd (fun _ => some (dint 1)) (fun _ => some (dint 8))) (fun _ => some (dint 64))) fnil)) fnil)))))) := by
  with_reducible exact s1_assign ap_ways 1 τ_ways1 (se_list (ses_cons (se_list (ses_cons se_int ses_nil (st_const (.int 0) k1 p2))) (ses_cons (se_list (ses_cons se_int (ses_cons se_int (ses_cons se_int ses_nil (st_const (.int 64) k8 p9)) (st_const (.int 8) k6 p7)) (st_const (.int 1) k4 p5))) (ses_cons (se_list (ses_cons (se_bin se_int se_int op_add) (ses_cons (se_bin se_int se_int op_add) (ses_cons (se_bin se_int se_int op_add) ses_nil (st_bin _ _ _ _)) (st_bin _ _ _ _)) (st_bin _ _ _ _))) (ses_cons (se_list (ses_cons (se_bin (se_bin se_int se_int op_add) se_int op_add) ses_nil (st_bin _ _ _ _))) ses_nil (st_list _ _)) (st_list _ _)) (st_list _ _)) (st_list _ _))) (.inl κ_ways1) (fun env _ => sw_list _ _ _ _ env)
set_option maxHeartbeats 4000000 in
theorem ss_ways {C : Cx} (g : GCx C) {n : Nat} {a_addc : Addr} (d_addc : DefIn C (Str.ofString "add_callers") a_addc) (h_addc : FS C n (.ref a_addc) B_addc) : SS C τ_ways (kOf (topStmt 16)) n (bodyOf (topStmt 16)) F_ways := by
  refine ss_cons ?_ ?_
  · with_reducible exact ways_s0 _ _ _ _ _ _ _ _ _ _ _ _ _ _ _ _ _ _ _ _ _ _ _ _ _ _ _ _ _ _ _ _ _ _ _ _ _ _
  refine ss_cons ?_ ?_
  · exact (s1_assign (apart_of (τ := τ_ways) (by decide +kernel)) 2 rfl (se_dict1 se_int se_int) (.inl rfl) (fun _ _ => rfl))
  refine ss_cons ?_ ?_
  · exact (s1_for (src_list (se_name 0 rfl)) (tg_name (apart_of (τ := τ_ways) (by decide +kernel)) 3 rfl rfl) (ss_cons (s1_newdict (apart_of (τ := τ_ways) (by decide +kernel)) 4 rfl rfl) (ss_cons (s1_for (src_list (se_sub (se_name 1 rfl) (se_name 3 rfl) (fun _ _ => ⟨_, rfl⟩))) (tg_name (apart_of (τ := τ_ways) (by decide +kernel)) 5 rfl rfl) (ss_cons (s1_newdict (apart_of (τ := τ_ways) (by decide +kernel)) 6 rfl rfl) (ss_cons (s1_for (src_keys (se_name 2 rfl)) (tg_name (apart_of (τ := τ_ways) (by decide +kernel)) 7 rfl rfl) (ss_cons (s1_set 6 rfl (se_bin (se_name 7 rfl) (se_name 5 rfl) op_add) (se_sub (se_name 2 rfl) (se_name 7 rfl) (fun _ _ => ⟨_, rfl⟩)) rfl rfl (fun _ => rfl)) ss_nil) (fun _ _ => rfl)) (ss_cons (s1_assign (apart_of (τ := τ_ways) (by decide +kernel)) 4 rfl (se_callD d_addc h_addc (ses_cons (se_name 4 rfl) (ses_cons (se_name 6 rfl) ses_nil (fun _ => rfl)) (fun _ => rfl)) rfl rfl (fun _ => rfl) (fun _ => rfl) (fun _ => rfl)) (.inl rfl) (fun _ _ => rfl)) ss_nil))) (fun _ _ => rfl)) (ss_cons (s1_assign (apart_of (τ := τ_ways) (by decide +kernel)) 2 rfl (se_name 4 rfl) (.inl rfl) (fun _ _ => rfl)) ss_nil))) (fun _ _ => rfl))
  · exact (ss_cons (s1_ret (se_name 2 rfl)) ss_nil)
noncomputable def τ_boxes : List Str := [(Str.ofString "number"), (Str.ofString "digits")]
noncomputable def F_boxes : G → List Nat → Option Res :=
  (fSeq (fAssign 1 (fCall B_i2d (fcons (gv 0) (fcons (fun _ => some (dint 3)) fnil)))) (fSeq (fRet (fRev (fCall bSortI (fcons (op2 oAdd (gv 1) (op2 oMulL (fList (fcons (fun _ => some (dint 0)) fnil)) (op2 oSub_ (fun _ => some (dint 3)) (fCall bLen (fcons (gv 1) fnil))))) fnil)))) fDone))
noncomputable def B_boxes : List DV → Option DV := runF 1 F_boxes
set_option maxHeartbeats 4000000 in
theorem ss_boxes {C : Cx} (g : GCx C) {n : Nat} {a_i2d : Addr} (d_i2d : DefIn C (Str.ofString "_int2digits") a_i2d) (h_i2d : FS C n (.ref a_i2d) B_i2d) : SS C τ_boxes (kOf (topStmt 17)) n (bodyOf (topStmt 17)) F_boxes :=
  (ss_cons (s1_assign (apart_of (τ := τ_boxes) (by decide +kernel)) 1 rfl (se_callD d_i2d h_i2d (ses_cons (se_name 0 rfl) (ses_cons se_int ses_nil (fun _ => rfl)) (fun _ => rfl)) rfl rfl (fun _ => rfl) (fun _ => rfl) (fun _ => rfl)) (.inl rfl) (fun _ _ => rfl)) (ss_cons (s1_ret (se_rev (se_callB (ses_cons (se_bin (se_name 1 rfl) (se_bin (se_list (ses_cons se_int ses_nil (fun _ => rfl))) (se_bin se_int (se_callB (ses_cons (se_name 1 rfl) ses_nil (fun _ => rfl)) fs_len g.g_len g.b_len rfl rfl (fun _ => rfl) (fun _ => rfl) (fun _ => rfl)) op_sub) op_mulL) op_add) ses_nil (fun _ => rfl)) fs_sortI g.g_sorted g.b_sorted rfl rfl (fun _ => rfl) (fun _ => rfl) (fun _ => rfl)) (fun _ _ => ⟨_, rfl⟩))) ss_nil))
noncomputable def τ_law : List Str := [(Str.ofString "script"), (Str.ofString "dots"), (Str.ofString "tails"), (Str.ofString "ends"), (Str.ofString "columns"), (Str.ofString "table"), (Str.ofString "count"), (Str.ofString "n"), (Str.ofString "kinds"), (Str.ofString "number"), (Str.ofString "kind"), (Str.ofString "due"), (Str.ofString "order"), (Str.ofString "one"), (Str.ofString "ways"), (Str.ofString "other"), (Str.ofString "fewer")]
noncomputable def τ_law1 : List Str := [(Str.ofString "k"), (Str.ofString "script")]
noncomputable def τ_law2 : List Str := [(Str.ofString "k"), (Str.ofString "script")]
noncomputable def τ_law3 : List Str := [(Str.ofString "k"), (Str.ofString "script")]
noncomputable def τ_law4 : List Str := [(Str.ofString "k"), (Str.ofString "tails"), (Str.ofString "dots")]
noncomputable def τ_law5 : List Str := [(Str.ofString "a"), (Str.ofString "b"), (Str.ofString "c")]
noncomputable def τ_law6 : List Str := [(Str.ofString "one"), (Str.ofString "ways")]
noncomputable def τ_law7 : List Str := [(Str.ofString "one"), (Str.ofString "columns")]
noncomputable def F_law : G → List Nat → Option Res :=
  (fSeq (fAssign 1 (fComp [(1, 0)] (gRange0 (fun _ => some (dint 4))) (bName 0) [0] tTrue (cEmit (fCall B_draw (fcons (gv 1) (fcons (gv 0) (fcons (op2 oSub (fList (fcons (fun _ => some (dint 2)) (fcons (fun _ => some (dint 1)) (fcons (fun _ => some (dint 3)) (fcons (fun _ => some (dint 1)) fnil))))) (gv 0)) (fcons (fun _ => some (dint 4)) fnil)))))))) (fSeq (fAssign 2 (fComp [(1, 0)] (gRange0 (fun _ => some (dint 4))) (bName 0) [0] tTrue (cEmit (op2 oSub (fList (fcons (fun _ => some (dstr (Str.ofString "x"))) (fcons (fun _ => some (dstr (Str.ofString "-."))) (fcons (fun _ => some (dstr (Str.ofString "x.."))) fnil)))) (fCall B_draw (fcons (gv 1) (fcons (op2 oAdd (fun _ => some (dint 4)) (gv 0)) (fcons (gv 0) (fcons (fun _ => some (dint 3)) fnil))))))))) (fSeq (fAssign 3 (fComp [(1, 0)] (gRange0 (fun _ => some (dint 3))) (bName 0) [0] tTrue (cEmit (op2 oSub (fList (fcons (fun _ => some (dstr (Str.ofString "\n"))) (fcons (fun _ => some (dstr (Str.ofString "\r"))) (fcons (fun _ => some (dstr (Str.ofString "\r\n"))) fnil)))) (fCall B_draw (fcons (gv 1) (fcons (op2 oAdd (fun _ => some (dint 8)) (gv 0)) (fcons (gv 0) (fcons (fun _ => some (dint 3)) fnil))))))))) (fSeq (fAssign 4 (fCall B_columns (fcons (fComp [(1, 2), (2, 1)] (gRange0 (fun _ => some (dint 4))) (bName 0) [0] tTrue (cEmit (op2 oAdd (op2 oMulS (fun _ => some (dstr (Str.ofString "."))) (op2 oSub (gv 2) (gv 0))) (op2 oSub (gv 1) (gv 0))))) (fcons (gv 3) fnil)))) (fSeq (fCond (fun Γ => asB (op2 oNe (fCall bLen (fcons (gv 4) fnil)) (fun _ => some (dint 3)) Γ)) (fSeq (fRet (fun _ => some (dbool false))) fDone) fDone) (fSeq (fAssign 5 (fCall B_ways (fcons (gv 1) fnil))) (fSeq (fAssign 6 (fun _ => some (dint 1))) (fSeq (fFor (gList (gv 1)) (bName 7) (fSeq (fAssign 6 (op2 oMulS (gv 6) (op2 oSub (fList (fcons (fun _ => some (dint 1)) (fcons (fun _ => some (dint 3)) (fcons (fun _ => some (dint 3)) (fcons (fun _ => some (dint 1)) fnil))))) (gv 7)))) fDone)) (fSeq (fCond (fun Γ => asB (op2 oNe (fCall B_count (fcons (gv 5) fnil)) (gv 6) Γ)) (fSeq (fRet (fun _ => some (dbool false))) fDone) fDone) (fSeq (fNew 8 (.p (.list []))) (fSeq (fFor (gKeys (gv 5)) (bName 9) (fSeq (fAssign 10 (fTuple (fcons (fCall B_boxes (fcons (gv 9) fnil)) (fcons (op2 oSub (gv 5) (gv 9)) fnil)))) (fSeq (fCond (fun Γ => asB (op2 oNotIn (gv 10) (gv 8) Γ)) (fSeq (fAppend 8 (gv 10)) fDone) fDone) fDone))) (fSeq (fAssign 11 (fComp [] (gRange0 (fun _ => some (dint 5))) (bName 0) [0] tTrue (cFor (gRange (op2 oAdd (gv 0) (fun _ => some (dint 1)))) (bName 1) [1] tTrue (cFor (gRange (op2 oAdd (gv 1) (fun _ => some (dint 1)))) (bName 2) [2] tTrue (cEmit (fList (fcons (gv 0) (fcons (gv 1) (fcons (gv 2) fnil))))))))) (fSeq (fCond (fun Γ => asB (op2 oNe (fCall bSortL (fcons (fComp [] (gList0 (gv 8)) (bPair 0 1) [0, 1] tTrue (cEmit (gv 0))) fnil)) (fComp [(1, 4)] (gList0 (gv 11)) (bName 0) [0] (fun Γ => asB ((fCall B_nost (fcons (gv 0) (fcons (gv 1) fnil))) Γ)) (cEmit (gv 0))) Γ)) (fSeq (fRet (fun _ => some (dbool false))) fDone) fDone) (fSeq (fAssign 12 (fNewOrd (fTuple (fcons (fTuple (fcons (fun _ => some (dint 0)) (fcons (fNeg (fun _ => some (dint 1))) fnil))) (fcons (fTuple (fcons (fun _ => some (dint 1)) (fcons (fNeg (fun _ => some (dint 1))) fnil))) (fcons (fTuple (fcons (fun _ => some (dint 2)) (fcons (fNeg (fun _ => some (dint 1))) fnil))) fnil)))))) (fSeq (fFor (gList (gv 8)) (bPair 13 14) (fSeq (fCond (fun Γ => asB (op2 oNe (op2 oEq (gv 14) (fun _ => some (dint 1))) (op2 oEq (gv 13) (gv 4)) Γ)) (fSeq (fRet (fun _ => some (dbool false))) fDone) fDone) (fSeq (fFor (gList (gv 8)) (bPair 15 16) (fSeq (fCond (bAnd (fun Γ => asB (op2 oNe (gv 13) (gv 15) Γ)) (fun Γ => asB ((fCall B_nost (fcons (gv 13) (fcons (gv 15) fnil))) Γ))) (fSeq (fCond (bOr (fun Γ => asB (op2 oLe (gv 14) (gv 16) Γ)) (fun Γ => asB (op2 oNe (fMeth B_compare (gv 12) (fcons (gv 15) (fcons (gv 13) fnil))) (fNeg (fun _ => some (dint 1))) Γ))) (fSeq (fRet (fun _ => some (dbool false))) fDone) fDone) fDone) fDone) fDone)) fDone))) (fSeq (fRet (fun _ => some (dbool true))) fDone))))))))))))))))
noncomputable def B_law : List DV → Option DV := runF 1 F_law
set_option maxHeartbeats 4000000 in
theorem ss_law {C : Cx} (g : GCx C) {n : Nat} {a_boxes a_columns a_compare a_count a_draw a_nost a_ways : Addr} (d_draw : DefIn C (Str.ofString "_law_draw") a_draw) (h_draw : FS C n (.ref a_draw) B_draw) (d_columns : DefIn C (Str.ofString "_law_columns") a_columns) (h_columns : FS C n (.ref a_columns) B_columns) (hn : 1 ≤ n) (d_ways : DefIn C (Str.ofString "_law_ways") a_ways) (h_ways : FS C n (.ref a_ways) B_ways) (d_count : DefIn C (Str.ofString "count_calls") a_count) (h_count : FS C n (.ref a_count) B_count) (d_boxes : DefIn C (Str.ofString "_law_boxes") a_boxes) (h_boxes : FS C n (.ref a_boxes) B_boxes) (d_nost : DefIn C (Str.ofString "_law_no_steeper") a_nost) (h_nost : FS C n (.ref a_nost) B_nost) (O : OrdAll C a_compare) (hn2 : 2 ≤ n) (h_compare : FS C n (.ref a_compare) B_compare) : SS C τ_law (kOf (topStmt 19)) n (bodyOf (topStmt 19)) F_law :=
  (ss_cons (s1_assign (apart_of (τ := τ_law) (by decide +kernel)) 1 rfl (se_listcomp (by intro g h; cases h) rfl (fits_of (τ' := τ_law1) (by decide +kernel)) (src0_range se_int g.g_range g.b_range rfl rfl (fun _ => rfl) (fun _ => rfl)) (tg_name (apart_of (τ := τ_law1) (by decide +kernel)) 0 rfl rfl) sets_name ts_nil (ci_emit rfl (se_callD d_draw h_draw (ses_cons (se_name 1 rfl) (ses_cons (se_name 0 rfl) (ses_cons (se_sub (se_list (ses_cons se_int (ses_cons se_int (ses_cons se_int (ses_cons se_int ses_nil (fun _ => rfl)) (fun _ => rfl)) (fun _ => rfl)) (fun _ => rfl))) (se_name 0 rfl) (fun _ _ => ⟨_, rfl⟩)) (ses_cons se_int ses_nil (fun _ => rfl)) (fun _ => rfl)) (fun _ => rfl)) (fun _ => rfl)) rfl rfl (fun _ => rfl) (fun _ => rfl) (fun _ => rfl))) (fun _ _ => rfl)) (.inr rfl) (fun _ h => swaps_cell (h.trans rfl))) (ss_cons (s1_assign (apart_of (τ := τ_law) (by decide +kernel)) 2 rfl (se_listcomp (by intro g h; cases h) rfl (fits_of (τ' := τ_law2) (by decide +kernel)) (src0_range se_int g.g_range g.b_range rfl rfl (fun _ => rfl) (fun _ => rfl)) (tg_name (apart_of (τ := τ_law2) (by decide +kernel)) 0 rfl rfl) sets_name ts_nil (ci_emit rfl (se_sub (se_list (ses_cons se_str (ses_cons se_str (ses_cons se_str ses_nil (fun _ => rfl)) (fun _ => rfl)) (fun _ => rfl))) (se_callD d_draw h_draw (ses_cons (se_name 1 rfl) (ses_cons (se_bin se_int (se_name 0 rfl) op_add) (ses_cons (se_name 0 rfl) (ses_cons se_int ses_nil (fun _ => rfl)) (fun _ => rfl)) (fun _ => rfl)) (fun _ => rfl)) rfl rfl (fun _ => rfl) (fun _ => rfl) (fun _ => rfl)) (fun _ _ => ⟨_, rfl⟩))) (fun _ _ => rfl)) (.inr rfl) (fun _ h => swaps_cell (h.trans rfl))) (ss_cons (s1_assign_comp (apart_of (τ := τ_law) (by decide +kernel)) 3 rfl rfl (by intro g h; cases h) rfl (fits_of (τ' := τ_law3) (by decide +kernel)) (src0_range se_int g.g_range g.b_range rfl rfl (fun _ => rfl) (fun _ => rfl)) (tg_name (apart_of (τ := τ_law3) (by decide +kernel)) 0 rfl rfl) sets_name ts_nil (ci_emit rfl (se_sub (se_list (ses_cons se_str (ses_cons se_str (ses_cons se_str ses_nil (fun _ => rfl)) (fun _ => rfl)) (fun _ => rfl))) (se_callD d_draw h_draw (ses_cons (se_name 1 rfl) (ses_cons (se_bin se_int (se_name 0 rfl) op_add) (ses_cons (se_name 0 rfl) (ses_cons se_int ses_nil (fun _ => rfl)) (fun _ => rfl)) (fun _ => rfl)) (fun _ => rfl)) rfl rfl (fun _ => rfl) (fun _ => rfl) (fun _ => rfl)) (fun _ _ => ⟨_, rfl⟩))) (fun _ _ => rfl) (fun _ h1 h2 => swaps_yes h1 h2 rfl)) (ss_cons (s1_assign (apart_of (τ := τ_law) (by decide +kernel)) 4 rfl (se_callD d_columns h_columns (ses_cons (se_listcomp (by intro g h; cases h) rfl (fits_of (τ' := τ_law4) (by decide +kernel)) (src0_range se_int g.g_range g.b_range rfl rfl (fun _ => rfl) (fun _ => rfl)) (tg_name (apart_of (τ := τ_law4) (by decide +kernel)) 0 rfl rfl) sets_name ts_nil (ci_emit rfl (se_bin (se_bin se_str (se_sub (se_name 2 rfl) (se_name 0 rfl) (fun _ _ => ⟨_, rfl⟩)) op_mulS) (se_sub (se_name 1 rfl) (se_name 0 rfl) (fun _ _ => ⟨_, rfl⟩)) op_add)) (fun _ _ => rfl)) (ses_cons (se_name 3 rfl) ses_nil (fun _ => rfl)) (fun _ => rfl)) rfl rfl (fun _ => rfl) (fun _ => rfl) (fun _ => rfl)) (.inr rfl) (fun _ _ => rfl)) (ss_cons (s1_if (sb_cmp (se_callB (ses_cons (se_name 4 rfl) ses_nil (fun _ => rfl)) fs_len g.g_len g.b_len rfl rfl (fun _ => rfl) (fun _ => rfl) (fun _ => rfl)) se_int (op_ne hn) rfl) (ss_cons (s1_ret se_bool) ss_nil) ss_nil) (ss_cons (s1_assign (apart_of (τ := τ_law) (by decide +kernel)) 5 rfl (se_callD d_ways h_ways (ses_cons (se_name 1 rfl) ses_nil (fun _ => rfl)) rfl rfl (fun _ => rfl) (fun _ => rfl) (fun _ => rfl)) (.inl rfl) (fun _ _ => rfl)) (ss_cons (s1_assign (apart_of (τ := τ_law) (by decide +kernel)) 6 rfl se_int (.inl rfl) (fun _ _ => rfl)) (ss_cons (s1_for (src_list (se_name 1 rfl)) (tg_name (apart_of (τ := τ_law) (by decide +kernel)) 7 rfl rfl) (ss_cons (s1_assign (apart_of (τ := τ_law) (by decide +kernel)) 6 rfl (se_bin (se_name 6 rfl) (se_sub (se_list (ses_cons se_int (ses_cons se_int (ses_cons se_int (ses_cons se_int ses_nil (fun _ => rfl)) (fun _ => rfl)) (fun _ => rfl)) (fun _ => rfl))) (se_name 7 rfl) (fun _ _ => ⟨_, rfl⟩)) op_mulS) (.inl rfl) (fun _ _ => rfl)) ss_nil) (fun _ _ => rfl)) (ss_cons (s1_if (sb_cmp (se_callD d_count h_count (ses_cons (se_name 5 rfl) ses_nil (fun _ => rfl)) rfl rfl (fun _ => rfl) (fun _ => rfl) (fun _ => rfl)) (se_name 6 rfl) (op_ne hn) rfl) (ss_cons (s1_ret se_bool) ss_nil) ss_nil) (ss_cons (s1_newlist (apart_of (τ := τ_law) (by decide +kernel)) 8 rfl rfl) (ss_cons (s1_for (src_keys (se_name 5 rfl)) (tg_name (apart_of (τ := τ_law) (by decide +kernel)) 9 rfl rfl) (ss_cons (s1_assign (apart_of (τ := τ_law) (by decide +kernel)) 10 rfl (se_tuple (ses_cons (se_callD d_boxes h_boxes (ses_cons (se_name 9 rfl) ses_nil (fun _ => rfl)) rfl rfl (fun _ => rfl) (fun _ => rfl) (fun _ => rfl)) (ses_cons (se_sub (se_name 5 rfl) (se_name 9 rfl) (fun _ _ => ⟨_, rfl⟩)) ses_nil (fun _ => rfl)) (fun _ => rfl))) (.inl rfl) (fun _ _ => rfl)) (ss_cons (s1_if (sb_cmp (se_name 10 rfl) (se_name 8 rfl) (op_notin hn) rfl) (ss_cons (s1_append 8 rfl (se_name 10 rfl) rfl rfl (fun _ => rfl) rfl (fun _ => rfl) (fun env h => by rw [interactive, h]; rfl) (fun _ => rfl)) ss_nil) ss_nil) ss_nil)) (fun _ _ => rfl)) (ss_cons (s1_assign_comp (apart_of (τ := τ_law) (by decide +kernel)) 11 rfl rfl (by intro g h; cases h; rfl) rfl (fits_of (τ' := τ_law5) (by decide +kernel)) (src0_range se_int g.g_range g.b_range rfl rfl (fun _ => rfl) (fun _ => rfl)) (tg_name (apart_of (τ := τ_law5) (by decide +kernel)) 0 rfl rfl) sets_name ts_nil (ci_for rfl (by intro g h; simpa using (congrArg Comprehension.is_async (Option.some.inj h)).symm) (src_range (se_bin (se_name 0 rfl) se_int op_add) g.g_range g.b_range rfl rfl (fun _ => rfl) (fun _ => rfl)) (tg_name (apart_of (τ := τ_law5) (by decide +kernel)) 1 rfl rfl) sets_name ts_nil (ci_for rfl (by intro g h; cases h) (src_range (se_bin (se_name 1 rfl) se_int op_add) g.g_range g.b_range rfl rfl (fun _ => rfl) (fun _ => rfl)) (tg_name (apart_of (τ := τ_law5) (by decide +kernel)) 2 rfl rfl) sets_name ts_nil (ci_emit rfl (se_list (ses_cons (se_name 0 rfl) (ses_cons (se_name 1 rfl) (ses_cons (se_name 2 rfl) ses_nil (fun _ => rfl)) (fun _ => rfl)) (fun _ => rfl)))) (fun _ _ => rfl)) (fun _ _ => rfl)) (fun _ _ => rfl) (fun _ h1 h2 => swaps_yes h1 h2 rfl)) (ss_cons (s1_if (sb_cmp (se_callB (ses_cons (se_listcomp (by intro g h; cases h) rfl (fits_of (τ' := τ_law6) (by decide +kernel)) (src0_list (se_name 8 rfl)) (tg_pair (apart_of (τ := τ_law6) (by decide +kernel)) 0 1 rfl rfl rfl rfl) sets_pair ts_nil (ci_emit rfl (se_name 0 rfl)) (fun _ _ => rfl)) ses_nil (fun _ => rfl)) (fs_sortL hn) g.g_sorted g.b_sorted rfl rfl (fun _ => rfl) (fun _ => rfl) (fun _ => rfl)) (se_listcomp (by intro g h; cases h) rfl (fits_of (τ' := τ_law7) (by decide +kernel)) (src0_list (se_name 11 rfl)) (tg_name (apart_of (τ := τ_law7) (by decide +kernel)) 0 rfl rfl) sets_name (ts_one (sb_val (se_callD d_nost h_nost (ses_cons (se_name 0 rfl) (ses_cons (se_name 1 rfl) ses_nil (fun _ => rfl)) (fun _ => rfl)) rfl rfl (fun _ => rfl) (fun _ => rfl) (fun _ => rfl)) (fun _ _ => rfl))) (ci_emit rfl (se_name 0 rfl)) (fun _ _ => rfl)) (op_ne hn) rfl) (ss_cons (s1_ret se_bool) ss_nil) ss_nil) (ss_cons (s1_assign (apart_of (τ := τ_law) (by decide +kernel)) 12 rfl (O.new hn2 (se_tuple (ses_cons (se_tuple (ses_cons se_int (ses_cons (se_neg se_int) ses_nil (fun _ => rfl)) (fun _ => rfl))) (ses_cons (se_tuple (ses_cons se_int (ses_cons (se_neg se_int) ses_nil (fun _ => rfl)) (fun _ => rfl))) (ses_cons (se_tuple (ses_cons se_int (ses_cons (se_neg se_int) ses_nil (fun _ => rfl)) (fun _ => rfl))) ses_nil (fun _ => rfl)) (fun _ => rfl)) (fun _ => rfl))) rfl rfl (fun _ => rfl) (fun _ => rfl) (fun _ => rfl)) (.inl rfl) (fun _ _ => rfl)) (ss_cons (s1_for (src_list (se_name 8 rfl)) (tg_pair (apart_of (τ := τ_law) (by decide +kernel)) 13 14 rfl rfl rfl rfl) (ss_cons (s1_if (sb_cmp (se_cmp (se_name 14 rfl) se_int (op_eq hn) rfl) (se_cmp (se_name 13 rfl) (se_name 4 rfl) (op_eq hn) rfl) (op_ne hn) rfl) (ss_cons (s1_ret se_bool) ss_nil) ss_nil) (ss_cons (s1_for (src_list (se_name 8 rfl)) (tg_pair (apart_of (τ := τ_law) (by decide +kernel)) 15 16 rfl rfl rfl rfl) (ss_cons (s1_if (sb_and2 (sb_cmp (se_name 13 rfl) (se_name 15 rfl) (op_ne hn) rfl) (sb_val (se_callD d_nost h_nost (ses_cons (se_name 13 rfl) (ses_cons (se_name 15 rfl) ses_nil (fun _ => rfl)) (fun _ => rfl)) rfl rfl (fun _ => rfl) (fun _ => rfl) (fun _ => rfl)) (fun _ _ => rfl))) (ss_cons (s1_if (sb_or2 (sb_cmp (se_name 14 rfl) (se_name 16 rfl) op_le rfl) (sb_cmp (O.cmp h_compare (se_name 12 rfl) (ses_cons (se_name 15 rfl) (ses_cons (se_name 13 rfl) ses_nil (fun _ => rfl)) (fun _ => rfl)) (fun _ => rfl) (fun _ => ⟨_, rfl⟩)) (se_neg se_int) (op_ne hn) rfl)) (ss_cons (s1_ret se_bool) ss_nil) ss_nil) ss_nil) ss_nil) ss_nil) (fun _ _ => rfl)) ss_nil)) (fun _ _ => rfl)) (ss_cons (s1_ret se_bool) ss_nil))))))))))))))))
end Mine
end
section -- R0
open PySem PySem.Spec PySem.Calls PySem.W PyProof.Rows
set_option Elab.async false
set_option maxRecDepth 100000
namespace Mine
theorem re_plain_loop : plainId "re.Pattern.sub.loop" = true := by decide +kernel
theorem re_entry_loop : entryFor table "re.Pattern.sub.loop" = some Builtin.«re.Pattern.sub.loop» := entryFor_of_tree (by kernel_rfl)
theorem re_entry_sub : entryFor table "re.Pattern.sub" = some Builtin.«re.Pattern.sub» := entryFor_of_tree (by kernel_rfl)
theorem re_slot_sub : Slot "re.Pattern" "sub" "re.Pattern.sub" :=
  .of (owner := "re.Pattern") (n := "sub") (by rw [typeLookup_type, builtinLookup_eq_fast]; kernel_rfl) (by decide +kernel) (by decide +kernel) (by decide +kernel)
    (by first | exact .inl (by decide +kernel) | exact .inr (by decide +kernel)) (by rw [isSubtype_type]; kernel_rfl)
theorem re_args_sub (a b c : Value) : argsOk "re.Pattern.sub" ⟨[a, b, c], []⟩ := by
  unfold argsOk; rw [signature?_of (id := "re.Pattern.sub") (n := ['b', 'u', 's']) (o := "re.Pattern".toList.reverse) (rows := Manifest.sig_re_Pattern) (by kernel_rfl) (by kernel_rfl)]; kernel_rfl
theorem re_type_sub : typeOf (.builtin "re.Pattern.sub") = pure (.type "method_descriptor") := by show builtinType _ = _; rw [builtinType_eq_fast]; kernel_rfl
end Mine
end
section -- RM
open PySem PySem.Spec PySem.Calls PySem.W PyProof.Rows
set_option Elab.async false
set_option maxRecDepth 100000
namespace Mine
open PySem.Sre

noncomputable def c1 : Array Nat := #[14, 4, 0, 1, 1, 6, 1, 16, 46, 1]
noncomputable def c2 : Array Nat := #[14, 9, 4, 1, 2, 16, 10, 16, 13, 0, 7, 7, 16, 13, 16, 10, 15, 18, 5, 16, 10, 15, 13, 11, 16, 13, 5, 5, 0, 16, 10, 1, 15, 2, 0, 1]

theorem exec_lit_ok {m : M} (hop : ops[m.word 0]? = some .LITERAL) (hlt : m.pos < m.lim) (hc : m.text.getD m.pos 0 = m.code.getD (m.pc + 1) 0) :
    m.exec = { m with seen := m.seen.add (m.word 0), pc := m.pc + 2, pos := m.pos + 1 } := by
  have hw : itemWidth m.code m.pc = 2 := by
    unfold itemWidth
    have : ops[m.code.getD m.pc 0]? = some .LITERAL := hop
    rw [this]
  have ha : accepts m.code m.pc (m.text.getD m.pos 0) (m.seen.add (m.word 0)) = .ok (true, m.seen.add (m.word 0)) := by
    unfold accepts
    have : ops[m.code.getD m.pc 0]? = some .LITERAL := hop
    rw [this]
    simp only [hc, beq_self_eq_true]
  unfold M.exec
  rw [hop]
  simp only
  rw [if_neg (Nat.not_le.mpr hlt), ha]
  simp only [hw]
theorem exec_lit_no {m : M} (hop : ops[m.word 0]? = some .LITERAL) (h : m.lim ≤ m.pos ∨ m.text.getD m.pos 0 ≠ m.code.getD (m.pc + 1) 0) :
    m.exec = { m with seen := m.seen.add (m.word 0), answer := some false } := by
  unfold M.exec
  rw [hop]
  simp only
  by_cases hl : m.lim ≤ m.pos
  · rw [if_pos hl]; rfl
  · rw [if_neg hl]
    have hc := h.resolve_left hl
    have ha : accepts m.code m.pc (m.text.getD m.pos 0) (m.seen.add (m.word 0)) = .ok (false, m.seen.add (m.word 0)) := by
      unfold accepts
      have : ops[m.code.getD m.pc 0]? = some .LITERAL := hop
      rw [this]
      simp only [beq_eq_false_iff_ne.mpr hc]
    rw [ha]; rfl
theorem step_exec {m : M} (ho : m.outcome = none) (ha : m.answer = none) (hp : m.pc < m.code.size) : m.step = m.exec := by
  unfold M.step
  rw [ho, ha]
  simp [hp]
theorem run_step {m m' : M} {n : Nat} (ho : m.outcome = none) (hs : m.step = m') : M.runFor (n + 1) m = M.runFor n m' := by
  rw [M.runFor, ho, hs]; rfl

noncomputable def st (code text : Array Nat) (lim start pc pos handed : Nat) (fr : List Sre.Frame) (wt : Nat) (ans : Option Bool) (outm : Bool) (sn : Sre.Seen) (oc : Option Sre.Outcome) : M :=
  { code, text, lim, start, lastStart := lim, wholeText := false, mustAdvance := false, pc, pos, handed, outermost := outm, marks := #[], lastmark := -1, lastindex := -1, loops := #[], inner := none, frames := fr, weight := wt, answer := ans, seen := sn, outcome := oc }

noncomputable def fStart (pc s : Nat) (o : Bool) : Sre.Frame := { wait := .nextStart, pc := pc, pos := s, outermost := o }
noncomputable def fBr (alt s : Nat) (o : Bool) : Sre.Frame := { wait := .nextBranch, pc := alt, pos := s, outermost := o, kept := { lastmark := -1, lastindex := -1, whole := false, marks := #[] } }
noncomputable def fNot (pc s : Nat) (o : Bool) : Sre.Frame := { wait := .lookNot, pc := pc, pos := s, outermost := o, kept := { lastmark := -1, lastindex := -1, whole := false, marks := #[] } }

section
variable {text : Array Nat} {lim s p h w pc : Nat} {fr : List Sre.Frame} {o : Bool} {sn : Sre.Seen}
-- code 2
theorem s2_branch : (st c2 text lim s 10 p h fr 1 none o sn none).step = st c2 text lim s 12 p p (fBr 11 p o :: fr) 2 none o (sn.add 7) none := rfl
theorem s2_jump16 : (st c2 text lim s 16 p h fr w none o sn none).step = st c2 text lim s 35 p h fr w none o (sn.add 15) none := rfl
theorem s2_jump21 : (st c2 text lim s 21 p h fr w none o sn none).step = st c2 text lim s 35 p h fr w none o (sn.add 15) none := rfl
theorem s2_jump32 : (st c2 text lim s 32 p h fr w none o sn none).step = st c2 text lim s 35 p h fr w none o (sn.add 15) none := rfl
theorem s2_succ : (st c2 text lim s 35 p h fr w none true sn none).step = st c2 text lim s 35 p p fr w (some true) true (sn.add 1) none := rfl
theorem s2_not : (st c2 text lim s 26 p h fr 2 none o sn none).step = st c2 text lim s 29 p p (fNot 26 p o :: fr) 3 none false (sn.add 5) none := rfl
theorem s2_popNot {q : Nat} {o' : Bool} : (st c2 text lim s pc q h (fNot 26 p o :: fr) 3 (some false) o' sn none).step = st c2 text lim s 32 p h fr 2 none o sn none := rfl
theorem s2_popBr1 {q : Nat} : (st c2 text lim s pc q h (fBr 11 p o :: fr) 2 (some false) o sn none).step = st c2 text lim s 19 p p (fBr 18 p o :: fr) 2 none o sn none := rfl
theorem s2_popBr2 {q : Nat} : (st c2 text lim s pc q h (fBr 18 p o :: fr) 2 (some false) o sn none).step = st c2 text lim s 24 p p (fBr 23 p o :: fr) 2 none o sn none := rfl
theorem s2_popYes {q alt : Nat} {o' : Bool} : (st c2 text lim s pc q h (fBr alt p o :: fr) 2 (some true) o' sn none).step = st c2 text lim s alt p h fr 1 (some true) o sn none := rfl
theorem s2_popStart {q pc' : Nat} {o' : Bool} : (st c2 text lim s pc q h [fStart pc' p o] 1 (some true) o' sn none).step = st c2 text lim s pc' p h [] 0 (some true) o sn none := rfl
theorem s2_end {q : Nat} {y : Bool} : (st c2 text lim s pc q h [] w (some y) o sn none).step = st c2 text lim s pc q h [] w (some y) o sn (some (if y then .matched else .failed)) := rfl
theorem s2_lit {k : Nat} (pc : Nat) (hop : ops[c2.getD pc 0]? = some .LITERAL) (hp : pc < c2.size) (hk : c2.getD (pc + 1) 0 = k) (hlt : p < lim) (hc : text.getD p 0 = k) :
    (st c2 text lim s pc p h fr w none o sn none).step = st c2 text lim s (pc + 2) (p + 1) h fr w none o (sn.add (c2.getD pc 0)) none :=
  (step_exec rfl rfl hp).trans (exec_lit_ok (m := st c2 text lim s pc p h fr w none o sn none) hop hlt (hc.trans hk.symm))
theorem s2_litNo {k : Nat} (pc : Nat) (hop : ops[c2.getD pc 0]? = some .LITERAL) (hp : pc < c2.size) (hk : c2.getD (pc + 1) 0 = k) (hc : lim ≤ p ∨ text.getD p 0 ≠ k) :
    (st c2 text lim s pc p h fr w none o sn none).step = st c2 text lim s pc p h fr w (some false) o (sn.add (c2.getD pc 0)) none :=
  (step_exec rfl rfl hp).trans (exec_lit_no (m := st c2 text lim s pc p h fr w none o sn none) hop (hc.imp id fun q => hk ▸ q))
end
end Mine
end
section -- RN
open PySem PySem.Spec PySem.Calls PySem.W PyProof.Rows
set_option Elab.async false
set_option maxRecDepth 100000
namespace Mine
open PySem.Sre
section
variable {text : Array Nat} {lim s p h w pc : Nat} {fr : List Sre.Frame} {o : Bool} {sn : Sre.Seen}

noncomputable abbrev isEol (c : Nat) : Bool := c == 10 || c == 13
theorem inSet2 (c : Nat) (seen : Sre.Seen) : ∃ sn, inSet c2 c c2.size 5 true seen = .ok (isEol c, sn) := by
  by_cases h1 : c = 10
  · subst h1; exact ⟨_, rfl⟩
  · by_cases h2 : c = 13
    · subst h2; exact ⟨_, rfl⟩
    · have e1 : (c == 10) = false := beq_eq_false_iff_ne.mpr h1
      have e2 : (c == 13) = false := beq_eq_false_iff_ne.mpr h2
      refine ⟨((seen.add 16).add 16).add 0, ?_⟩
      show (if (c == 10) = true then Except.ok (true, seen.add 16) else (if (c == 13) = true then Except.ok (true, (seen.add 16).add 16) else Except.ok (!true, ((seen.add 16).add 16).add 0))) = _
      rw [e1, e2]; simp [isEol, h1, h2]

theorem adm2 {m : M} (hc : m.code = c2) : ∀ fuel s seen, m.lim < s + fuel →
    (∃ sn, M.admitted m fuel s seen = .ok (none, sn) ∧ ∀ i, s ≤ i → i < m.lim → isEol (m.text.getD i 0) = false) ∨
    (∃ r sn, M.admitted m fuel s seen = .ok (some r, sn) ∧ s ≤ r ∧ r < m.lim ∧ isEol (m.text.getD r 0) = true ∧ ∀ i, s ≤ i → i < r → isEol (m.text.getD i 0) = false)
  | 0, s, seen, hf => .inl ⟨seen, rfl, fun i h1 h2 => by omega⟩
  | fuel + 1, s, seen, hf => by
    unfold M.admitted
    by_cases hs : s ≥ m.lim
    · rw [if_pos hs]
      exact .inl ⟨seen, rfl, fun i h1 h2 => by omega⟩
    · rw [if_neg hs]
      obtain ⟨sn, e⟩ := inSet2 (m.text.getD s 0) seen
      rw [hc, e]
      cases q : isEol (m.text.getD s 0) with
      | true => exact .inr ⟨s, sn, rfl, Nat.le_refl _, by omega, q, fun i h1 h2 => by omega⟩
      | false =>
        have ih := adm2 hc fuel (s + 1) sn (by omega)
        rcases ih with ⟨sn', e', h1⟩ | ⟨r, sn', e', h1, h2, h3, h4⟩
        · refine .inl ⟨sn', e', fun i h2 h3 => ?_⟩
          by_cases hi : i = s
          · rw [hi]; exact q
          · exact h1 i (by omega) h3
        · refine .inr ⟨r, sn', e', by omega, h2, h3, fun i h5 h6 => ?_⟩
          by_cases hi : i = s
          · rw [hi]; exact q
          · exact h4 i (by omega) h6

/-- what a search ends with -/
noncomputable def oc (m : M) : Nat := match m.outcome with
  | some .matched => 1
  | some .failed => 2
  | _ => 0
noncomputable def FinIs (m : M) : Option (Nat × Nat) → Prop
  | none => oc m = 2
  | some p => oc m = 1 ∧ m.start = p.1 ∧ m.handed = p.2
noncomputable def Ends (m : M) (x : Option (Nat × Nat)) : Prop := ∃ k, k ≤ 2 ^ 60 ∧ FinIs (M.runFor k m) x

theorem run2_crlf (hl : s + 1 < lim) (h1 : text.getD s 0 = 13) (h2 : text.getD (s + 1) 0 = 10) : Ends (st c2 text lim s 10 s s [fStart 10 s true] 1 none true sn none) (some (s, s + 2)) := by
  refine ⟨8, by decide, ?_⟩
  have e : ∃ sn', M.runFor 8 (st c2 text lim s 10 s s [fStart 10 s true] 1 none true sn none) = st c2 text lim s 10 s (s + 2) [] 0 (some true) true sn' (some .matched) :=
    ⟨_, (run_step rfl s2_branch).trans <| (run_step rfl (s2_lit 12 rfl (by decide) rfl (by omega) h1)).trans <| (run_step rfl (s2_lit 14 rfl (by decide) rfl hl h2)).trans <| (run_step rfl s2_jump16).trans <|
      (run_step rfl s2_succ).trans <| (run_step rfl s2_popYes).trans <| (run_step rfl s2_popStart).trans <| (run_step rfl s2_end).trans rfl⟩
  obtain ⟨sn', e⟩ := e
  rw [e]; exact ⟨rfl, rfl, rfl⟩
theorem run2_lf (hl : s < lim) (h1 : text.getD s 0 = 10) : Ends (st c2 text lim s 10 s s [fStart 10 s true] 1 none true sn none) (some (s, s + 1)) := by
  refine ⟨9, by decide, ?_⟩
  have e : ∃ sn', M.runFor 9 (st c2 text lim s 10 s s [fStart 10 s true] 1 none true sn none) = st c2 text lim s 10 s (s + 1) [] 0 (some true) true sn' (some .matched) :=
    ⟨_, (run_step rfl s2_branch).trans <| (run_step rfl (s2_litNo (k := 13) 12 rfl (by decide) rfl (.inr (by rw [h1]; decide)))).trans <| (run_step rfl s2_popBr1).trans <| (run_step rfl (s2_lit 19 rfl (by decide) rfl hl h1)).trans <|
      (run_step rfl s2_jump21).trans <| (run_step rfl s2_succ).trans <| (run_step rfl s2_popYes).trans <| (run_step rfl s2_popStart).trans <| (run_step rfl s2_end).trans rfl⟩
  obtain ⟨sn', e⟩ := e
  rw [e]; exact ⟨rfl, rfl, rfl⟩
theorem run2_cr (hl : s < lim) (h1 : text.getD s 0 = 13) (h2 : lim ≤ s + 1 ∨ text.getD (s + 1) 0 ≠ 10) : Ends (st c2 text lim s 10 s s [fStart 10 s true] 1 none true sn none) (some (s, s + 1)) := by
  refine ⟨15, by decide, ?_⟩
  have e : ∃ sn', M.runFor 15 (st c2 text lim s 10 s s [fStart 10 s true] 1 none true sn none) = st c2 text lim s 10 s (s + 1) [] 0 (some true) true sn' (some .matched) :=
    ⟨_, (run_step rfl s2_branch).trans <| (run_step rfl (s2_lit 12 rfl (by decide) rfl hl h1)).trans <| (run_step rfl (s2_litNo 14 rfl (by decide) rfl h2)).trans <| (run_step rfl s2_popBr1).trans <|
      (run_step rfl (s2_litNo (k := 10) 19 rfl (by decide) rfl (.inr (by rw [h1]; decide)))).trans <| (run_step rfl s2_popBr2).trans <| (run_step rfl (s2_lit 24 rfl (by decide) rfl hl h1)).trans <|
      (run_step rfl s2_not).trans <| (run_step rfl (s2_litNo 29 rfl (by decide) rfl h2)).trans <| (run_step rfl s2_popNot).trans <| (run_step rfl s2_jump32).trans <|
      (run_step rfl s2_succ).trans <| (run_step rfl s2_popYes).trans <| (run_step rfl s2_popStart).trans <| (run_step rfl s2_end).trans rfl⟩
  obtain ⟨sn', e⟩ := e
  rw [e]; exact ⟨rfl, rfl, rfl⟩
end

/-- the search of the second pattern -/
theorem search2 (text : Array Nat) (s : Nat) (hs : s ≤ text.size) :
    (Ends (forSearch c2 text 0 s text.size false) none ∧ ∀ i, s ≤ i → i < text.size → isEol (text.getD i 0) = false) ∨
    (∃ r e, Ends (forSearch c2 text 0 s text.size false) (some (r, e)) ∧ s ≤ r ∧ r < text.size ∧ isEol (text.getD r 0) = true ∧ (∀ i, s ≤ i → i < r → isEol (text.getD i 0) = false) ∧
      e = if text.getD r 0 = 13 ∧ r + 1 < text.size ∧ text.getD (r + 1) 0 = 10 then r + 2 else r + 1) := by
  by_cases hlt : s < text.size
  · have e0 : forSearch c2 text 0 s text.size false = M.attemptFrom (st c2 text text.size s 10 s s [] 0 none true ((({} : Sre.Seen)).add 14) none) s true := by
      have hc : (decide (s > text.size) || decide (text.size - s < (header c2).1)) = false := by
        have : (header c2).1 = 1 := rfl
        rw [this]; simp; omega
      show (if (decide (s > text.size) || decide (text.size - s < (header c2).1)) = true then _ else _) = _
      rw [if_neg (by rw [hc]; exact Bool.false_ne_true)]; rfl
    have e1 : M.attemptFrom (st c2 text text.size s 10 s s [] 0 none true ((({} : Sre.Seen)).add 14) none) s true = (match M.admitted (st c2 text text.size s 10 s s [] 0 none true ((({} : Sre.Seen)).add 14) none) (text.size + 1 - s) s (({} : Sre.Seen).add 14) with
      | .ok (some r, sn) => st c2 text text.size r 10 r r [fStart 10 r true] 1 none true sn none
      | .ok (none, sn) => st c2 text text.size s 10 s s [] 0 (some false) true sn none
      | .error why => M.stick (st c2 text text.size s 10 s s [] 0 none true ((({} : Sre.Seen)).add 14) none) why) := by
      unfold M.attemptFrom
      rw [if_neg (show ¬ ((!M.hasFirstSet (st c2 text text.size s 10 s s [] 0 none true ((({} : Sre.Seen)).add 14) none)) = true) from Bool.false_ne_true)]
      have : (st c2 text text.size s 10 s s [] 0 none true ((({} : Sre.Seen)).add 14) none).lim = text.size := rfl
      rw [this]
      have : (st c2 text text.size s 10 s s [] 0 none true ((({} : Sre.Seen)).add 14) none).seen = (({} : Sre.Seen)).add 14 := rfl
      rw [this]
      split <;> rename_i q <;> rw [q] <;> rfl
    rcases adm2 (m := st c2 text text.size s 10 s s [] 0 none true ((({} : Sre.Seen)).add 14) none) rfl (text.size + 1 - s) s (({} : Sre.Seen).add 14) (by show text.size < s + (text.size + 1 - s); omega) with ⟨sn, q, h1⟩ | ⟨r, sn, q, h1, h2, h3, h4⟩
    · refine .inl ⟨?_, h1⟩
      rw [e0, e1, q]
      exact ⟨1, by decide, rfl⟩
    · have h2 : r < text.size := h2
      have h3 : isEol (text.getD r 0) = true := h3
      refine .inr ⟨r, _, ?_, h1, h2, h3, h4, rfl⟩
      rw [e0, e1, q]
      by_cases hcr : text.getD r 0 = 13
      · by_cases hn : r + 1 < text.size ∧ text.getD (r + 1) 0 = 10
        · rw [if_pos ⟨hcr, hn⟩]; exact run2_crlf hn.1 hcr hn.2
        · rw [if_neg fun q => hn q.2]
          refine run2_cr h2 hcr ?_
          by_cases q : r + 1 < text.size
          · exact .inr fun x => hn ⟨q, x⟩
          · exact .inl (by omega)
      · rw [if_neg fun q => hcr q.1]
        refine run2_lf h2 ?_
        unfold isEol at h3
        rw [Bool.or_eq_true, beq_iff_eq, beq_iff_eq] at h3
        exact h3.resolve_right hcr
  · refine .inl ⟨?_, fun i h1 h2 => by omega⟩
    refine ⟨1, by decide, ?_⟩
    have hc : (decide (s > text.size) || decide (text.size - s < (header c2).1)) = true := by
      have : (header c2).1 = 1 := rfl
      rw [this]; simp; omega
    show oc (M.runFor 1 (if (decide (s > text.size) || decide (text.size - s < (header c2).1)) = true then _ else _)) = _
    rw [if_pos hc]; rfl
end Mine
end
section -- RO
open PySem PySem.Spec PySem.Calls PySem.W PyProof.Rows
set_option Elab.async false
set_option maxRecDepth 100000
namespace Mine
open PySem.Sre
section
variable {text : Array Nat} {lim s p h w pc : Nat} {fr : List Sre.Frame} {o : Bool} {sn : Sre.Seen}

theorem exec_at {m : M} (hop : ops[m.word 0]? = some .AT) (h1 : m.word 1 = 1) :
    m.exec = if (m.pos == 0 || m.text.getD (m.pos - 1) 0 == 10) = true then { m with seen := (m.seen.add (m.word 0)).add 44, pc := m.pc + 2 } else { m with seen := (m.seen.add (m.word 0)).add 44, answer := some false } := by
  have hi : ∀ sn, M.isAt { m with seen := sn } (m.word 1) = .ok (m.pos == 0 || m.text.getD (m.pos - 1) 0 == 10) := fun sn => by
    rw [h1]; rfl
  unfold M.exec
  rw [hop]
  simp only
  have hw : ∀ sn, M.word { m with seen := sn } 1 = m.word 1 := fun _ => rfl
  rw [hw, hi]
  simp only [h1]
  by_cases hc : (m.pos == 0 || m.text.getD (m.pos - 1) 0 == 10) = true
  · rw [if_pos hc, if_pos hc]
  · rw [if_neg hc, if_neg hc]; rfl
noncomputable def bolAt (text : Array Nat) (i : Nat) : Bool := i == 0 || text.getD (i - 1) 0 == 10
noncomputable def dotAt (text : Array Nat) (i : Nat) : Bool := bolAt text i && text.getD i 0 == 46
theorem s1_at (hb : bolAt text p = true) : ∃ sn', (st c1 text lim s 5 p h fr w none o sn none).step = st c1 text lim s 7 p h fr w none o sn' none :=
  ⟨_, (step_exec rfl rfl (show (5 : Nat) < c1.size by decide)).trans ((exec_at (m := st c1 text lim s 5 p h fr w none o sn none) rfl rfl).trans (if_pos hb))⟩
theorem s1_atNo (hb : bolAt text p = false) : ∃ sn', (st c1 text lim s 5 p h fr w none o sn none).step = st c1 text lim s 5 p h fr w (some false) o sn' none :=
  ⟨_, (step_exec rfl rfl (show (5 : Nat) < c1.size by decide)).trans ((exec_at (m := st c1 text lim s 5 p h fr w none o sn none) rfl rfl).trans (if_neg (by
    have : bolAt text p = (p == 0 || text.getD (p - 1) 0 == 10) := rfl
    rw [this] at hb
    exact fun q => Bool.false_ne_true (hb.symm.trans q))))⟩
theorem s1_lit (hlt : p < lim) (hc : text.getD p 0 = 46) : ∃ sn', (st c1 text lim s 7 p h fr w none o sn none).step = st c1 text lim s 9 (p + 1) h fr w none o sn' none :=
  ⟨_, (step_exec rfl rfl (show (7 : Nat) < c1.size by decide)).trans (exec_lit_ok (m := st c1 text lim s 7 p h fr w none o sn none) rfl hlt hc)⟩
theorem s1_litNo (hc : lim ≤ p ∨ text.getD p 0 ≠ 46) : ∃ sn', (st c1 text lim s 7 p h fr w none o sn none).step = st c1 text lim s 7 p h fr w (some false) o sn' none :=
  ⟨_, (step_exec rfl rfl (show (7 : Nat) < c1.size by decide)).trans (exec_lit_no (m := st c1 text lim s 7 p h fr w none o sn none) rfl hc)⟩
theorem s1_succ : ∃ sn', (st c1 text lim s 9 p h fr w none o sn none).step = st c1 text lim s 9 p p fr w (some true) o sn' none := by
  cases o
  · exact ⟨_, rfl⟩
  · exact ⟨_, rfl⟩
theorem s1_pop {q : Nat} {o' : Bool} : (st c1 text lim s pc q h [fStart 5 p o] 1 (some true) o' sn none).step = st c1 text lim s 5 p h [] 0 (some true) o sn none := rfl
theorem s1_popNo {q : Nat} {o' : Bool} (hp : p < lim) : (st c1 text lim s pc q h [fStart 5 p o] 1 (some false) o' sn none).step = st c1 text lim (p + 1) 5 (p + 1) (p + 1) [fStart 5 (p + 1) false] 1 none false sn none := by
  show (if p < lim then _ else _) = _
  rw [if_pos hp]; rfl
theorem s1_popEnd {q : Nat} {o' : Bool} (hp : ¬ p < lim) : (st c1 text lim s pc q h [fStart 5 p o] 1 (some false) o' sn none).step = st c1 text lim s 5 p h [] 0 (some false) o sn none := by
  show (if p < lim then _ else _) = _
  rw [if_neg hp]; rfl
theorem s1_end {q : Nat} {y : Bool} : (st c1 text lim s pc q h [] w (some y) o sn none).step = st c1 text lim s pc q h [] w (some y) o sn (some (if y then .matched else .failed)) := rfl

noncomputable def EndsIn (K : Nat) (m : M) (x : Option (Nat × Nat)) : Prop := ∃ k, k ≤ K ∧ FinIs (M.runFor k m) x
theorem EndsIn.step {K : Nat} {m m' : M} {x : Option (Nat × Nat)} (ho : m.outcome = none) (hs : m.step = m') (h : EndsIn K m' x) : EndsIn (K + 1) m x :=
  let ⟨k, hk, e⟩ := h; ⟨k + 1, by omega, by rw [run_step ho hs]; exact e⟩
theorem EndsIn.stepE {K : Nat} {m : M} {f : Sre.Seen → M} {x : Option (Nat × Nat)} (ho : m.outcome = none) (hs : ∃ sn, m.step = f sn) (h : ∀ sn, EndsIn K (f sn) x) : EndsIn (K + 1) m x :=
  let ⟨sn, e⟩ := hs; .step ho e (h sn)
theorem EndsIn.mono {K K' : Nat} {m : M} {x : Option (Nat × Nat)} (hk : K ≤ K') (h : EndsIn K m x) : EndsIn K' m x := let ⟨k, a, b⟩ := h; ⟨k, Nat.le_trans a hk, b⟩

/-- an attempt that fails goes on to the next place -/
theorem run1_no {K : Nat} {x : Option (Nat × Nat)} (hd : dotAt text s = false) (hs : s < lim) (h : ∀ sn, EndsIn K (st c1 text lim (s + 1) 5 (s + 1) (s + 1) [fStart 5 (s + 1) false] 1 none false sn none) x) :
    EndsIn (K + 3) (st c1 text lim s 5 s s [fStart 5 s o] 1 none o sn none) x := by
  cases hb : bolAt text s with
  | false => exact (EndsIn.stepE rfl (s1_atNo hb) fun sn => .step rfl (s1_popNo hs) (h sn)).mono (Nat.le_succ _)
  | true =>
    refine EndsIn.stepE rfl (s1_at hb) fun sn => .stepE rfl (s1_litNo (.inr ?_)) fun sn => .step rfl (s1_popNo hs) (h sn)
    unfold dotAt at hd
    rw [hb, Bool.true_and] at hd
    exact beq_eq_false_iff_ne.mp hd
theorem run1_end (hs : ¬ s < lim) : EndsIn 4 (st c1 text lim s 5 s s [fStart 5 s o] 1 none o sn none) none := by
  cases hb : bolAt text s with
  | false =>
    refine EndsIn.mono (K := 3) (by decide) ?_
    exact EndsIn.stepE rfl (s1_atNo hb) fun sn => .step rfl (s1_popEnd hs) (.step rfl s1_end ⟨0, Nat.le_refl _, rfl⟩)
  | true => exact EndsIn.stepE rfl (s1_at hb) fun sn => .stepE rfl (s1_litNo (.inl (Nat.not_lt.mp hs))) fun sn => .step rfl (s1_popEnd hs) (.step rfl s1_end ⟨0, Nat.le_refl _, rfl⟩)
theorem run1_yes (hs : s < lim) (hd : dotAt text s = true) : EndsIn 5 (st c1 text lim s 5 s s [fStart 5 s o] 1 none o sn none) (some (s, s + 1)) := by
  unfold dotAt at hd
  rw [Bool.and_eq_true, beq_iff_eq] at hd
  exact EndsIn.stepE rfl (s1_at hd.1) fun sn => .stepE rfl (s1_lit hs hd.2) fun sn => .stepE rfl s1_succ fun sn => .step rfl s1_pop (.step rfl s1_end ⟨0, Nat.le_refl _, rfl, rfl, rfl⟩)

theorem run1 (text : Array Nat) (lim : Nat) : ∀ fuel s o, lim = s + fuel →
    ((∀ sn, EndsIn (3 * fuel + 5) (st c1 text lim s 5 s s [fStart 5 s o] 1 none o sn none) none) ∧ ∀ i, s ≤ i → i < lim → dotAt text i = false) ∨
    (∃ r, (∀ sn, EndsIn (3 * fuel + 5) (st c1 text lim s 5 s s [fStart 5 s o] 1 none o sn none) (some (r, r + 1))) ∧ s ≤ r ∧ r < lim ∧ dotAt text r = true ∧ ∀ i, s ≤ i → i < r → dotAt text i = false)
  | 0, s, o, hf => .inl ⟨fun sn => (run1_end (by omega)).mono (by omega), fun i h1 h2 => by omega⟩
  | fuel + 1, s, o, hf => by
    cases hd : dotAt text s with
    | true => exact .inr ⟨s, fun sn => (run1_yes (by omega) hd).mono (by omega), Nat.le_refl _, by omega, hd, fun i h1 h2 => by omega⟩
    | false =>
      rcases run1 text lim fuel (s + 1) false (by omega) with ⟨h1, h2⟩ | ⟨r, h1, h2, h3, h4, h5⟩
      · refine .inl ⟨fun sn => (run1_no hd (by omega) h1).mono (by omega), fun i h3 h4 => ?_⟩
        by_cases hi : i = s
        · rw [hi]; exact hd
        · exact h2 i (by omega) h4
      · refine .inr ⟨r, fun sn => (run1_no hd (by omega) h1).mono (by omega), by omega, h3, h4, fun i h6 h7 => ?_⟩
        by_cases hi : i = s
        · rw [hi]; exact hd
        · exact h5 i (by omega) h7
end

/-- the search of the first pattern -/
theorem search1 (text : Array Nat) (s : Nat) (hs : s ≤ text.size) (hz : text.size ≤ 1000000) :
    (Ends (forSearch c1 text 0 s text.size false) none ∧ ∀ i, s ≤ i → i < text.size → dotAt text i = false) ∨
    (∃ r, Ends (forSearch c1 text 0 s text.size false) (some (r, r + 1)) ∧ s ≤ r ∧ r < text.size ∧ dotAt text r = true ∧ ∀ i, s ≤ i → i < r → dotAt text i = false) := by
  by_cases hlt : s < text.size
  · have e0 : forSearch c1 text 0 s text.size false = st c1 text text.size s 5 s s [fStart 5 s true] 1 none true ((({} : Sre.Seen)).add 14) none := by
      have hc : (decide (s > text.size) || decide (text.size - s < (header c1).1)) = false := by
        have : (header c1).1 = 1 := rfl
        rw [this]; simp; omega
      show (if (decide (s > text.size) || decide (text.size - s < (header c1).1)) = true then _ else _) = _
      rw [if_neg (by rw [hc]; exact Bool.false_ne_true)]; rfl
    rw [e0]
    have up : ∀ {m : M} {x : Option (Nat × Nat)}, EndsIn (3 * (text.size - s) + 5) m x → Ends m x := fun {m x} h => by
      obtain ⟨k, a, b⟩ := h
      have h60 : 3000010 ≤ 2 ^ 60 := by decide
      exact ⟨k, by omega, b⟩
    rcases run1 text text.size (text.size - s) s true (by omega) with ⟨h1, h2⟩ | ⟨r, h1, h2⟩
    · exact .inl ⟨up (h1 _), h2⟩
    · exact .inr ⟨r, up (h1 _), h2⟩
  · refine .inl ⟨?_, fun i h1 h2 => by omega⟩
    refine ⟨1, by decide, ?_⟩
    have hc : (decide (s > text.size) || decide (text.size - s < (header c1).1)) = true := by
      have : (header c1).1 = 1 := rfl
      rw [this]; simp; omega
    show oc (M.runFor 1 (if (decide (s > text.size) || decide (text.size - s < (header c1).1)) = true then _ else _)) = _
    rw [if_pos hc]; rfl
end Mine
end
section -- RP
open PySem PySem.Spec PySem.Calls PySem.W PyProof.Rows
set_option Elab.async false
set_option maxRecDepth 100000
namespace Mine
open PySem.Sre PySem.Builtin PySem.Builtin.Re
section
variable {M₀ : Model} {A : Around} {E : Value → Shared → Prop} {s : Shared}

theorem run_done : ∀ (n : Nat) {m : M}, m.outcome.isSome = true → M.runFor n m = m
  | 0, _, _ => rfl
  | n + 1, m, h => by rw [M.runFor, if_pos h]
theorem run_add (b : Nat) : ∀ (a : Nat) (m : M), M.runFor (a + b) m = M.runFor b (M.runFor a m)
  | 0, m => by rw [Nat.zero_add]; rfl
  | a + 1, m => by
    rw [show a + 1 + b = (a + b) + 1 by omega, M.runFor, M.runFor]
    by_cases h : m.outcome.isSome = true
    · rw [if_pos h, if_pos h, run_done b h]
    · rw [if_neg h, if_neg h]; exact run_add b a m.step
theorem drive_of : ∀ (t turns : Nat) (m : M), 1 ≤ t → t ≤ turns → (M.runFor (4 * t) m).outcome.isSome = true → ∀ {Q : M → Shared → Prop}, Q (M.runFor (4 * t) m) s → wpAny M₀ A (reDrive turns m) Q E s
  | 0, _, _, h, _, _, _, _ => absurd h (by decide)
  | t + 1, 0, _, _, h, _, _, _ => absurd h (Nat.not_succ_le_zero _)
  | t + 1, turns + 1, m, _, ht, ho, Q, h => by
    have e : M.runFor (4 * (t + 1)) m = M.runFor (4 * t) (M.runFor 4 m) := by rw [← run_add]; congr 1; omega
    unfold reDrive
    show wpAny M₀ A (if (M.runFor 4 m).outcome.isSome = true then pure (M.runFor 4 m) else do rule "sre.turn"; reDrive turns (M.runFor 4 m)) Q E s
    by_cases hd : (M.runFor 4 m).outcome.isSome = true
    · rw [if_pos hd]
      rw [e, run_done _ hd] at h
      exact wpAny_pure h
    · rw [if_neg hd]
      have h1 : 1 ≤ t := by
        rcases Nat.eq_zero_or_pos t with q | q
        · subst q; rw [e] at ho; exact absurd ho hd
        · exact q
      rw [e] at ho h
      exact wpAny_bind (wpAny_rule (drive_of t turns _ h1 (by omega) ho h))
theorem oc_some {m : M} (h : oc m ≠ 0) : m.outcome.isSome = true := by
  unfold oc at h
  cases q : m.outcome with
  | none => rw [q] at h; exact absurd rfl h
  | some x => rfl
theorem finIs_some {m : M} {x : Option (Nat × Nat)} (h : FinIs m x) : m.outcome.isSome = true := by
  cases x with
  | none => exact oc_some (by have : oc m = 2 := h; omega)
  | some p => exact oc_some (by have := h.1; omega)
theorem run_to_end {m : M} {x : Option (Nat × Nat)} (h : Ends m x) {Q : Option M → Shared → Prop} (h0 : x = none → Q none s) (h1 : ∀ p m', x = some p → m'.start = p.1 → m'.handed = p.2 → Q (some m') s) : wpAny M₀ A (reRunToEnd m) Q E s := by
  obtain ⟨k, hk, hf⟩ := h
  have hk2 : (2 : Nat) ^ 60 / 4 + 1 ≤ 2 ^ 64 := by decide
  have hf' : FinIs (M.runFor (4 * (k / 4 + 1)) m) x := by
    rw [show 4 * (k / 4 + 1) = k + (4 * (k / 4 + 1) - k) by omega, run_add, run_done _ (finIs_some hf)]
    exact hf
  unfold reRunToEnd
  refine wpAny_bind (drive_of (k / 4 + 1) (2 ^ 64) m (by omega) ?_ (finIs_some hf') ?_)
  · have : k / 4 ≤ 2 ^ 60 / 4 := Nat.div_le_div_right hk
    exact Nat.le_trans (Nat.succ_le_succ this) hk2
  generalize M.runFor (4 * (k / 4 + 1)) m = m' at hf'
  refine wpAny_bind (wpAny_forIn_list _ (fun _ _ s' => s' = s) _ (fun i rest b s' hs => ?_) (fun b s' hs => ?_) _ _ rfl)
  · subst hs
    by_cases hc : m'.seen.has i = true
    · simp only [hc, if_true]; exact wpAny_bind (wpAny_rule (wpAny_pure rfl))
    · simp only [hc, if_false, Bool.false_eq_true]; exact wpAny_pure rfl
  · subst hs
    cases x with
    | none =>
      have ho : oc m' = 2 := hf'
      unfold oc at ho
      split at ho
      · cases ho
      · rename_i q; simp only [q]; exact wpAny_pure (h0 rfl)
      · cases ho
    | some p =>
      obtain ⟨ho, q1, q2⟩ := hf'
      unfold oc at ho
      split at ho
      · rename_i q; simp only [q]; exact wpAny_pure (h1 p m' rfl q1 q2)
      · cases ho
      · cases ho

/-- a compiled pattern in the heap -/
structure PatAt (h : Heap) (p c : Addr) (code : Array Nat) : Prop where
  pat : ∃ d t1 fl t2 t3 t4, h.get? p = some { cls := .type "re.Pattern", data := .fields #[.str d t1, .int fl t2, .int 0 t3, .none, .none, .ref c, .int 0 t4] }
  code : ∃ ws k, h.get? c = some (tobj ws k) ∧ (ws.map reRawOf).map (·.toNat) = code
theorem PatAt.keep {h h' : Heap} {p c : Addr} {code : Array Nat} (x : PatAt h p c code) (kp : ∀ o, h.get? p = some o → h'.get? p = some o) (kc : ∀ o, h.get? c = some o → h'.get? c = some o) : PatAt h' p c code := by
  obtain ⟨⟨d, t1, fl, t2, t3, t4, e⟩, ws, k, e2, r⟩ := x
  exact ⟨⟨d, t1, fl, t2, t3, t4, kp _ e⟩, ws, k, kc _ e2, r⟩

theorem whole_target {p c : Addr} {code : Array Nat} {x : Str} {t : Tok} {Q : ReTarget → Shared → Prop} (P : PatAt s.heap p c code)
    (h : Q { pattern := .ref p, string := .str x t, code := code, text := x.cps, kind := 0, groups := 0, pos := 0, lim := x.cps.size } s) : wpAny M₀ A (reWholeTarget (.ref p) (.str x t)) Q E s := by
  obtain ⟨⟨d, t1, fl, t2, t3, t4, e⟩, ws, k, e2, r⟩ := P
  unfold reWholeTarget
  refine wpAny_bind (wpAny_fieldsOf e rfl ?_)
  refine wpAny_bind (wpAny_of_eq (show reTextOf (.str x t) = pure (x.cps, 0) from rfl) ?_)
  dsimp only
  show wpAny M₀ A (do
    reNoCollectionInside (.str x t) 0
    let __do_lift ← reRawItems (.ref c)
    pure { pattern := Value.ref p, string := Value.str x t, code := Array.map (fun x => x.toNat) __do_lift, text := x.cps, kind := 0, groups := 0, pos := 0, lim := x.cps.size }) Q E s
  refine wpAny_bind (wpAny_pure (wpAny_bind ?_))
  unfold reRawItems
  refine wpAny_bind (wpAny_seqItems e2 rfl (wpAny_pure (wpAny_pure ?_)))
  dsimp only [Option.getD_some]
  rw [r]; exact h

theorem re_slice {text : Array Nat} {b e : Nat} {Q : Value → Shared → Prop} (hz : text.size ≤ 1000) (h : Q (.str ⟨text.extract b e⟩ s.toks) { s with toks := s.toks + 1 }) : wpAny M₀ A (reSlice text 0 b e) Q E s := by
  show wpAny M₀ A (mkStr ⟨text.extract b e⟩) Q E s
  refine wpAny_mkStr h ?_
  show (text.extract b e).size ≤ sizeLine
  have : (text.extract b e).size ≤ 1000 := by rw [Array.size_extract]; omega
  exact Nat.le_trans this (by decide)
end
end Mine
end
section -- RQ
open PySem PySem.Spec PySem.Calls PySem.W PyProof.Rows
set_option Elab.async false
set_option maxRecDepth 100000
namespace Mine
open PySem.Sre PySem.Builtin PySem.Builtin.Re

/-- what a search gives is right -/
noncomputable def SrchOk (code text : Array Nat) (srch : Nat → Option (Nat × Nat)) : Prop :=
  ∀ d, d ≤ text.size → Ends (forSearch code text 0 d text.size false) (srch d) ∧ ∀ r e, srch d = some (r, e) → d ≤ r ∧ r < e ∧ e ≤ text.size

/-- the text behind the place d, its finds replaced -/
noncomputable def subP (srch : Nat → Option (Nat × Nat)) (repl : List Nat) (text : Array Nat) : Nat → Nat → List Nat
  | 0, d => (text.extract d text.size).toList
  | fuel + 1, d => match srch d with
    | none => (text.extract d text.size).toList
    | some (r, e) => (text.extract d r).toList ++ (repl ++ subP srch repl text fuel e)

noncomputable def catS (l : List (Str × Tok)) : List Nat := (l.map fun p => p.1.cps.toList).flatten
theorem catS_snoc (l : List (Str × Tok)) (x : Str) (t : Tok) : catS (l ++ [(x, t)]) = catS l ++ x.cps.toList := by
  unfold catS; rw [List.map_append, List.flatten_append]; simp
theorem strValues_snoc (l : List (Str × Tok)) (x : Str) (t : Tok) : (strValues l).toArray.push (.str x t) = (strValues (l ++ [(x, t)])).toArray := by
  unfold strValues; simp
theorem join_cat : ∀ l : List (Str × Tok), (Txt.join ⟨#[]⟩ (l.map (·.1))).cps.toList = catS l
  | [] => rfl
  | (a, t) :: r => by
    have ih := join_cat r
    unfold Txt.join at ih ⊢
    rw [StrLaws.glued_eq_join] at ih ⊢
    rw [List.map_cons, PyProof.Rows.join_nil_cons, cps_toList_append, ih]
    rfl
theorem join_ok {l : List (Str × Tok)} (h : (catS l).length ≤ 20000) : JoinOk ⟨#[]⟩ (l.map (·.1)) = true := by
  have e : ∀ (l : List Str) (n : Nat), l.foldl (fun a x => a + x.length + (⟨#[]⟩ : Str).length) n = n + (l.map (·.length)).sum := fun l => by
    induction l with
    | nil => intro n; rfl
    | cons a r ih => intro n; rw [List.foldl_cons, ih, List.map_cons, List.sum_cons]; show n + a.length + 0 + _ = _; omega
  have e2 : ((l.map (·.1)).map (·.length)).sum = (catS l).length := by
    unfold catS
    rw [List.length_flatten, List.map_map, List.map_map]
    congr 1
  unfold JoinOk
  rw [List.foldl_toArray, e, e2, Nat.zero_add]
  unfold Builtin.Str.tooLong
  have : (20000 : Nat) ≤ sizeLine := by decide
  rw [Bool.not_eq_true', decide_eq_false_iff_not]
  omega
section
variable {prog : Program} {w : World} {A : Around} {E : Value → Shared → Prop} {s : Shared}

theorem re_push {D : Addr} {l : List (Str × Tok)} {m : Nat} {x : Str} {t : Tok} {Q : Unit → Shared → Prop} (hl : l.length ≤ 5000) (ho : s.heap.get? D = some (lobj (strValues l).toArray m))
    (h : ∀ h', Heap.SameBut D s.heap h' → (∃ m', h'.get? D = some (lobj (strValues (l ++ [(x, t)])).toArray m')) → Q () { s with heap := h' }) : wpAny (model prog w) A (updateSeq D fun xs => xs.push (.str x t)) Q E s := by
  have hlen : (strValues l).toArray.size ≤ 5000 := by simp [strValues, hl]
  have h5 : (5000 : Nat) ≤ sizeLine := by decide
  refine wpAny_updateSeq ho rfl (h _ (Heap.SameBut.update _ D _) ?_) (Nat.le_trans hlen h5) (by rw [Array.size_push]; omega)
  rw [← strValues_snoc]
  exact ⟨_, get?_update_seq (c := "list") ho _⟩

theorem ret_str {x : Value} {Q : PySem.Fin → Shared → Prop} (h : Q (.done (.ret x)) s) : wpAny (model prog w) A (ret x) Q E s := wpAny_pure h
theorem re_tail {D : Addr} {l : List (Str × Tok)} {m : Nat} {text : Array Nat} {z : Value → Sem PySem.Fin} {Q : PySem.Fin → Shared → Prop} (hx : text.size ≤ 1000) (ho : s.heap.get? D = some (lobj (strValues l).toArray m)) (hc : (catS l).length ≤ 20000)
    (h : ∀ tk t', Q (.done (.ret (.str ⟨(catS l).toArray⟩ t'))) { s with toks := tk }) :
    wpAny (model prog w) A (do
      let joiner ← reSlice text 0 0 0
      let its ← seqItems? (.ref D)
      if (its.getD #[]).isEmpty = true then do
        let t ← pure joiner
        if false = true then z t else ret t
      else do
        let t ← call (.builtin "str.join") [joiner, .ref D]
        if false = true then z t else ret t) Q E s := by
  refine wpAny_bind (re_slice hx ?_)
  have hj : (⟨text.extract 0 0⟩ : Str) = ⟨#[]⟩ := by congr 1; simp
  rw [hj]
  refine wpAny_bind (wpAny_seqItems ho rfl ?_)
  dsimp only [Option.getD_some]
  by_cases hem : (strValues l).toArray.isEmpty = true
  · rw [if_pos hem]
    have hl : l = [] := by
      cases l with
      | nil => rfl
      | cons a r => simp [strValues] at hem
    subst hl
    refine wpAny_bind (wpAny_pure ?_)
    rw [if_neg Bool.false_ne_true]
    exact ret_str (h _ _)
  · rw [if_neg hem]
    refine wpAny_bind (SC.join (s := { s with toks := s.toks + 1 }) ⟨_, ho, rfl, m, rfl⟩ rfl (join_ok hc) fun t' k => ?_)
    rw [if_neg Bool.false_ne_true]
    have e : Txt.join ⟨#[]⟩ (l.map (·.1)) = ⟨(catS l).toArray⟩ := by
      have := join_cat l
      generalize Txt.join ⟨#[]⟩ (l.map (·.1)) = q at this ⊢
      cases q
      congr 1
      rw [← this]
    rw [e]
    exact ret_str (h _ _)
theorem re_item {D : Addr} {l : List (Str × Tok)} {m : Nat} {y : Str} {ty : Tok} {z u : Sem PySem.Fin} {c' : Code} {Q : PySem.Fin → Shared → Prop} (hl : l.length ≤ 5000) (ho : s.heap.get? D = some (lobj (strValues l).toArray m))
    (h : ∀ h', Heap.SameBut D s.heap h' → (∃ m', h'.get? D = some (lobj (strValues (l ++ [(y, ty)])).toArray m')) → Q (.again c') { s with heap := h' }) :
    wpAny (model prog w) A (if (0 == 0) = true then do
      let item ← pure (Value.str y ty)
      if (item != Value.none) = true then do
        updateSeq D fun xs => xs.push item
        again c'
      else u
    else z) Q E s := by
  rw [if_pos (show ((0 : Nat) == 0) = true from rfl)]
  refine wpAny_bind (wpAny_pure ?_)
  rw [if_pos (show (Value.str y ty != Value.none) = true from rfl)]
  exact wpAny_bind (re_push hl ho fun h' hs he => wpAny_pure (h h' hs he))

/-- the rest of the loop, a match in hand or not -/
theorem sub_loop {p c D : Addr} {code : Array Nat} {x y : Str} {tx ty : Tok} {srch : Nat → Option (Nat × Nat)} (hS : SrchOk code x.cps srch) (hx : x.cps.size ≤ 1000) (hy : y.cps.size ≤ 10) (hDp : D ≠ p) (hDc : D ≠ c) {R : Result → Shared → Prop} :
    ∀ (fuel d n : Nat) (l : List (Str × Tok)) (s : Shared), x.cps.size < d + fuel → d ≤ x.cps.size → PatAt s.heap p c code → (∃ m, s.heap.get? D = some (lobj (strValues l).toArray m)) → l.length ≤ 2 * d → (catS l).length ≤ 11 * d →
      (∀ h' tk t', Heap.SameBut D s.heap h' → R (.ok (.ret (.str ⟨(catS l ++ subP srch y.cps.toList x.cps fuel d).toArray⟩ t'))) { s with heap := h', toks := tk }) →
      codeAny (model prog w) A (.builtin "re.Pattern.sub.loop" ⟨[.ref p, .str x tx, .str y ty, rawInt 0, rawInt 0, rawInt n, rawInt d, rawInt d, .bool false, .ref D, .bool false], []⟩) R s
  | 0, d, n, l, s, hf, hd, _, _, _, _, _ => absurd hf (by omega)
  | fuel + 1, d, n, l, s, hf, hd, P, ⟨m, ho⟩, hl, hc, h => by
    refine codeAny_builtin re_entry_loop ?_
    rw [Around.under_plainId re_plain_loop _]
    unfold Builtin.«re.Pattern.sub.loop»
    dsimp only
    refine wpAny_bind (whole_target P ?_)
    dsimp only
    refine wpAny_bind (wpAny_pure ?_)
    refine wpAny_bind ?_
    obtain ⟨hE, hB⟩ := hS d hd
    refine run_to_end hE (fun hn => ?_) (fun q m' hq h1 h2 => ?_)
    · -- nothing more
      dsimp only
      unfold subP at h
      rw [hn] at h
      dsimp only at h
      rw [Int.toNat_natCast]
      by_cases hlt : d < x.cps.size
      · rw [if_pos hlt]
        refine wpAny_bind (re_slice hx (wpAny_bind (re_push (s := { s with toks := s.toks + 1 }) (by omega) ho fun h' hs' he => ?_)))
        obtain ⟨m', he⟩ := he
        refine re_tail (s := { s with heap := h', toks := s.toks + 1 }) hx he ?_ fun tk t' => ?_
        · rw [catS_snoc, List.length_append]
          have : ((⟨x.cps.extract d x.cps.size⟩ : Str).cps.toList).length ≤ x.cps.size := by simp
          omega
        · rw [catS_snoc]
          exact h h' tk t' hs'
      · rw [if_neg hlt]
        refine re_tail hx ho (by omega) fun tk t' => ?_
        have := h s.heap tk t' (Heap.SameBut.refl _ _)
        have e : (x.cps.extract d x.cps.size).toList = [] := by simp; omega
        rw [e, List.append_nil] at this
        exact this
    · obtain ⟨r, e⟩ := q
      dsimp only at h1 h2
      obtain ⟨b1, b2, b3⟩ := hB r e hq
      unfold subP at h
      rw [hq] at h
      dsimp only at h ⊢
      rw [Int.toNat_natCast, h1, h2]
      have hre : (e == r) = false := beq_eq_false_iff_ne.mpr (by omega)
      rw [hre]
      have hn1 : ((n : Int) + 1) = ((n + 1 : Nat) : Int) := by push_cast; rfl
      rw [hn1]
      have go : ∀ (l' : List (Str × Tok)) (s' : Shared), Heap.SameBut D s.heap s'.heap → s'.gens = s.gens → s'.drawn = s.drawn → s'.os = s.os → (∃ m, s'.heap.get? D = some (lobj (strValues l').toArray m)) → l'.length ≤ l.length + 2 → catS l' = catS l ++ ((x.cps.extract d r).toList ++ y.cps.toList) →
          codeAny (model prog w) A (.builtin "re.Pattern.sub.loop" ⟨[.ref p, .str x tx, .str y ty, rawInt 0, rawInt 0, rawInt (n + 1 : Nat), rawInt e, rawInt e, .bool false, .ref D, .bool false], []⟩) R s' := fun l' s' hs1 hs2 hs3 hs4 hm hl' hc' => by
        refine sub_loop hS hx hy hDp hDc fuel e (n + 1) l' s' (by omega) b3 (P.keep (fun o q => (hs1.2 p (Ne.symm hDp)).trans q) fun o q => (hs1.2 c (Ne.symm hDc)).trans q) hm (by omega) ?_ fun h' tk t' hs'' => ?_
        · rw [hc', List.length_append, List.length_append]
          have q1 : ((x.cps.extract d r).toList).length ≤ r - d := by simp only [Array.length_toList, Array.size_extract]; omega
          have q2 : y.cps.toList.length ≤ 10 := by simpa using hy
          omega
        · have := h h' tk t' (hs1.trans hs'')
          rw [hc', hs2, hs3, hs4]
          rw [List.append_assoc, List.append_assoc]
          exact this
      have quiet : ∀ a, (Code.builtin "re.Pattern.sub.loop" a).quiet = true := fun a => plainId_quiet re_plain_loop _
      by_cases hlt : d < r
      · rw [if_pos hlt]
        refine wpAny_bind (re_slice hx (wpAny_bind (re_push (s := { s with toks := s.toks + 1 }) (by omega) ho fun h' hs' he => ?_)))
        obtain ⟨m1, he⟩ := he
        refine re_item (s := { s with heap := h', toks := s.toks + 1 }) (by rw [List.length_append]; show l.length + 1 ≤ 5000; omega) he fun h'' hs'' he' => ⟨quiet _, go _ _ (hs'.trans hs'') rfl rfl rfl he' (by simp) ?_⟩
        rw [catS_snoc, catS_snoc, List.append_assoc]
      · rw [if_neg hlt]
        refine re_item (by omega) ho fun h'' hs'' he' => ⟨quiet _, go _ _ hs'' rfl rfl rfl he' (by simp) ?_⟩
        have e0 : (x.cps.extract d r).toList = [] := by simp; omega
        rw [catS_snoc, e0, List.nil_append]
end
end Mine
end
section -- RS
open PySem PySem.Spec PySem.Calls PySem.W PyProof.Rows
set_option Elab.async false
set_option maxRecDepth 100000
namespace Mine
open PySem.Sre PySem.Builtin PySem.Builtin.Re
section
variable {prog : Program} {w : World} {A : Around} {E : Value → Shared → Prop} {s : Shared}
theorem no_call_str : typeLookup (.type "str") (Str.ofString "__call__") = pure none := by rw [typeLookup_type, builtinLookup_eq_fast]; kernel_rfl
theorem re_named (a b : Value) : reNamed "re.Pattern.sub" "sub" ["repl", "string", "count"] 2 [a, b] [] = pure [some a, some b, none] := by kernel_rfl

theorem meets_sub (p c : Addr) (code : Array Nat) (x y : Str) (tx ty : Tok) (srch : Nat → Option (Nat × Nat)) (hS : SrchOk code x.cps srch) (hx : x.cps.size ≤ 1000) (hy : y.cps.size ≤ 10) (hb : y.cps.contains 92 = false) :
    Meets (Builtin.«re.Pattern.sub» ⟨[.ref p, .str y ty, .str x tx], []⟩) (fun _ R s => PatAt s.heap p c code ∧
      ∀ h' tk t', (∀ b o, s.heap.get? b = some o → h'.get? b = some o) → R (.ok (.ret (.str ⟨(subP srch y.cps.toList x.cps (x.cps.size + 1) 0).toArray⟩ t'))) { s with heap := h', toks := tk }) := by
  intro prog w A R s ⟨P, h⟩
  unfold Builtin.«re.Pattern.sub» reSubstitute
  dsimp only
  rw [re_named]
  refine wpAny_bind (wpAny_pure ?_)
  dsimp only
  refine wpAny_bind (wpAny_pure ?_)
  refine wpAny_bind (wpAny_specialOf (typeIs_str _ _ _) no_call_str ?_)
  simp only [Option.isSome_none, Bool.false_eq_true, if_false]
  refine wpAny_bind (wpAny_pure ?_)
  dsimp only
  refine wpAny_bind (wpAny_pure ?_)
  simp only [hb, Bool.not_false, if_true]
  refine wpAny_bind (wpAny_pure ?_)
  refine wpAny_bind (wpAny_holding (whole_target P ?_))
  rw [if_neg (show ¬ (((0 : Int) == 1) = true) from Bool.false_ne_true)]
  refine wpAny_bind (wpAny_newList ?_ (Nat.zero_le _))
  refine wpAny_pure ?_
  have hlt : ∀ b o, s.heap.get? b = some o → b ≠ s.heap.objs.size := fun b o e q => Nat.lt_irrefl _ (q ▸ Heap.lt_size e)
  have hk : ∀ b o, s.heap.get? b = some o → (s.heap.push (lobj #[] 0)).get? b = some o := fun b o e => Heap.get?_push_of_some _ e
  obtain ⟨⟨d, t1, fl, t2, t3, t4, e1⟩, ws, k, e2, r⟩ := id P
  refine ⟨plainId_quiet re_plain_loop _, sub_loop hS hx hy (hlt _ _ e1).symm (hlt _ _ e2).symm (x.cps.size + 1) 0 0 [] _ (by omega) (Nat.zero_le _) (P.keep (fun o e => hk _ _ e) fun o e => hk _ _ e) ⟨0, Heap.get?_push_size _ rfl⟩ (Nat.zero_le _) (Nat.zero_le _) fun h' tk t' hs => ?_⟩
  exact h h' tk t' fun b o e => (hs.2 b (hlt b o e)).trans (hk b o e)

theorem re_sub_call {p c : Addr} {code : Array Nat} {x y : Str} {tx ty : Tok} {srch : Nat → Option (Nat × Nat)} {Q : Value → Shared → Prop} (hS : SrchOk code x.cps srch) (hx : x.cps.size ≤ 1000) (hy : y.cps.size ≤ 10) (hb : y.cps.contains 92 = false) (P : PatAt s.heap p c code)
    (h : ∀ h' tk t', (∀ b o, s.heap.get? b = some o → h'.get? b = some o) → Q (.str ⟨(subP srch y.cps.toList x.cps (x.cps.size + 1) 0).toArray⟩ t') { s with heap := h', toks := tk }) :
    wpAny (model prog w) A (call (.builtin "re.Pattern.sub") [.ref p, .str y ty, .str x tx]) Q E s := by
  obtain ⟨d, t1, fl, t2, t3, t4, e1⟩ := id P.pat
  exact call_meets re_slot_sub ⟨_, e1, rfl⟩ re_entry_sub (re_args_sub _ _ _) (meets_sub p c code x y tx ty srch hS hx hy hb) ⟨P, h⟩

theorem re_ga : typeLookup (.type "re.Pattern") "__getattribute__" = pure (some (.builtin "object.__getattribute__")) := by rw [typeLookup_type, builtinLookup_eq_fast]; kernel_rfl
theorem re_canon : (Manifest.canonical "object.__getattribute__" != "object.__getattribute__") = false := by decide +kernel
theorem re_no_ga : typeLookup (.type "re.Pattern") "__getattr__" = pure none := by rw [typeLookup_type, builtinLookup_eq_fast]; kernel_rfl
theorem re_method {p : Addr} {o : Obj} {pl : Sem Bool} {Q : Value × List Value → Shared → Prop} (e : s.heap.get? p = some o) (hc : o.cls = .type "re.Pattern") (hd : o.dict = none) (h : Q (.builtin "re.Pattern.sub", [.ref p]) s) :
    wpAny (model prog w) A (getMethod (.ref p) (Str.ofString "sub") pl) Q E s := by
  have hT : s.TypeIs (.ref p) "re.Pattern" := ⟨_, e, hc⟩
  unfold getMethod
  refine wpAny_bind (wpAny_specialOf hT re_ga ?_)
  dsimp only
  rw [re_canon, if_neg Bool.false_ne_true]
  refine wpAny_bind (wpAny_specialOf hT re_no_ga ?_)
  simp only [Option.isSome_none, Bool.false_eq_true, if_false]
  refine wpAny_bind (wpAny_specialOf hT re_slot_sub.lookup ?_)
  dsimp only
  refine wpAny_bind (wpAny_of_eq re_type_sub ?_)
  rw [if_neg (by decide +kernel)]
  refine wpAny_bind (wpAny_loadPart e ?_)
  rw [hd]
  exact wpAny_bind (wpAny_rule (wpAny_pure h))
end
end Mine
end
section -- RT
open PySem PySem.Spec PySem.Calls PySem.W PyProof.Rows
set_option Elab.async false
set_option maxRecDepth 100000
namespace Mine
open PySem.Sre

-- the texts as lists
theorem eol2_other {c : Nat} {r : List Nat} (h : isEol c = false) : eol2 (c :: r) = c :: eol2 r := by
  unfold isEol at h
  rw [Bool.or_eq_false_iff, beq_eq_false_iff_ne, beq_eq_false_iff_ne] at h
  have e : eol2 (c :: r) = if c = 10 ∨ c = 13 then 13 :: 10 :: eol2 r else c :: eol2 r := by
    rw [eol2.eq_def]
    split
    · rename_i q; cases q
    · rename_i q; injection q with q1 q2; exact absurd q1 h.2
    · rename_i q; injection q with q1 q2; rw [q1, q2]
  rw [e, if_neg fun q => q.elim h.1 h.2]
theorem eol2_crlf (r : List Nat) : eol2 (13 :: 10 :: r) = 13 :: 10 :: eol2 r := by rw [eol2.eq_def]; rfl
theorem eol2_lf (r : List Nat) : eol2 (10 :: r) = 13 :: 10 :: eol2 r := by
  rw [eol2.eq_def]; rfl
theorem eol2_cr {r : List Nat} (h : ∀ q, r ≠ 10 :: q) : eol2 (13 :: r) = 13 :: 10 :: eol2 r := by
  rw [eol2.eq_def]
  split
  · rename_i q; cases q
  · rename_i q; injection q with q1 q2; exact absurd q2 (h _)
  · rename_i q; injection q with q1 q2; subst q1 q2; rfl
theorem eol2_pre {pre r : List Nat} (h : ∀ c ∈ pre, isEol c = false) : eol2 (pre ++ r) = pre ++ eol2 r := by
  induction pre with
  | nil => rfl
  | cons a p ih => rw [List.cons_append, eol2_other (h a (.head _)), ih fun c hc => h c (.tail _ hc)]; rfl
theorem getD_list (text : Array Nat) (i : Nat) : text.getD i 0 = text.toList.getD i 0 := by
  rw [List.getD_eq_getElem?_getD, Array.getElem?_toList]; exact Array.getD_eq_getD_getElem? 
theorem drop_at {l : List Nat} {r : Nat} (h : r < l.length) : l.drop r = l.getD r 0 :: l.drop (r + 1) := by
  rw [List.drop_eq_getElem_cons h, List.getD_eq_getElem?_getD, List.getElem?_eq_getElem h]; rfl
theorem drop_split {l : List Nat} {d r : Nat} (h : d ≤ r) : l.drop d = (l.drop d).take (r - d) ++ l.drop r := by
  have := (List.take_append_drop (r - d) (l.drop d)).symm
  rw [List.drop_drop, show d + (r - d) = r by omega] at this
  exact this
theorem ext_list (text : Array Nat) (d r : Nat) : (text.extract d r).toList = (text.toList.drop d).take (r - d) := by
  rw [Array.toList_extract, List.extract_eq_take_drop]
theorem mem_take_drop {l : List Nat} {d r c : Nat} (h : c ∈ (l.drop d).take (r - d)) : ∃ i, d ≤ i ∧ i < r ∧ i < l.length ∧ l.getD i 0 = c := by
  obtain ⟨j, hj, e⟩ := List.mem_iff_getElem.mp h
  rw [List.length_take, List.length_drop] at hj
  rw [List.getElem_take, List.getElem_drop] at e
  refine ⟨d + j, by omega, by omega, by omega, ?_⟩
  rw [List.getD_eq_getElem?_getD, List.getElem?_eq_getElem (by omega)]
  exact e

/-- what the second pattern finds -/
noncomputable def Spec2 (text : Array Nat) (d : Nat) : Option (Nat × Nat) → Prop
  | none => ∀ i, d ≤ i → i < text.size → isEol (text.getD i 0) = false
  | some (r, e) => d ≤ r ∧ r < text.size ∧ isEol (text.getD r 0) = true ∧ (∀ i, d ≤ i → i < r → isEol (text.getD i 0) = false) ∧ e = if text.getD r 0 = 13 ∧ r + 1 < text.size ∧ text.getD (r + 1) 0 = 10 then r + 2 else r + 1
theorem found2 (text : Array Nat) (d : Nat) (h : d ≤ text.size) : ∃ x, Ends (forSearch c2 text 0 d text.size false) x ∧ Spec2 text d x := by
  rcases search2 text d h with ⟨h1, h2⟩ | ⟨r, e, h1, h2⟩
  · exact ⟨none, h1, h2⟩
  · exact ⟨some (r, e), h1, h2⟩
theorem srch2_ex (text : Array Nat) : ∃ f : Nat → Option (Nat × Nat), ∀ d, d ≤ text.size → Ends (forSearch c2 text 0 d text.size false) (f d) ∧ Spec2 text d (f d) := by
  have : ∀ d, ∃ x, d ≤ text.size → Ends (forSearch c2 text 0 d text.size false) x ∧ Spec2 text d x := fun d => by
    by_cases h : d ≤ text.size
    · obtain ⟨x, hx⟩ := found2 text d h; exact ⟨x, fun _ => hx⟩
    · exact ⟨none, fun q => absurd q h⟩
  exact ⟨fun d => (this d).choose, fun d hd => (this d).choose_spec hd⟩
theorem sub2_plain {text : Array Nat} {f : Nat → Option (Nat × Nat)} (hf : ∀ d, d ≤ text.size → Spec2 text d (f d)) : ∀ fuel d, text.size < d + fuel → d ≤ text.size → subP f [13, 10] text fuel d = eol2 (text.toList.drop d)
  | 0, d, h, hd => absurd h (by omega)
  | fuel + 1, d, h, hd => by
    have hs := hf d hd
    have hlen : text.toList.length = text.size := Array.length_toList
    unfold subP
    cases q : f d with
    | none =>
      rw [q] at hs
      have hs : ∀ i, d ≤ i → i < text.size → isEol (text.getD i 0) = false := hs
      dsimp only
      have e : (text.extract d text.size).toList = text.toList.drop d := by
        rw [ext_list, List.take_of_length_le (by rw [List.length_drop, hlen]; omega)]
      rw [e]
      have := eol2_pre (pre := text.toList.drop d) (r := []) fun c hc => by
        rw [← List.take_of_length_le (i := text.size - d) (l := text.toList.drop d) (by rw [List.length_drop, hlen]; omega)] at hc
        obtain ⟨i, h1, h2, h3, h4⟩ := mem_take_drop hc
        rw [← h4, ← getD_list]; exact hs i h1 h2
      rw [List.append_nil] at this
      rw [this]
      show _ = _ ++ []
      rw [List.append_nil]
    | some p =>
      obtain ⟨r, e⟩ := p
      rw [q] at hs
      obtain ⟨h1, h2, h3, h4, h5⟩ := hs
      have he : r < e ∧ e ≤ text.size := by
        by_cases hc : text.getD r 0 = 13 ∧ r + 1 < text.size ∧ text.getD (r + 1) 0 = 10
        · rw [if_pos hc] at h5; have := hc.2.1; omega
        · rw [if_neg hc] at h5; omega
      dsimp only
      rw [sub2_plain hf fuel e (by omega) he.2, ext_list, drop_split (l := text.toList) h1, eol2_pre (fun c hc => by
        obtain ⟨i, g1, g2, g3, g4⟩ := mem_take_drop hc
        rw [← g4, ← getD_list]; exact h4 i g1 g2)]
      rw [List.take_append_of_le_length (by rw [List.length_take, List.length_drop, hlen]; omega), List.take_take, Nat.min_self]
      congr 1
      rw [drop_at (l := text.toList) (r := r) (by omega), ← getD_list]
      rw [getD_list] at h3
      by_cases hc : text.getD r 0 = 13 ∧ r + 1 < text.size ∧ text.getD (r + 1) 0 = 10
      · rw [if_pos hc] at h5
        rw [hc.1, drop_at (l := text.toList) (r := r + 1) (by omega), ← getD_list, hc.2.2, eol2_crlf, h5]
        rfl
      · rw [if_neg hc] at h5
        rw [h5]
        unfold isEol at h3
        rw [Bool.or_eq_true, beq_iff_eq, beq_iff_eq, ← getD_list] at h3
        rcases h3 with h3 | h3
        · rw [h3, eol2_lf]; rfl
        · rw [h3, eol2_cr]
          · rfl
          · intro z hz
            by_cases hl : r + 1 < text.size
            · rw [drop_at (l := text.toList) (r := r + 1) (by omega), ← getD_list] at hz
              injection hz with hz _
              exact hc ⟨h3, hl, hz⟩
            · rw [List.drop_eq_nil_of_le (by omega)] at hz; cases hz
end Mine
end
section -- RU
open PySem PySem.Spec PySem.Calls PySem.W PyProof.Rows
set_option Elab.async false
set_option maxRecDepth 100000
namespace Mine
open PySem.Sre

theorem dot1_cons (b : Bool) (c : Nat) (r : List Nat) : dot1 b (c :: r) = if b = true ∧ c = 46 then 46 :: 46 :: dot1 false r else c :: dot1 (decide (c = 10)) r := by
  cases b <;> rfl
theorem bol_succ (text : Array Nat) (d : Nat) : bolAt text (d + 1) = decide (text.getD d 0 = 10) := by
  unfold bolAt
  rw [Nat.add_sub_cancel]
  show ((d + 1 == 0) || _) = _
  have : (d + 1 == 0) = false := rfl
  rw [this, Bool.false_or]
  exact Bool.beq_eq_decide_eq _ _
theorem dot1_run {text : Array Nat} : ∀ k d, d + k ≤ text.size → (∀ i, d ≤ i → i < d + k → dotAt text i = false) →
    dot1 (bolAt text d) (text.toList.drop d) = (text.toList.drop d).take k ++ dot1 (bolAt text (d + k)) (text.toList.drop (d + k))
  | 0, d, _, _ => by rw [List.take_zero]; rfl
  | k + 1, d, hk, h => by
    have hlen : text.toList.length = text.size := Array.length_toList
    have hd := h d (Nat.le_refl _) (by omega)
    have e : dot1 (bolAt text d) (text.toList.drop d) = text.getD d 0 :: dot1 (bolAt text (d + 1)) (text.toList.drop (d + 1)) := by
      rw [drop_at (l := text.toList) (r := d) (by omega), ← getD_list, dot1_cons, bol_succ, if_neg]
      intro q
      unfold dotAt at hd
      rw [q.1, q.2] at hd
      exact absurd hd (by decide)
    rw [e, dot1_run k (d + 1) (by omega) fun i h1 h2 => h i (by omega) (by omega)]
    rw [drop_at (l := text.toList) (r := d) (by omega), ← getD_list, List.take_succ_cons, show d + (k + 1) = d + 1 + k by omega]
    rfl
theorem dot1_hit {text : Array Nat} {r : Nat} (hr : r < text.size) (h : dotAt text r = true) : dot1 (bolAt text r) (text.toList.drop r) = 46 :: 46 :: dot1 (bolAt text (r + 1)) (text.toList.drop (r + 1)) := by
  have hlen : text.toList.length = text.size := Array.length_toList
  unfold dotAt at h
  rw [Bool.and_eq_true, beq_iff_eq] at h
  rw [drop_at (l := text.toList) (r := r) (by omega), ← getD_list, dot1_cons, if_pos h, bol_succ, h.2]
  rfl

noncomputable def Spec1 (text : Array Nat) (d : Nat) : Option (Nat × Nat) → Prop
  | none => ∀ i, d ≤ i → i < text.size → dotAt text i = false
  | some (r, e) => d ≤ r ∧ r < text.size ∧ dotAt text r = true ∧ (∀ i, d ≤ i → i < r → dotAt text i = false) ∧ e = r + 1
theorem srch1_ex (text : Array Nat) (hz : text.size ≤ 1000000) : ∃ f : Nat → Option (Nat × Nat), ∀ d, d ≤ text.size → Ends (forSearch c1 text 0 d text.size false) (f d) ∧ Spec1 text d (f d) := by
  have : ∀ d, ∃ x, d ≤ text.size → Ends (forSearch c1 text 0 d text.size false) x ∧ Spec1 text d x := fun d => by
    by_cases h : d ≤ text.size
    · rcases search1 text d h hz with ⟨h1, h2⟩ | ⟨r, h1, h2, h3, h4, h5⟩
      · exact ⟨none, fun _ => ⟨h1, h2⟩⟩
      · exact ⟨some (r, r + 1), fun _ => ⟨h1, h2, h3, h4, h5, rfl⟩⟩
    · exact ⟨none, fun q => absurd q h⟩
  exact ⟨fun d => (this d).choose, fun d hd => (this d).choose_spec hd⟩
theorem sub1_plain {text : Array Nat} {f : Nat → Option (Nat × Nat)} (hf : ∀ d, d ≤ text.size → Spec1 text d (f d)) : ∀ fuel d, text.size < d + fuel → d ≤ text.size → subP f [46, 46] text fuel d = dot1 (bolAt text d) (text.toList.drop d)
  | 0, d, h, hd => absurd h (by omega)
  | fuel + 1, d, h, hd => by
    have hs := hf d hd
    have hlen : text.toList.length = text.size := Array.length_toList
    unfold subP
    cases q : f d with
    | none =>
      rw [q] at hs
      have hs : ∀ i, d ≤ i → i < text.size → dotAt text i = false := hs
      dsimp only
      rw [ext_list, dot1_run (text.size - d) d (by omega) fun i h1 h2 => hs i h1 (by omega), (List.drop_eq_nil_of_le (by omega) : text.toList.drop (d + (text.size - d)) = [])]
      show _ = _ ++ []
      rw [List.append_nil]
    | some p =>
      obtain ⟨r, e⟩ := p
      rw [q] at hs
      obtain ⟨h1, h2, h3, h4, h5⟩ := hs
      subst h5
      dsimp only
      rw [sub1_plain hf fuel (r + 1) (by omega) (by omega), ext_list, dot1_run (r - d) d (by omega) fun i g1 g2 => h4 i g1 (by omega), show d + (r - d) = r by omega, dot1_hit h2 h3]
      rfl

section
variable {C : Cx} {n : Nat}
theorem resub2 {x : Str} {p c : Addr} (hm : C.mg x = some (.ref p)) (P : PatAt C.hb p c c2) (hp : p ≠ C.tab) (hc : c ≠ C.tab) : ReSub C n x B_sub2 := by
  refine ⟨p, hm, fun h ok A s E Q pl hs hq => ?_, fun S A s vs ds d Q E ha ok hS rs ef h => ?_⟩
  · subst hs
    obtain ⟨d, t1, fl, t2, t3, t4, e⟩ := P.pat
    exact re_method (ok.base _ _ e hp) rfl rfl hq
  · unfold B_sub2 at ef
    split at ef
    · rename_i r x
      split at ef
      · rename_i hz
        obtain ⟨rfl, hx⟩ := hz
        cases ef
        obtain ⟨v1, v2, rfl, r1, r2⟩ := rvAll2 rs
        obtain ⟨t1, rfl⟩ := of_str r1
        obtain ⟨t2, rfl⟩ := of_str r2
        obtain ⟨f, hf⟩ := srch2_ex x.cps
        have hS2 : SrchOk c2 x.cps f := fun d hd => ⟨(hf d hd).1, fun r e q => by
          have hs := (hf d hd).2
          rw [q] at hs
          obtain ⟨h1, h2, _, _, h5⟩ := hs
          refine ⟨h1, ?_⟩
          by_cases hc : x.cps.getD r 0 = 13 ∧ r + 1 < x.cps.size ∧ x.cps.getD (r + 1) 0 = 10
          · rw [if_pos hc] at h5; have := hc.2.1; omega
          · rw [if_neg hc] at h5; omega⟩
        refine re_sub_call hS2 hx (by decide +kernel) (by decide +kernel) (P.keep (fun o e => ok.base _ _ e hp) fun o e => ok.base _ _ e hc) fun h' tk t' hk => h _ h' tk (.of_all ok.tab hk) ?_
        have e : subP f (Str.ofString "\r\n").cps.toList x.cps (x.cps.size + 1) 0 = eol2 x.cps.toList := by
          have e1 : (Str.ofString "\r\n").cps.toList = [13, 10] := by decide +kernel
          rw [e1, sub2_plain (fun d hd => (hf d hd).2) _ 0 (by omega) (Nat.zero_le _)]
          rfl
        rw [e]
        exact rv_str
      · cases ef
    · cases ef
theorem resub1 {x : Str} {p c : Addr} (hm : C.mg x = some (.ref p)) (P : PatAt C.hb p c c1) (hp : p ≠ C.tab) (hc : c ≠ C.tab) : ReSub C n x B_sub1 := by
  refine ⟨p, hm, fun h ok A s E Q pl hs hq => ?_, fun S A s vs ds d Q E ha ok hS rs ef h => ?_⟩
  · subst hs
    obtain ⟨d, t1, fl, t2, t3, t4, e⟩ := P.pat
    exact re_method (ok.base _ _ e hp) rfl rfl hq
  · unfold B_sub1 at ef
    split at ef
    · rename_i r x
      split at ef
      · rename_i hz
        obtain ⟨rfl, hx⟩ := hz
        cases ef
        obtain ⟨v1, v2, rfl, r1, r2⟩ := rvAll2 rs
        obtain ⟨t1, rfl⟩ := of_str r1
        obtain ⟨t2, rfl⟩ := of_str r2
        have hx' : x.cps.size ≤ 1000 := hx
        obtain ⟨f, hf⟩ := srch1_ex x.cps (by omega)
        have hS2 : SrchOk c1 x.cps f := fun d hd => ⟨(hf d hd).1, fun r e q => by
          have hs := (hf d hd).2
          rw [q] at hs
          obtain ⟨h1, h2, _, _, h5⟩ := hs
          omega⟩
        refine re_sub_call hS2 hx (by decide +kernel) (by decide +kernel) (P.keep (fun o e => ok.base _ _ e hp) fun o e => ok.base _ _ e hc) fun h' tk t' hk => h _ h' tk (.of_all ok.tab hk) ?_
        have e : subP f (Str.ofString "..").cps.toList x.cps (x.cps.size + 1) 0 = dot1 true x.cps.toList := by
          have e1 : (Str.ofString "..").cps.toList = [46, 46] := by decide +kernel
          rw [e1, sub1_plain (fun d hd => (hf d hd).2) _ 0 (by omega) (Nat.zero_le _)]
          rfl
        rw [e]
        exact rv_str
      · cases ef
    · cases ef
end
end Mine
end
section -- A1
open PySem PySem.Spec PySem.Calls PySem.W PyProof.Rows
set_option Elab.async false
set_option maxRecDepth 100000
namespace Mine

/-- a def of the module's in the heap -/
noncomputable def DefFact (hb : Heap) (a : Addr) (st : Stmt) (names : List Str) : Prop :=
  ∃ fo fd, hb.get? a = some fo ∧ fo.cls = .type "function" ∧ fo.data = .func fd ∧ fd.body = .stmts (bodyOf st) ∧ fd.scope = scopeOf st ∧ fd.closure = [] ∧ fd.globals = mainGlobals ∧ fd.builtins = builtinsNs ∧
    hb.CodeRec fd.code fd.qualname ∧ ∀ vs : List Value, vs.length = names.length → bindArgs fd ⟨vs, []⟩ = pure (names.zip vs)

structure Facts (hb : Heap) (mg mb : Str → Option Value) : Prop where
  g : hb.Ns mainGlobals mg
  b : hb.Ns builtinsNs mb
  nolimit : hb.NoLimit
  builtins : ∀ x : Str, x ≠ "__name__" → mb x = bootBuiltins x
  tab : hb.get? 33 = some (tabObj #[])
  code : CodeHd hb 37 33
  bmain : hb.BuiltinsAt mg 33
  n_len : mg (Str.ofString "len") = none
  n_sum : mg (Str.ofString "sum") = none
  n_sorted : mg (Str.ofString "sorted") = none
  n_range : mg (Str.ofString "range") = none
  n_isinstance : mg (Str.ofString "isinstance") = none
  n_tuple : mg (Str.ofString "tuple") = none
  m_crlf : ∃ t, mg (Str.ofString "CRLF") = some (.str (Str.ofString "\r\n") t)
  m_i2d : mg (Str.ofString "_int2digits") = some (.ref 38)
  m_cls : mg (Str.ofString "TupleComp") = some (.ref 62)
  m_addc : mg (Str.ofString "add_callers") = some (.ref 73)
  m_count : mg (Str.ofString "count_calls") = some (.ref 80)
  m_re1 : mg (Str.ofString "_twin_re_1") = some (.ref 85)
  m_re2 : mg (Str.ofString "_twin_re_2") = some (.ref 90)
  m_quote : mg (Str.ofString "quotedata") = some (.ref 97)
  m_fix : mg (Str.ofString "_fix_eols") = some (.ref 104)
  m_draw : mg (Str.ofString "_law_draw") = some (.ref 111)
  m_columns : mg (Str.ofString "_law_columns") = some (.ref 116)
  m_ways : mg (Str.ofString "_law_ways") = some (.ref 123)
  m_boxes : mg (Str.ofString "_law_boxes") = some (.ref 130)
  m_nost : mg (Str.ofString "_law_no_steeper") = some (.ref 137)
  i2dF : ∀ fo fd, hb.get? 38 = some fo → fo.data = .func fd → fd.code = .ref 37 ∧ fd.qualname = Str.ofString "_int2digits"
  d_i2d : DefFact hb 38 (topStmt 2) [Str.ofString "a", Str.ofString "n"]
  d_init : DefFact hb 52 (nthOf (bodyOf (topStmt 4)) 0) [Str.ofString "self", Str.ofString "comp_select_list"]
  d_compare : DefFact hb 59 (nthOf (bodyOf (topStmt 4)) 1) [Str.ofString "self", Str.ofString "left", Str.ofString "right"]
  d_addc : DefFact hb 73 (topStmt 5) [Str.ofString "target", Str.ofString "source"]
  d_count : DefFact hb 80 (topStmt 6) [Str.ofString "callers"]
  d_quote : DefFact hb 97 (topStmt 11) [Str.ofString "data"]
  d_fix : DefFact hb 104 (topStmt 12) [Str.ofString "data"]
  d_draw : DefFact hb 111 (topStmt 14) [Str.ofString "script", Str.ofString "place", Str.ofString "spare", Str.ofString "bound"]
  d_columns : DefFact hb 116 (topStmt 15) [Str.ofString "rows", Str.ofString "ends"]
  d_ways : DefFact hb 123 (topStmt 16) [Str.ofString "dots"]
  d_boxes : DefFact hb 130 (topStmt 17) [Str.ofString "number"]
  d_nost : DefFact hb 137 (topStmt 18) [Str.ofString "one", Str.ofString "other"]
  d_law : DefFact hb 142 (topStmt 19) [Str.ofString "script"]
  m_law : mg (Str.ofString "law") = some (.ref 142)
  pat1 : PatAt hb 85 84 c1
  pat2 : PatAt hb 90 89 c2
  cls : ∃ nm q bs sn sub col dd k0 k1 k2 k3 k5, hb.get? 62 = some (excClassObj nm q 62 61 bs [.type "object"] true sn sub false col dd k0 k1 k2 k3 k5 "object.__new__")
  clsNs : ∃ mN, hb.Ns 61 mN ∧ mN "__getattribute__" = none ∧ mN "__getattr__" = none ∧ mN "__setattr__" = none ∧ mN selKey = none ∧ mN "__init__" = some (.ref 52) ∧ mN (Str.ofString "compare") = some (.ref 59)

/-- the code table: empty, or with inner's code -/
noncomputable def TabIs (h : Heap) : Prop := CodeHd h 37 33 ∧ ((h.get? 33 = some (tabObj #[])) ∨
  ∃ c', h.get? 33 = some (tabObj #[rawInt 6, rawInt 4, .ref c']) ∧ ∃ o vs t, h.get? c' = some o ∧ o.cls = .type "code" ∧ o.data = .fields vs ∧ vs[1]? = some (.str (Str.ofString "_int2digits.<locals>.inner") t))
theorem tabIs_get (h : Heap) (t : TabIs h) : ∃ o vs, h.get? 33 = some o ∧ o.data = .fields vs ∧ o.cls = .none := by
  rcases t.2 with e | ⟨c', e, _⟩
  · exact ⟨_, _, e, rfl, rfl⟩
  · exact ⟨_, _, e, rfl, rfl⟩
theorem tabIs_keep (h h' : Heap) (t : TabIs h) (k : ∀ b o vs, h.get? b = some o → o.data = .fields vs → (o.cls = .none ∨ o.cls = .type "code") → h'.get? b = some o) : TabIs h' := by
  obtain ⟨⟨o, vs, file, tf, flags, tg, inF, text, tt, e1, e2, e3, r⟩, t2⟩ := t
  refine ⟨⟨o, vs, file, tf, flags, tg, inF, text, tt, k _ _ _ e1 e3 (.inr e2), e2, e3, r⟩, ?_⟩
  rcases t2 with e | ⟨c', e, o2, vs2, t, e4, e5, e6, e7⟩
  · exact .inl (k _ _ _ e rfl (.inl rfl))
  · exact .inr ⟨c', k _ _ _ e rfl (.inl rfl), o2, vs2, t, k _ _ _ e4 e6 (.inr e5), e5, e6, e7⟩

theorem ns_ne {h : Heap} {a : Addr} {m : Str → Option Value} (x : h.Ns a m) {ps : Array Value} (t : h.get? 33 = some (tabObj ps)) : a ≠ 33 := fun q => by
  obtain ⟨o, es, ep, e, hd, _⟩ := x
  rw [q, t] at e; cases e; cases hd

/-- the context of the call -/
noncomputable def theCx (prog : Program) (w : World) (hb : Heap) (mg mb : Str → Option Value) (X : Facts hb mg mb) : Cx where
  prog := prog
  w := w
  hb := hb
  tab := 33
  mg := mg
  mb := mb
  Tab := TabIs
  Ord := OrdAt 62 33
  tabGet := tabIs_get
  tabKeep := tabIs_keep
  ordKeep := ordAt_keep
  ordLt := ordAt_lt
  gl := X.g
  bl := X.b
  glTab := ns_ne X.g X.tab
  blTab := ns_ne X.b X.tab
  lim := fun h k => by
    obtain ⟨mc, a, r⟩ := X.nolimit
    exact ⟨mc, a.at' fun o e => k _ o e (ns_ne a X.tab), r⟩

variable {prog : Program} {w : World} {hb : Heap} {mg mb : Str → Option Value} (X : Facts hb mg mb) {n : Nat}

theorem gcx_of : GCx (theCx prog w hb mg mb X) where
  g_len := X.n_len
  b_len := (X.builtins _ (by decide)).trans PyProof.Rows.Boot.«len»
  g_sum := X.n_sum
  b_sum := (X.builtins _ (by decide)).trans PyProof.Rows.Boot.«sum»
  g_sorted := X.n_sorted
  b_sorted := (X.builtins _ (by decide)).trans PyProof.Rows.Boot.«sorted»
  g_range := X.n_range
  b_range := (X.builtins _ (by decide)).trans PyProof.Rows.Boot.«range»
  g_isinstance := X.n_isinstance
  b_isinstance := (X.builtins _ (by decide)).trans PyProof.Rows.Boot.«isinstance»
  g_tuple := X.n_tuple
  b_tuple := (X.builtins _ (by decide)).trans PyProof.Rows.Boot.«tuple»
  crlf := X.m_crlf

theorem codeRec_ne {h : Heap} {cd : Value} {q : Str} (x : h.CodeRec cd q) (t : h.get? 33 = some (tabObj #[])) : ∃ c, cd = .ref c ∧ c ≠ 33 := by
  obtain ⟨c, o, vs, tk, rfl, e, hd, hv⟩ := x
  refine ⟨c, rfl, fun q => ?_⟩
  rw [q, t] at e; cases e; cases hd; simp at hv
theorem codeRec_ok {h : Heap} {cd : Value} {q : Str} (x : hb.CodeRec cd q) (ok : HOk (theCx prog w hb mg mb X) h) : h.CodeRec cd q := by
  obtain ⟨c', e', ne⟩ := codeRec_ne x X.tab
  obtain ⟨c, o, vs, tk, hc, e, r⟩ := x
  have hcc : c = c' := by rw [hc] at e'; exact Value.ref.inj e'
  exact ⟨c, o, vs, tk, hc, ok.base _ _ e (hcc ▸ ne), r⟩

theorem defIn_of {x : Str} {a : Addr} {st : Stmt} {names : List Str} (m : mg x = some (.ref a)) (d : DefFact hb a st names) : DefIn (theCx prog w hb mg mb X) x a := by
  obtain ⟨fo, fd, e, c, dd, _⟩ := d
  refine ⟨m, ⟨fo, fd, e, dd⟩, fun q => ?_⟩
  rw [q] at e
  have := X.tab.symm.trans e
  cases this; cases c

/-- a def without cells is what its body is -/
theorem fs_of {a : Addr} {st : Stmt} {names τ : List Str} {F : G → List Nat → Option Res} (d : DefFact hb a st names) (hnd : names.Nodup) (hτ : ∀ (i : Nat) (x : Str), names[i]? = some x → τ[i]? = some x)
    (hcell : ((scopeOf st).names.all fun x => x.2 != .cell) = true) (hloc : (names.all fun x => kOf st x == some .local) = true) (hco : (scopeOf st).isCoroutine = false) (hgen : (scopeOf st).isGenerator = false) (hk : (scopeOf st).kind = .function)
    (hF : SS (theCx prog w hb mg mb X) τ (kOf st) n (bodyOf st) F) : FS (theCx prog w hb mg mb X) (n + 1) (.ref a) (runF names.length F) := by
  obtain ⟨fo, fd, e, c, dd, hbody, hsc, hcl, hgl, hbl, hcd, hbind⟩ := d
  have ne : a ≠ 33 := fun q => by
    rw [q] at e
    have := X.tab.symm.trans e
    cases this; cases c
  refine fs_def (C := theCx prog w hb mg mb X) e ne dd hbody (fun h ok => codeRec_ok X hcd ok) (fun s vs hl => .of_eq (hbind vs hl)) hnd hτ (fun x hx => ?_) (fun x hx => ?_) hcl hgl hbl (by rw [hsc]; exact hco) (by rw [hsc]; exact hgen) (by rw [hsc]; exact hk) (fun x => by rw [hsc]; rfl) hF
  · rw [hsc] at hx
    have := List.all_eq_true.mp hcell x hx
    simpa using this
  · rw [hsc]
    have := List.all_eq_true.mp hloc x hx
    exact eq_of_beq this
theorem fs_ofC {a : Addr} {st : Stmt} {names τ : List Str} {F : G → List Nat → Option Res} (d : DefFact hb a st names) (hnd : names.Nodup) (hτ : ∀ (i : Nat) (x : Str), names[i]? = some x → τ[i]? = some x)
    (hcn : ((cellsFrom 0 (scopeOf st).names []).map (·.1)).Nodup) (hloc : (names.all fun x => kOf st x == some .local || kOf st x == some .cell) = true) (hco : (scopeOf st).isCoroutine = false) (hgen : (scopeOf st).isGenerator = false) (hk : (scopeOf st).kind = .function)
    (hF : SS (theCx prog w hb mg mb X) τ (kOf st) n (bodyOf st) F) : FS (theCx prog w hb mg mb X) (n + 1) (.ref a) (runF names.length F) := by
  obtain ⟨fo, fd, e, c, dd, hbody, hsc, hcl, hgl, hbl, hcd, hbind⟩ := d
  have ne : a ≠ 33 := fun q => by
    rw [q] at e
    have := X.tab.symm.trans e
    cases this; cases c
  refine fs_defC (C := theCx prog w hb mg mb X) e ne dd hbody (fun h ok => codeRec_ok X hcd ok) (fun vs hl => hbind vs hl) hnd hτ (fun x hx => ?_) (by rw [hsc]; exact hcn) hcl hgl hbl (by rw [hsc]; exact hco) (by rw [hsc]; exact hgen) (by rw [hsc]; exact hk) (fun x => by rw [hsc]; rfl) hF
  rw [hsc]
  have := List.all_eq_true.mp hloc x hx
  rw [Bool.or_eq_true] at this
  rcases this with q | q
  · exact .inl (eq_of_beq q)
  · exact .inr (eq_of_beq q)

theorem fs_draw : FS (theCx prog w hb mg mb X) 3 (.ref 111) B_draw := fs_of X (τ := τ_draw) X.d_draw (by decide +kernel) (fun i x h => by revert h; match i with | 0 | 1 | 2 | 3 => exact id | _ + 4 => intro h; cases h) (by decide +kernel) (by decide +kernel) rfl rfl rfl (ss_draw (gcx_of X))
end Mine
end
section -- J1
open PySem PySem.Spec PySem.Calls PySem.W PyProof.Rows
set_option Elab.async false
set_option maxRecDepth 100000
namespace Mine
variable {C : Cx} {τ τ' : List Str} {κ : Str → Option NameKind} {n : Nat}

/-- an owned object is changed by a call -/
theorem RelS.mutK {S₀ W : List Addr} {env : Env} {Γ : G} {own : Own} {h h' : Heap} {i : Nat} {a : Addr} {d d' : DV} (r : RelS C τ S₀ W env Γ own h) (hg : Γ i = some d) (ho : own.lookup i = some a) (k : Keep C [a] h h')
    (hmu : ∃ o, h'.get? a = some o ∧ Mut o) (ro : RvO C (S₀ ++ Mset W own) h' a d') : RelS C τ S₀ W env (gset Γ i d') own h' := by
  have ha : a ∈ Mset W own := own_in (lookup_mem ho)
  have nd := r.nd
  unfold Mset at nd
  rw [List.nodup_append] at nd
  have ain : a ∈ own.map (·.2) := List.mem_map.mpr ⟨_, lookup_mem ho, rfl⟩
  have hm : ∀ b ∈ [a], ∀ o, h.get? b = some o → NotFix o := notFix_of fun b hb => by rw [List.mem_singleton.mp hb]; exact r.mt a ha
  have hsub : ∀ b ∈ [a], b ∈ S₀ ++ Mset W own := fun b hb => by rw [List.mem_singleton.mp hb]; exact List.mem_append_right _ ha
  have ces : ∀ {c : Addr} {w : Option Value} {y : Str}, env.cells.lookup y = some c → h.IsCell c w → h'.IsCell c w := fun {c w y} hl hcl => by
    obtain ⟨o, e, hd⟩ := hcl
    exact ⟨o, k.get c o e (fun q => r.cell_ne hl ain (List.mem_singleton.mp q)) (tab_ne r.ok.tab e fun _ q => by rw [hd] at q; cases q), hd⟩
  obtain ⟨m, hn, hv⟩ := r.loc
  have hns : h'.Ns env.locals m := by
    obtain ⟨o, es, ep, e, hd, q⟩ := hn
    exact ⟨o, es, ep, k.get _ o e (fun x => nd.2.2 _ r.wl a ain (List.mem_singleton.mp x)) (tab_ne r.ok.tab e fun _ q => by rw [hd] at q; cases q), hd, q⟩
  refine ⟨r.ok.keep k fun b hb => by rw [List.mem_singleton.mp hb]; exact (r.low a ha).1, fun b hb => let ⟨o, e⟩ := r.lt₀ b hb; k.live b o e, r.dis, r.low, fun b hb => ?_, r.nd, r.wl, r.wc, r.ce, r.cnd,
    fun x c e => let ⟨v, hc⟩ := r.cells x c e; ⟨v, ces e hc⟩, m, hns, fun j dj ej => ?_⟩
  · by_cases q : b = a
    · subst q; exact hmu
    · obtain ⟨o, e, hmm⟩ := r.mt b hb
      exact ⟨o, k.get b o e (fun x => q (List.mem_singleton.mp x)) (tab_ne r.ok.tab e hmm.no_fields), hmm⟩
  · unfold gset at ej
    by_cases hj : j = i
    · subst hj
      rw [if_pos rfl] at ej
      cases ej
      obtain ⟨y, u, ey, at_, kn⟩ := hv j d hg
      rw [ho] at kn ⊢
      exact ⟨y, u, ey, at_.keep' fun c w hl hcl => ces hl hcl, kn.1, ro⟩
    · rw [if_neg hj] at ej
      obtain ⟨y, u, ey, at_, kn⟩ := hv j dj ej
      refine ⟨y, u, ey, at_.keep' fun c w hl hcl => ces hl hcl, ?_⟩
      cases q : own.lookup j with
      | none => rw [q] at kn; exact Rv.keep k.get r.ok.tab hm hsub kn
      | some c => rw [q] at kn; exact ⟨kn.1, kn.2.keep k.get r.ok.tab hm hsub fun x => own_ne nd.2.1 ho q hj (List.mem_singleton.mp x)⟩

noncomputable def stIn : Stmt := nthOf (bodyOf (topStmt 2)) 1
noncomputable abbrev inNames : List Str := [Str.ofString "x", Str.ofString "L", Str.ofString "R"]
noncomputable def τ_in : List Str := [Str.ofString "x", Str.ofString "L", Str.ofString "R", Str.ofString "mid", Str.ofString "shift", Str.ofString "upper", Str.ofString "lower", Str.ofString "a_digits", Str.ofString "n"]
theorem ap_in : Apart τ_in := apart_of (by decide +kernel)

/-- the def inner: what does not change -/
structure Inn (C : Cx) (f D cD cN cI : Addr) (fd : FuncData) : Prop where
  body : fd.body = .stmts (bodyOf stIn)
  scope : fd.scope = scopeOf stIn
  gl : fd.globals = mainGlobals
  bl : fd.builtins = builtinsNs
  bind : ∀ (s : Shared) (vs : List Value), vs.length = inNames.length → BindsTo s fd ⟨vs, []⟩ (inNames.zip vs)
  cl_D : fd.closure.lookup (Str.ofString "a_digits") = some cD
  cl_N : fd.closure.lookup (Str.ofString "n") = some cN
  cl_I : fd.closure.lookup (Str.ofString "inner") = some cI
  cl : ∀ x c, fd.closure.lookup x = some c → (c = cD ∨ c = cN ∨ c = cI) ∧ kOf stIn x = some .free
  code : ∃ c, fd.code = .ref c ∧ c ≠ C.tab
  low : Above C D

/-- what the heap holds of it -/
structure InnH (C : Cx) (f D cD cN cI : Addr) (fd : FuncData) (h : Heap) (xs : List Int) : Prop where
  ok : HOk C h
  fn : ∃ o, h.get? f = some o ∧ o.data = .func fd
  kD : h.IsCell cD (some (.ref D))
  kN : ∃ t, h.IsCell cN (some (.int 3 t))
  kI : h.IsCell cI (some (.ref f))
  cd : h.CodeRec fd.code fd.qualname
  dig : ∃ vs k, h.get? D = some (lobj vs k) ∧ RdAll h vs.toList (xs.map .int) []

theorem cell_get {h h' : Heap} {D c : Addr} {v : Option Value} {vs : Array Value} {k : Nat} (t : C.Tab h) (e : h.get? D = some (lobj vs k)) (hk : ∀ b o, h.get? b = some o → b ≠ D → b ≠ C.tab → h'.get? b = some o) (x : h.IsCell c v) : h'.IsCell c v := by
  obtain ⟨o, e2, hd⟩ := x
  refine ⟨o, hk _ _ e2 (fun q => ?_) (tab_ne t e2 fun _ q => by rw [hd] at q; cases q), hd⟩
  rw [q, e] at e2; cases e2; cases hd
theorem InnH.step {f D cD cN cI : Addr} {fd : FuncData} {h h' : Heap} {xs ys : List Int} (I : Inn C f D cD cN cI fd) (x : InnH C f D cD cN cI fd h xs) (hk : ∀ b o, h.get? b = some o → b ≠ D → b ≠ C.tab → h'.get? b = some o) (ok : HOk C h')
    (dig : ∃ vs k, h'.get? D = some (lobj vs k) ∧ RdAll h' vs.toList (ys.map .int) []) : InnH C f D cD cN cI fd h' ys := by
  obtain ⟨vs, k, e, _⟩ := x.dig
  refine ⟨ok, ?_, cell_get x.ok.tab e hk x.kD, let ⟨t, q⟩ := x.kN; ⟨t, cell_get x.ok.tab e hk q⟩, cell_get x.ok.tab e hk x.kI, ?_, dig⟩
  · obtain ⟨o, e2, hd⟩ := x.fn
    refine ⟨o, hk _ _ e2 (fun q => ?_) (tab_ne x.ok.tab e2 fun _ q => by rw [hd] at q; cases q), hd⟩
    rw [q, e] at e2; cases e2; cases hd
  · obtain ⟨c, o, vs2, t, e1, e2, e3, e4⟩ := x.cd
    obtain ⟨c2, e5, ne⟩ := I.code
    rw [e5] at e1; cases e1
    refine ⟨c, o, vs2, t, e5, hk _ _ e2 (fun q => ?_) ne, e3, e4⟩
    rw [q, e] at e2; cases e2; cases e3

/-- the ints of a list -/
theorem ints_foot {h : Heap} : ∀ {vs : List Value} {xs : List Int} {as : List Addr}, RdAll h vs (xs.map .int) as → as = []
  | _, [], _, .nil => rfl
  | _, _ :: _, _, .cons (.int _ _) rs => by rw [ints_foot rs]; rfl
theorem rdAll_inH {h h' : Heap} : ∀ {vs : List Value} {xs : List Int} {as : List Addr}, RdAll h vs (xs.map .int) as → RdAll h' vs (xs.map .int) []
  | _, [], _, .nil => .nil
  | _, _ :: _, _, .cons (.int i t) rs => .cons (as := []) (.int i t) (rdAll_inH rs)

noncomputable def gIn (x L R : Int) (xs : List Int) : G := fun i => match i with
  | 0 => some (dint x)
  | 1 => some (dint L)
  | 2 => some (dint R)
  | 7 => some (.p (.list (xs.map .int)))
  | 8 => some (dint 3)
  | _ => none
noncomputable abbrev cInt (i : Int) : G → Option DV := fun _ => some (dint i)

theorem inner_rel {f D cD cN cI : Addr} {fd : FuncData} (I : Inn C f D cD cN cI fd) {s : Shared} {xs : List Int} {vs : List Value} {x L R : Int} {tx tL tR : Tok} (ev : vs = [.int x tx, .int L tL, .int R tR]) (H : InnH C f D cD cN cI fd s.heap xs) {h₀ : Heap}
    (hns : h₀.Ns s.heap.objs.size fun x => List.lookup x (inNames.zip vs).reverse) (hk : ∀ b o, s.heap.get? b = some o → h₀.get? b = some o) :
    RelS C τ_in [cD, cN, cI] [s.heap.objs.size] (callEnv fd s.heap.objs.size f) (gIn x L R xs) [(7, D)] h₀ := by
  subst ev
  have k₀ : Keep C [] s.heap h₀ := .of_all H.ok.tab hk
  have fresh : s.heap.get? s.heap.objs.size = none := get_fresh _
  have hM : Mset [s.heap.objs.size] [(7, D)] = [s.heap.objs.size, D] := rfl
  have hkn : ∀ x, (callEnv fd s.heap.objs.size f).kindOf x = kOf stIn x := fun x => by show fd.scope.names.lookup x = _; rw [I.scope]; rfl
  obtain ⟨dv, dk, eD, rD⟩ := H.dig
  have liveC : ∀ b ∈ [cD, cN, cI], ∃ o v, s.heap.get? b = some o ∧ o.data = .cell v := fun b hb => by
    simp only [List.mem_cons, List.not_mem_nil, or_false] at hb
    rcases hb with rfl | rfl | rfl
    · obtain ⟨o, e, d⟩ := H.kD; exact ⟨o, _, e, d⟩
    · obtain ⟨t, o, e, d⟩ := H.kN; exact ⟨o, _, e, d⟩
    · obtain ⟨o, e, d⟩ := H.kI; exact ⟨o, _, e, d⟩
  have inC : ∀ x c, fd.closure.lookup x = some c → c ∈ [cD, cN, cI] := fun x c e => by
    rcases (I.cl x c e).1 with rfl | rfl | rfl
    · exact .head _
    · exact .tail _ (.head _)
    · exact .tail _ (.tail _ (.head _))
  refine ⟨H.ok.pure k₀, fun b hb => ?_, fun b hb q => ?_, fun b hb => ?_, fun b hb => ?_, ?_, .head _, fun x c e => .inr ⟨inC x c e, .inr ((hkn x).trans (I.cl x c e).2)⟩, fun x e => ?_, fun x y c hc e => ?_, fun x c e => ?_, ?_⟩
  · obtain ⟨o, v, e, _⟩ := liveC b hb; exact ⟨o, hk _ _ e⟩
  · rw [hM] at q
    obtain ⟨o, v, e, d⟩ := liveC b hb
    simp only [List.mem_cons, List.not_mem_nil, or_false] at q
    rcases q with rfl | rfl
    · rw [fresh] at e; cases e
    · rw [eD] at e; cases e; cases d
  · rw [hM] at hb
    simp only [List.mem_cons, List.not_mem_nil, or_false] at hb
    rcases hb with rfl | rfl
    · exact above_of H.ok (Nat.le_refl _)
    · exact I.low
  · rw [hM] at hb
    simp only [List.mem_cons, List.not_mem_nil, or_false] at hb
    rcases hb with rfl | rfl
    · obtain ⟨o, es, ep, e, hd, _⟩ := hns
      exact ⟨o, e, .inl ⟨es, ep, hd⟩⟩
    · exact ⟨_, hk _ _ eD, .inr (.inr ⟨_, _, rfl⟩)⟩
  · rw [hM]
    refine List.nodup_cons.mpr ⟨fun q => ?_, List.nodup_cons.mpr ⟨List.not_mem_nil, List.nodup_nil⟩⟩
    rw [← List.mem_singleton.mp q, fresh] at eD; cases eD
  · exfalso
    rw [hkn] at e
    have : ∀ p ∈ (scopeOf stIn).names, p.2 ≠ .cell := by decide +kernel
    exact this _ (mem_of_lookup e) rfl
  · obtain ⟨o, v, e1, _⟩ := liveC c (inC x c e)
    rw [List.mem_singleton.mp hc, fresh] at e1; cases e1
  · obtain ⟨o, v, e1, d⟩ := liveC c (inC x c e)
    exact ⟨v, o, hk _ _ e1, d⟩
  · refine ⟨_, hns, fun i d e => ?_⟩
    unfold gIn at e
    split at e
    · cases e; exact ⟨Str.ofString "x", .int x tx, rfl, .inl ⟨(hkn _).trans rfl, by kernel_rfl⟩, known_rv (C := C) rv_int⟩
    · cases e; exact ⟨Str.ofString "L", .int L tL, rfl, .inl ⟨(hkn _).trans rfl, by kernel_rfl⟩, known_rv (C := C) rv_int⟩
    · cases e; exact ⟨Str.ofString "R", .int R tR, rfl, .inl ⟨(hkn _).trans rfl, by kernel_rfl⟩, known_rv (C := C) rv_int⟩
    · cases e
      refine ⟨Str.ofString "a_digits", .ref D, rfl, .inr ⟨.inr ((hkn _).trans rfl), cD, I.cl_D, ?_⟩, rfl, dv, dk, [], hk _ _ eD, rdAll_inH rD, fun _ hb => nomatch hb⟩
      obtain ⟨o, e, d⟩ := H.kD; exact ⟨o, hk _ _ e, d⟩
    · cases e
      obtain ⟨t, o, e, d⟩ := H.kN
      exact ⟨Str.ofString "n", .int 3 t, rfl, .inr ⟨.inr ((hkn _).trans rfl), cN, I.cl_N, ⟨o, hk _ _ e, d⟩⟩, known_rv (C := C) rv_int⟩
    · cases e
end Mine
end
section -- J2
open PySem PySem.Spec PySem.Calls PySem.W PyProof.Rows
set_option Elab.async false
set_option maxRecDepth 100000
namespace Mine
variable {C : Cx} {τ τ' : List Str} {κ : Str → Option NameKind} {n : Nat}

noncomputable def ifTest : Stmt → Expr
  | .If t _ _ _ => t
  | _ => .Constant .none 0 ⟨0, 0, 0, 0⟩
noncomputable def ifBody : Stmt → List Stmt
  | .If _ b _ _ => b
  | _ => []
noncomputable def fInT : G → Option Bool := fun Γ => asB (op2 oEq (op2 oAdd (gv 1) (cInt 1)) (gv 2) Γ)
theorem in_test (hn : 1 ≤ n) : SB C τ_in (kOf stIn) n (ifTest (nthOf (bodyOf stIn) 0)) fInT :=
  sb_cmp (se_bin (se_name 1 rfl) se_int op_add) (se_name 2 rfl) (op_eq hn) rfl
theorem in_set : S1 C τ_in (kOf stIn) n (nthOf (ifBody (nthOf (bodyOf stIn) 0)) 0) (fSetL 7 (gv 1) (gv 0)) :=
  s1_setL 7 rfl (se_name 1 rfl) (se_name 0 rfl) rfl rfl (fun _ => rfl)
noncomputable def fMid : G → Option DV := op2 oShr (op2 oAdd (gv 1) (gv 2)) (cInt 1)
noncomputable def fShift : G → Option DV := op2 oMulS (op2 oSub_ (gv 3) (gv 1)) (gv 8)
noncomputable def fUpper : G → Option DV := op2 oShr (gv 0) (gv 4)
noncomputable def fLower : G → Option DV := op2 oXor (gv 0) (op2 oShl (gv 5) (gv 4))
theorem in_mid : S1 C τ_in (kOf stIn) n (nthOf (bodyOf stIn) 1) (fAssign 3 fMid) :=
  s1_assign ap_in 3 rfl (se_bin (se_bin (se_name 1 rfl) (se_name 2 rfl) op_add) se_int op_shr) (.inl rfl) (fun _ _ => rfl)
theorem in_shift : S1 C τ_in (kOf stIn) n (nthOf (bodyOf stIn) 2) (fAssign 4 fShift) :=
  s1_assign ap_in 4 rfl (se_bin (se_bin (se_name 3 rfl) (se_name 1 rfl) op_sub) (se_name 8 rfl) op_mulS) (.inl rfl) (fun _ _ => rfl)
theorem in_upper : S1 C τ_in (kOf stIn) n (nthOf (bodyOf stIn) 3) (fAssign 5 fUpper) :=
  s1_assign ap_in 5 rfl (se_bin (se_name 0 rfl) (se_name 4 rfl) op_shr) (.inl rfl) (fun _ _ => rfl)
theorem in_lower : S1 C τ_in (kOf stIn) n (nthOf (bodyOf stIn) 4) (fAssign 6 fLower) :=
  s1_assign ap_in 6 rfl (se_bin (se_name 0 rfl) (se_bin (se_name 5 rfl) (se_name 4 rfl) op_shl) op_xor) (.inl rfl) (fun _ _ => rfl)
noncomputable def cFn : Expr → Expr
  | .Call f _ _ _ => f
  | e => e
noncomputable def cArgs : Expr → List Expr
  | .Call _ a _ _ => a
  | _ => []
noncomputable def exprOf : Stmt → Expr
  | .Expr e _ => e
  | _ => .Constant .none 0 ⟨0, 0, 0, 0⟩
theorem in_args1 : SEs C τ_in (kOf stIn) n (cArgs (exprOf (nthOf (bodyOf stIn) 5))) (fcons (gv 6) (fcons (gv 1) (fcons (gv 3) fnil))) :=
  ses_cons (se_name 6 rfl) (ses_cons (se_name 1 rfl) (ses_cons (se_name 3 rfl) ses_nil (fun _ => rfl)) (fun _ => rfl)) (fun _ => rfl)
theorem in_args2 : SEs C τ_in (kOf stIn) n (cArgs (exprOf (nthOf (bodyOf stIn) 6))) (fcons (gv 5) (fcons (gv 3) (fcons (gv 2) fnil))) :=
  ses_cons (se_name 5 rfl) (ses_cons (se_name 3 rfl) (ses_cons (se_name 2 rfl) ses_nil (fun _ => rfl)) (fun _ => rfl)) (fun _ => rfl)
theorem in_body : bodyOf stIn = [nthOf (bodyOf stIn) 0, nthOf (bodyOf stIn) 1, nthOf (bodyOf stIn) 2, nthOf (bodyOf stIn) 3, nthOf (bodyOf stIn) 4, nthOf (bodyOf stIn) 5, nthOf (bodyOf stIn) 6] := rfl
theorem in_if : ∃ p, nthOf (bodyOf stIn) 0 = .If (ifTest (nthOf (bodyOf stIn) 0)) (ifBody (nthOf (bodyOf stIn) 0)) [] p := ⟨_, rfl⟩
theorem in_ifbody : ∃ p, ifBody (nthOf (bodyOf stIn) 0) = [nthOf (ifBody (nthOf (bodyOf stIn) 0)) 0, .Return none p] := ⟨_, rfl⟩

/-- what a call of inner does -/
noncomputable def InnFS (C : Cx) (f D cD cN cI : Addr) (fd : FuncData) (m : Nat) : Prop :=
  ∀ (A : Around) (s : Shared) (x L R : Int) (tx tL tR : Tok) (xs ys : List Int) (Q : Value → Shared → Prop) (E : Value → Shared → Prop),
    AOk (m + 1) A → InnH C f D cD cN cI fd s.heap xs → innerP m x L R xs = some ys →
    (∀ h' tk, Keep C [D] s.heap h' → InnH C f D cD cN cI fd h' ys → Q .none { s with heap := h', toks := tk }) →
    wpAny (model C.prog C.w) A (call (.ref f) [.int x tx, .int L tL, .int R tR]) Q E s

theorem inn_fnEnv {f D cD cN cI : Addr} {fd : FuncData} (I : Inn C f D cD cN cI fd) (L : Addr) : FnS (kOf stIn) (callEnv fd L f) :=
  ⟨⟨by show fd.scope.kind = _; rw [I.scope]; rfl, I.gl, I.bl, fun x => by show fd.scope.names.lookup x = _; rw [I.scope]; rfl⟩, fun q => nomatch q⟩

theorem inn_call {f D cD cN cI : Addr} {fd : FuncData} (I : Inn C f D cD cN cI fd) {m : Nat} (ih : InnFS C f D cD cN cI fd m) {A : Around} {s : Shared} {W : List Addr} {own : Own} {Γ : G} {Lc : Addr} {x L R : Int} {xs ys : List Int} {Q : Flow → Shared → Prop} {E : Value → Shared → Prop}
    {e : Expr} {es : List Expr} {p cpos pos : Pos} {fg : G → Option (List DV)} (hes : SEs C τ_in (kOf stIn) (m + 1) (e :: es) fg)
    (hst : ∀ env, starEach (e :: es) env = (false, eval e env) :: starEach es env) (hpl : ∀ env, (backTo cpos (starEach es env)).any (·.1) = false)
    (hev : ∀ env, eval (.Call (.Name (Str.ofString "inner") p) (e :: es) [] cpos) env = (do callWith cpos (← eval (.Name (Str.ofString "inner") p) env) [] (backTo cpos (starEach (e :: es) env)) (backToKw cpos (keywordEach [] env))))
    (hsw : ∀ env, swapsWith (.Call (.Name (Str.ofString "inner") p) (e :: es) [] cpos) none pos.line env = pure false) (hint : interactive (callEnv fd Lc f) = false)
    (ha : AOk (m + 1) A) (re : RelS C τ_in [cD, cN, cI] W (callEnv fd Lc f) Γ own s.heap) (H : InnH C f D cD cN cI fd s.heap xs) (hg : Γ 7 = some (.p (.list (xs.map .int)))) (ho : own.lookup 7 = some D)
    (hargs : fg Γ = some [dint x, dint L, dint R]) (hP : innerP m x L R xs = some ys)
    (h : ∀ h' tk, RelS C τ_in [cD, cN, cI] W (callEnv fd Lc f) (gset Γ 7 (.p (.list (ys.map .int)))) own h' → InnH C f D cD cN cI fd h' ys → Keep C [D] s.heap h' → Q .next { s with heap := h', toks := tk }) :
    wpAny (model C.prog C.w) A (exec (.Expr (.Call (.Name (Str.ofString "inner") p) (e :: es) [] cpos) pos) (callEnv fd Lc f)) Q E s := by
  have fe := inn_fnEnv I Lc
  refine wpAny_Expr ?_ hint (hsw _)
  refine Call_ ?_ (hev _)
  refine wpAny_Name (wpAny_loadName_free fe.toFnEnv.kind ((fe.toFnEnv.is _).trans rfl) I.cl_I H.kI ?_ rfl) rfl
  have hb := hes (callEnv fd Lc f) _ A s Γ cpos _ (fun vs s₁ => (∃ o, s₁.heap.get? f = some o ∧ o.data = .func fd) ∧ wpAny (model C.prog C.w) A (call (.ref f) vs) (fun v s' => match v with | .ref a => False | x => Q Flow.next s') E s₁) E ha fe.toFnEnv re.rel hargs fun vs h₁ tk₁ k₁ rs => by
    have H₁ : InnH C f D cD cN cI fd h₁ xs := H.step I (fun b o e _ ht => k₁.get b o e (fun q => nomatch q) ht) (H.ok.pure k₁) (by
      obtain ⟨dv, dk, e, r⟩ := H.dig
      exact ⟨dv, dk, k₁.get _ _ e (fun q => nomatch q) (tab_ne H.ok.tab e fun _ q => nomatch q), rdAll_inH r⟩)
    refine ⟨H₁.fn, ?_⟩
    obtain ⟨v1, v2, v3, rfl, r1, r2, r3⟩ := rvAll3 rs
    obtain ⟨t1, rfl⟩ := of_int r1
    obtain ⟨t2, rfl⟩ := of_int r2
    obtain ⟨t3, rfl⟩ := of_int r3
    refine ih A _ x L R t1 t2 t3 xs ys _ E ha H₁ hP fun h₂ tk₂ k₂ H₂ => ?_
    obtain ⟨dv, dk, eD, rD⟩ := H₂.dig
    have re₂ := (re.pure k₁).mutK (d' := .p (.list (ys.map .int))) hg ho k₂ ⟨_, eD, .inr (.inr ⟨_, _, rfl⟩)⟩ ⟨dv, dk, [], eD, rD, fun _ hb => nomatch hb⟩
    exact h h₂ tk₂ re₂ H₂ (k₁.nil.trans k₂)
  rw [hst] at hb ⊢
  refine callWith_of (P := fun h => ∃ o, h.get? f = some o ∧ o.data = .func fd) ?_ (fun h' ex => ⟨.frame, .inl rfl, ?_⟩) (Calls.evalArgs_plain hb)
  · show ((false || (backTo cpos (starEach es (callEnv fd Lc f))).any (·.1)) || false) = false
    rw [hpl]; rfl
  · obtain ⟨⟨c0, d0, dt0, s0⟩, e', hd⟩ := ex
    cases hd
    exact (Looks.ld (part := none) e').andThen .now
end Mine
end
section -- J3
open PySem PySem.Spec PySem.Calls PySem.W PyProof.Rows
set_option Elab.async false
set_option maxRecDepth 100000
namespace Mine
variable {C : Cx} {τ τ' : List Str} {κ : Str → Option NameKind} {n : Nat}

theorem out_keep {h h₀ h' : Heap} {Lc D : Addr} (t : C.Tab h) (fresh : h.get? Lc = none) (hk : ∀ b o, h.get? b = some o → h₀.get? b = some o) (k : Keep C (Mset [Lc] [(7, D)]) h₀ h') : Keep C [D] h h' := by
  refine ⟨fun b o e hb ht => k.get b o (hk b o e) (fun q => ?_) ht, fun b o e => k.live b o (hk b o e), k.tab⟩
  have hM : Mset [Lc] [(7, D)] = [Lc, D] := rfl
  rw [hM] at q
  simp only [List.mem_cons, List.not_mem_nil, or_false] at q hb
  rcases q with rfl | q
  · rw [fresh] at e; cases e
  · exact hb q
theorem own_D {f D cD cN cI Lc : Addr} {fd : FuncData} (I : Inn C f D cD cN cI fd) {W : List Addr} {Γ : G} {own : Own} {h : Heap} {ys : List Int} (re : RelS C τ_in [cD, cN, cI] W (callEnv fd Lc f) Γ own h) (hΓ : Γ 7 = some (.p (.list (ys.map .int)))) (keys : own.map (·.1) = [7])
    (kD : h.IsCell cD (some (.ref D))) : own.lookup 7 = some D ∧ ∃ vs k, h.get? D = some (lobj vs k) ∧ RdAll h vs.toList (ys.map .int) [] := by
  obtain ⟨a, hl, ro, m, x, hn, ex, at_⟩ := known_own re hΓ (by rw [keys]; rfl)
  cases ex
  have fe := inn_fnEnv I Lc
  have e : a = D := by
    rcases at_ with ⟨k1, _⟩ | ⟨_, c, k2, k3⟩
    · rw [fe.toFnEnv.is] at k1; exact absurd k1 (by decide +kernel)
    · have k2' : fd.closure.lookup (Str.ofString "a_digits") = some c := k2
      rw [I.cl_D] at k2'; cases k2'
      obtain ⟨o, e1, d1⟩ := k3
      obtain ⟨o2, e2, d2⟩ := kD
      rw [e1] at e2; cases e2; rw [d1] at d2; cases d2; rfl
  subst e
  obtain ⟨vs, k, as, e1, r, _⟩ := ro
  exact ⟨hl, vs, k, e1, rdAll_inH r⟩

theorem fInT_eq {x L R : Int} {xs : List Int} : fInT (gIn x L R xs) = some (L + 1 == R) := rfl
theorem in_e1 {x L R : Int} {xs : List Int} : fAssign 3 fMid (gIn x L R xs) [7] = some (.next (gset (gIn x L R xs) 3 (dint ((L + R).fdiv 2))) [7]) := rfl
theorem in_e2 {x L R mid : Int} {xs : List Int} (h0 : 0 ≤ mid - L) (h1 : mid - L < 300) : fAssign 4 fShift (gset (gIn x L R xs) 3 (dint mid)) [7] = some (.next (gset (gset (gIn x L R xs) 3 (dint mid)) 4 (dint ((mid - L) * 3))) [7]) := by
  have e : fShift (gdrop (gset (gIn x L R xs) 3 (dint mid)) [7]) = some (dint ((mid - L) * 3)) := by
    show (if 0 ≤ mid - L ∧ mid - L < 2 ^ 30 ∧ (0 : Int) ≤ 3 ∧ (3 : Int) < 2 ^ 30 then some (dint ((mid - L) * 3)) else none) = _
    rw [if_pos ⟨h0, by omega, by omega, by omega⟩]
  unfold fAssign evA
  rw [e]; rfl
theorem in_e3 {x L R mid sh : Int} {xs : List Int} (h0 : 0 ≤ sh) : fAssign 5 fUpper (gset (gset (gIn x L R xs) 3 (dint mid)) 4 (dint sh)) [7] = some (.next (gset (gset (gset (gIn x L R xs) 3 (dint mid)) 4 (dint sh)) 5 (dint (x.fdiv (2 ^ sh.toNat)))) [7]) := by
  have e : fUpper (gdrop (gset (gset (gIn x L R xs) 3 (dint mid)) 4 (dint sh)) [7]) = some (dint (x.fdiv (2 ^ sh.toNat))) := by
    show (if 0 ≤ sh then some (dint (x.fdiv (2 ^ sh.toNat))) else none) = _
    rw [if_pos h0]
  unfold fAssign evA
  rw [e]; rfl
theorem in_e4 {x L R mid sh up : Int} {xs : List Int} (h0 : 0 ≤ sh) (h1 : sh ≤ 1000) (h2 : 0 ≤ up) (h3 : up < 1000000) : fAssign 6 fLower (gset (gset (gset (gIn x L R xs) 3 (dint mid)) 4 (dint sh)) 5 (dint up)) [7] =
    some (.next (gset (gset (gset (gset (gIn x L R xs) 3 (dint mid)) 4 (dint sh)) 5 (dint up)) 6 (dint (Builtin.bitXor x (up * 2 ^ sh.toNat)))) [7]) := by
  have e : fLower (gdrop (gset (gset (gset (gIn x L R xs) 3 (dint mid)) 4 (dint sh)) 5 (dint up)) [7]) = some (dint (Builtin.bitXor x (up * 2 ^ sh.toNat))) := by
    have e2 : op2 oShl (gv 5) (gv 4) (gdrop (gset (gset (gset (gIn x L R xs) 3 (dint mid)) 4 (dint sh)) 5 (dint up)) [7]) = some (dint (up * 2 ^ sh.toNat)) := by
      show (if 0 ≤ sh ∧ sh ≤ 1000 ∧ 0 ≤ up ∧ up < 1000000 then some (dint (up * 2 ^ sh.toNat)) else none) = _
      rw [if_pos ⟨h0, h1, h2, h3⟩]
    exact op2_of (f := gv 0) (a := dint x) rfl e2
  unfold fAssign evA
  rw [e]; rfl
theorem in_eSet {x L R : Int} {xs : List Int} (h : 0 ≤ L ∧ L < xs.length ∧ xs.length ≤ 1000) : fSetL 7 (gv 1) (gv 0) (gIn x L R xs) [7] = some (.next (gset (gIn x L R xs) 7 (.p (.list ((xs.set L.toNat x).map .int)))) [7]) := by
  show (if ([7].contains 7) = true ∧ 0 ≤ L ∧ L < (xs.map PyData.int).length ∧ (xs.map PyData.int).length ≤ 1000 then some (Res.next (gset (gIn x L R xs) 7 (.p (.list ((xs.map PyData.int).set L.toNat (.int x))))) [7]) else none) = _
  rw [List.length_map, if_pos ⟨rfl, h⟩, List.map_set]

theorem inner_ok {f D cD cN cI : Addr} {fd : FuncData} (I : Inn C f D cD cN cI fd) : ∀ m, InnFS C f D cD cN cI fd m
  | 0 => fun A s x L R tx tL tR xs ys Q E _ _ hP _ => by cases hP
  | m + 1 => by
    have ih := inner_ok I m
    intro A s x L R tx tL tR xs ys Q E ha H hP h
    obtain ⟨o, eo, hd⟩ := H.fn
    have hsc := I.scope
    refine wpAny_call (codeAny_call_def (by have := ha.depth; omega) eo hd (C.lim s.heap H.ok.base) H.cd I.body (I.bind s [.int x tx, .int L tL, .int R tR] rfl) (fun y hy => ?_) (fun y hy => ?_) (fun h₀ hns hk₀ => ?_) (by rw [hsc]; rfl) (by rw [hsc]; rfl) (by rw [hsc]; rfl))
    · rw [hsc] at hy
      have : ∀ p ∈ (scopeOf stIn).names, p.2 ≠ .cell := by decide +kernel
      exact this y hy
    · rw [hsc]
      have : ∀ p ∈ inNames, (scopeOf stIn).names.lookup p = some .local := by decide +kernel
      obtain ⟨y1, y2⟩ := y
      exact this y1 (List.of_mem_zip hy).1
    have fe := inn_fnEnv I s.heap.objs.size (f := f)
    have re₀ := inner_rel I rfl H hns hk₀
    have fresh : s.heap.get? s.heap.objs.size = none := get_fresh _
    have ha' : AOk (m + 1) (A.deeper (callEnv fd s.heap.objs.size f)) := ⟨ha.handled, by have := ha.depth; show A.depth + 1 + (m + 1) < _; omega, by have := ha.units; show A.units + 3 + 100 * (m + 1) < _; omega⟩
    -- behind any steps of the frame
    have after : ∀ {h' : Heap} {Γ : G} {own : Own} {zs : List Int}, Keep C (Mset [s.heap.objs.size] [(7, D)]) h₀ h' → RelS C τ_in [cD, cN, cI] [s.heap.objs.size] (callEnv fd s.heap.objs.size f) Γ own h' → Γ 7 = some (.p (.list (zs.map .int))) → own.map (·.1) = [7] →
        Keep C [D] s.heap h' ∧ own.lookup 7 = some D ∧ InnH C f D cD cN cI fd h' zs := fun {h' Γ own zs} k re hΓ ek => by
      have kk := out_keep H.ok.tab fresh hk₀ k
      obtain ⟨dv, dk, eD, _⟩ := H.dig
      have hget : ∀ b o, s.heap.get? b = some o → b ≠ D → b ≠ C.tab → h'.get? b = some o := fun b o e hb ht => kk.get b o e (fun q => hb (List.mem_singleton.mp q)) ht
      obtain ⟨hl, dig⟩ := own_D I re hΓ ek (cell_get H.ok.tab eD hget H.kD)
      exact ⟨kk, hl, H.step I hget re.ok dig⟩
    rw [in_body]
    refine wpAny_execs_cons ?_
    obtain ⟨p0, e0⟩ := in_if
    rw [e0]
    refine wpAny_If (in_test (by omega) _ _ _ _ _ _ _ _ ha' fe.toFnEnv re₀.rel fInT_eq fun h₁ tk₁ k₁ => ?_)
    have re₁ := re₀.pure k₁
    unfold innerP at hP
    by_cases hLR : L + 1 = R
    · rw [if_pos hLR] at hP
      split at hP
      · rename_i hz
        cases hP
        have hb : (L + 1 == R) = true := beq_iff_eq.mpr hLR
        rw [hb]
        obtain ⟨p1, e1⟩ := in_ifbody
        simp only [if_true]
        rw [e1]
        refine wpAny_execs_cons ?_
        refine in_set _ _ _ [(7, D)] _ _ _ _ _ _ ha' fe re₁ (in_eSet hz) fun fl h₂ tk₂ own₂ rr k₂ sb => ?_
        obtain ⟨rfl, eo₂, re₂⟩ := rr
        refine wpAny_execs_cons (wpAny_Return_none ?_)
        obtain ⟨kk, _, H₂⟩ := after (k₁.nil.trans k₂) re₂ (zs := xs.set L.toNat x) rfl eo₂
        exact h h₂ tk₂ kk H₂
      · cases hP
    · rw [if_neg hLR] at hP
      have hb : (L + 1 == R) = false := beq_eq_false_iff_ne.mpr hLR
      rw [hb]
      simp only [Bool.false_eq_true, if_false]
      refine wpAny_execs_nil ?_
      dsimp only at hP
      split at hP
      · rename_i hz
        split at hP
        · rename_i zs hzs
          refine wpAny_execs_cons (in_mid _ _ _ [(7, D)] _ _ _ _ _ _ ha' fe re₁ in_e1 fun fl h₂ tk₂ own₂ rr k₂ sb₂ => ?_)
          obtain ⟨rfl, eo₂, re₂⟩ := rr
          refine wpAny_execs_cons (in_shift _ _ _ own₂ _ _ _ _ _ _ ha' fe re₂ (by rw [eo₂]; exact in_e2 hz.1 hz.2.1) fun fl h₃ tk₃ own₃ rr k₃ sb₃ => ?_)
          obtain ⟨rfl, eo₃, re₃⟩ := rr
          refine wpAny_execs_cons (in_upper _ _ _ own₃ _ _ _ _ _ _ ha' fe re₃ (by rw [eo₃]; exact in_e3 (by omega)) fun fl h₄ tk₄ own₄ rr k₄ sb₄ => ?_)
          obtain ⟨rfl, eo₄, re₄⟩ := rr
          refine wpAny_execs_cons (in_lower _ _ _ own₄ _ _ _ _ _ _ ha' fe re₄ (by rw [eo₄]; exact in_e4 (by omega) (by omega) hz.2.2.1 hz.2.2.2) fun fl h₅ tk₅ own₅ rr k₅ sb₅ => ?_)
          obtain ⟨rfl, eo₅, re₅⟩ := rr
          have kall : Keep C (Mset [s.heap.objs.size] [(7, D)]) h₀ h₅ :=
            k₁.nil.trans (k₂.seq sb₂ (k₃.seq sb₃ (k₄.seq sb₄ k₅)))
          obtain ⟨kk, hl, H₅⟩ := after kall re₅ (zs := xs) rfl eo₅
          refine wpAny_execs_cons ?_
          refine inn_call I ih in_args1 (fun _ => rfl) (fun _ => rfl) (fun _ => rfl) (fun _ => rfl) (by show interactive _ = false; unfold interactive; rw [fe.toFnEnv.kind]; rfl) ha' re₅ H₅ rfl hl rfl hzs fun h₆ tk₆ re₆ H₆ k₆ => ?_
          refine wpAny_execs_cons ?_
          refine inn_call I ih in_args2 (fun _ => rfl) (fun _ => rfl) (fun _ => rfl) (fun _ => rfl) (by show interactive _ = false; unfold interactive; rw [fe.toFnEnv.kind]; rfl) ha' re₆ H₆ rfl hl rfl hP fun h₇ tk₇ re₇ H₇ k₇ => ?_
          refine wpAny_execs_nil ?_
          exact h h₇ tk₇ (kk.trans (k₆.trans k₇)) H₇
        · cases hP
      · cases hP
end Mine
end
section -- J4
open PySem PySem.Spec PySem.Calls PySem.W PyProof.Rows
set_option Elab.async false
set_option maxRecDepth 100000
namespace Mine

noncomputable def paramsOf : Stmt → Arguments
  | .FunctionDef _ p _ _ _ _ _ _ _ _ => p
  | _ => default
noncomputable def posOf : Stmt → Pos
  | .FunctionDef _ _ _ _ _ _ _ _ _ p => p
  | _ => ⟨0, 0, 0, 0⟩
theorem stIn_eq : stIn = .FunctionDef (Str.ofString "inner") (paramsOf stIn) (bodyOf stIn) [] none [] (scopeOf stIn) none (Str.ofString "inner") (posOf stIn) := rfl
noncomputable abbrev inQual : Str := Str.ofString "_int2digits.<locals>.inner"

variable {prog : Program} {w : World} {hb : Heap} {mg mb : Str → Option Value} (X : Facts hb mg mb) {n : Nat}

/-- the function that the def makes -/
structure MadeIn (fd : FuncData) (clos : List (Str × Addr)) : Prop where
  body : fd.body = .stmts (bodyOf stIn)
  scope : fd.scope = scopeOf stIn
  gl : fd.globals = mainGlobals
  bl : fd.builtins = builtinsNs
  cl : fd.closure = clos
  bind : ∀ (s : Shared) (vs : List Value), vs.length = inNames.length → BindsTo s fd ⟨vs, []⟩ (inNames.zip vs)
  code : ∃ c, fd.code = .ref c ∧ c ≠ 33
theorem made_in {clos : List (Str × Addr)} {doc pm ctv : Value} {c : Addr} {q : Str} (hc : c ≠ 33) : MadeIn (fnX (Str.ofString "inner") q (paramsOf stIn) (bodyOf stIn) (scopeOf stIn) clos .none .none doc pm none (.ref c) ctv) clos :=
  ⟨rfl, rfl, rfl, rfl, rfl, fun s vs hl => .of_eq (by match vs, hl with | [_, _, _], _ => rfl), c, rfl, hc⟩

theorem bmain_ok {h : Heap} (ok : HOk (theCx prog w hb mg mb X) h) : h.BuiltinsAt mg 33 := by
  obtain ⟨bm, ob, b1, b2, b3, b4, b5, b6⟩ := X.bmain
  exact ⟨bm, ob, b1, b2, b3, b4, ok.base _ _ b5 b4, b6⟩

theorem mk_inner {env : Env} {clos : List (Str × Addr)} {A : Around} {s : Shared} {Q : Value → Shared → Prop} {E : Value → Shared → Prop} (hcl : closureFor (scopeOf stIn) env = pure clos) (hne : clos ≠ []) (hge : env.globals = mainGlobals) (hcode : env.code = .ref 37)
    (ok : HOk (theCx prog w hb mg mb X) s.heap)
    (h : ∀ f fd h' tk, Keep (theCx prog w hb mg mb X) [] s.heap h' → s.heap.objs.size ≤ f → (∃ o, h'.get? f = some o ∧ o.data = .func fd) → MadeIn fd clos → h'.CodeRec fd.code fd.qualname → Q (.ref f) { s with heap := h', toks := tk }) :
    wpAny (model prog w) A (makeFunction (Str.ofString "inner") inQual (paramsOf stIn) (.stmts (bodyOf stIn)) (scopeOf stIn) env [] [] [] (posOf stIn) (posOf stIn).line) Q E s := by
  have hg : s.heap.Ns mainGlobals mg := ok.gl
  have hbm := bmain_ok X ok
  have T : TabIs s.heap := ok.tab
  obtain ⟨CH, T2⟩ := id T
  rcases T2 with eP | ⟨c', eP, o, vs, t, e1, e2, e3, e4⟩
  · obtain ⟨bm, ob, b1, b2, _, b4, b5, b6, b7, b8⟩ := hbm
    rw [makeFunction_eq]
    simp only [List.zip_nil_right, List.filterMap_nil, List.isEmpty_nil, if_true, pure_bind]
    unfold makeTail
    rw [hcl, hge]
    refine wpAny_bind (wpAny_pure ?_)
    have hem : clos.isEmpty = false := by cases clos with | nil => exact absurd rfl hne | cons => rfl
    simp only [hem, Bool.false_eq_true, if_false]
    refine wpAny_bind (wpAny_newTextTuple ?_)
    have hkT : ∀ (oT : Obj) b o, s.heap.get? b = some o → (s.heap.push oT).get? b = some o := fun oT b o e => Heap.get?_push_of_some _ e
    have gP : mainGlobals ≠ 33 := ns_ne hg eP
    refine wpAny_bind (wpAny_functionCodeX hcode ((CH.keeps (hkT _)).code (hkT _ _ _ eP) trivial) ((CH.keeps (hkT _)).tab (hkT _ _ _ eP)) rfl fun c' h' tk hx hge' hlt _ hrec htb hP' => ?_)
    have hx' : ∀ b o, b ≠ 33 → s.heap.get? b = some o → h'.get? b = some o := fun b o hb' e => hx b o hb' (hkT _ _ _ e)
    have hg' := (hg.push _).extBut hx gP
    refine wpAny_bind (wpAny_builtinsFor hg' b1 b2 (hx' _ _ b4 b5) b6 b7 b8 ?_)
    refine wpAny_bind (wpAny_nsGet hg' ?_)
    have hdoc : docOf (bodyOf stIn) = none := rfl
    simp only [hdoc]
    refine wpAny_bind (wpAny_pure (wpAny_newObj_type ?_ (by size_fits)))
    obtain ⟨P', _, _, ⟨oc, vc, hoc, hcc, hdc, _⟩, _⟩ := hP'
    obtain ⟨c2, o2, vs2, t2, q1, q2, q3, q4⟩ := hrec
    cases q1
    rw [hoc] at q2; cases q2
    have hc33 : c' ≠ 33 := fun q => by
      rw [q, htb.2] at hoc; cases hoc; cases hcc
    have hold : ∀ b o, b ≠ 33 → s.heap.get? b = some o → ∀ oF, (h'.push oF).get? b = some o := fun b o hb' e oF => Heap.get?_push_of_some _ (hx' b o hb' e)
    refine h h'.objs.size _ _ _ ⟨fun b o e _ ht => hold b o ht e _, fun b o e => ?_, ⟨?_, .inr ⟨c', Heap.get?_push_of_some _ htb.2, oc, vc, t2, Heap.get?_push_of_some _ hoc, hcc, hdc, by rw [hdc] at q3; cases q3; exact q4⟩⟩⟩ ?_ ⟨_, Heap.get?_push_size _ rfl, rfl⟩ (made_in hc33)
      ⟨c', oc, vc, t2, rfl, Heap.get?_push_of_some _ hoc, hdc, by rw [hdc] at q3; cases q3; exact q4⟩
    · by_cases hb' : b = 33
      · subst hb'; exact ⟨_, Heap.get?_push_of_some _ htb.2⟩
      · exact ⟨o, hold b o hb' e _⟩
    · obtain ⟨o', vs', file, tf, flags, tg, inF, text, tt, f1, f2, f3, f4, f5, f6, f7, f8, f9, f10⟩ := CH
      exact ⟨o', vs', file, tf, flags, tg, inF, text, tt, hold _ _ f10 f1 _, f2, f3, f4, f5, f6, f7, f8, f9, f10⟩
    · have : s.heap.objs.size ≤ c' := Nat.le_trans (by rw [Heap.size_push]; exact Nat.le_succ _) hge'
      exact Nat.le_trans this (Nat.le_of_lt hlt)
  · refine makeFunction_hit (c := 37) (P := 33) (ps := #[rawInt 6, rawInt 4, .ref c']) (cv := .ref c') hcl hge hg hcode CH eP trivial rfl hbm fun ctv doc h' tk hk hsz => ?_
    have hc33 : c' ≠ 33 := fun q => by
      rw [q, eP] at e1; cases e1; cases e2
    have hold : ∀ oF b o, s.heap.get? b = some o → (h'.push oF).get? b = some o := fun oF b o e => Heap.get?_push_of_some _ (hk b o e)
    exact h _ _ _ tk (.of_all T (hold _)) hsz ⟨_, Heap.get?_push_size _ rfl, rfl⟩ (made_in hc33) ⟨c', o, vs, t, rfl, hold _ _ _ e1, e3, e4⟩
end Mine
end
section -- J5
open PySem PySem.Spec PySem.Calls PySem.W PyProof.Rows
set_option Elab.async false
set_option maxRecDepth 100000
namespace Mine
variable {C : Cx} {τ τ' : List Str} {κ : Str → Option NameKind} {n : Nat}

/-- a new list of a product -/
theorem new_mulL {l r : Expr} {pos : Pos} {f g : G → Option DV} (hl : SE C τ κ n l f) (hr : SE C τ κ n r g) {env : Env} {S : List Addr} {A : Around} {s : Shared} {Γ : G} {xs : List PyData} {k : Int} {Q : Value → Shared → Prop} {E : Value → Shared → Prop}
    (ha : AOk n A) (fe : FnEnv κ env) (re : Rel C τ S env Γ s.heap) (ef : f Γ = some (.p (.list xs))) (eg : g Γ = some (dint k)) (h0 : 0 ≤ k) (h1 : k ≤ 1000) (h2 : xs.length ≤ 1000)
    (h : ∀ h₁ tk vs bs, Keep C [] s.heap h₁ → RdAll h₁ vs (List.replicate k.toNat xs).flatten bs → (∀ b ∈ bs, b ∉ S) → Q (.ref h₁.objs.size) { s with heap := h₁.push (lobj vs.toArray 0), toks := tk }) :
    wpAny (model C.prog C.w) A (eval (.BinOp l .Mult r pos) env) Q E s := by
  refine wpAny_BinOp (two hl hr (Q := fun u v s₂ => wpAny (model C.prog C.w) A (binaryOp .Mult u v) Q E s₂) ha fe re ef eg fun u v h' tk k' re' ru rv => ?_)
  obtain ⟨t2, rfl⟩ := of_int rv
  obtain ⟨a, vs, m, as, rfl, el, r, hl, has⟩ := of_list ru
  have hlen : vs.size ≤ 1000 := by
    have := rdAll_length r
    rw [Array.length_toList] at this
    omega
  have hk : k.toNat ≤ 1000 := by omega
  have hsz : vs.size * k.toNat ≤ 2 ^ 24 := Nat.le_trans (Nat.mul_le_mul hlen hk) (by decide)
  obtain ⟨bs, q, hb⟩ := rdAll_rep r k.toNat
  refine wpAny_binaryOp_repeat_ref (T := "list") (U := "int") (by decide) ⟨_, el, rfl⟩ (fun s' => typeIs_int s' k t2) noFill_list_mul F.fills_int_mul F.slot_int_rmul repeat_list F.slot_int_index.lookup
    (call_meets F.slot_int_rmul (typeIs_int _ k t2) F.entry_int_rmul (F.args_int_rmul_2 _ _) (lm_int_rmul_list_any k t2 a vs m none #[])
      ⟨el, rfl, ⟨_, el, rfl⟩, call_meets F.slot_list_mul ⟨_, el, rfl⟩ F.entry_list_mul (F.args_list_mul_2 _ _)
        (lm_list_mul_any a vs m none #[] k t2 (by simp [Builtin.List.listFitsIndex]; omega) (by omega) (by simp [Builtin.List.listTooLong, sizeLine]; omega))
        ⟨el, ?_⟩⟩)
  show Q _ _
  rw [listMul_foldl_if vs k.toNat]
  exact h h' tk _ bs k' q fun b hb' => has b (hb b hb')

noncomputable def fNewMul (i : Nat) (f g : G → Option DV) : G → List Nat → Option Res := fun Γ O =>
  match f (gdrop Γ O), g (gdrop Γ O) with
  | some (.p (.list xs)), some (.p (.int k)) => if 0 ≤ k ∧ k ≤ 1000 ∧ xs.length ≤ 1000 then some (.next (gset Γ i (.p (.list (List.replicate k.toNat xs).flatten))) (i :: O.filter fun j => !(j == i))) else none
  | _, _ => none
theorem s1_newmulC (ap : Apart τ) {x : Str} {px pos bp : Pos} {l r : Expr} {f g : G → Option DV} (i : Nat) (hi : τ[i]? = some x) (hk : κ x = some .cell) (hl : SE C τ κ n l f) (hr : SE C τ κ n r g)
    (hs : ∀ env, swapsWith (.BinOp l .Mult r bp) (some (.Name x px)) pos.line env = pure false) :
    S1 C τ κ n (.Assign [.Name x px] (.BinOp l .Mult r bp) pos) (fNewMul i f g) := by
  intro env S₀ W own A s Γ r Q E ha fe re er h
  unfold fNewMul at er
  split at er
  · rename_i xs k ef eg
    split at er
    · rename_i hz
      cases er
      refine wpAny_Assign_Name (new_mulL hl hr ha fe.toFnEnv re.relD ef eg hz.1 hz.2.1 hz.2.2 fun h₁ tk₁ vs bs k₁ rd hbs => ?_) (hs env)
      have re₁ := (re.pure k₁).weaken (i := i)
      have re₂ := re₁.owning (i := i) (o := lobj vs.toArray 0) (by simp) (.inr (.inr ⟨_, _, rfl⟩)) rfl
      have hlk : ((i, h₁.objs.size) :: orem own i).lookup i = some h₁.objs.size := by rw [List.lookup_cons, beq_self_eq_true]
      obtain ⟨c, hc, hcW⟩ : ∃ c, env.cells.lookup x = some c ∧ c ∈ W := by
        obtain ⟨c, hc⟩ := re.ce x ((fe.is x).trans hk)
        rcases re.wc x c hc with hw | ⟨_, hw | hw⟩
        · exact ⟨c, hc, hw⟩
        · exact absurd hw fe.fn
        · rw [fe.is x, hk] at hw; cases hw
      have sub1 : Sub own ((i, h₁.objs.size) :: orem own i) s.heap := fun p hp => by
        rcases List.mem_cons.mp hp with rfl | hp
        · refine .inr ?_
          cases e : s.heap.get? h₁.objs.size with
          | none => rfl
          | some o => obtain ⟨o', e'⟩ := k₁.live _ _ e; exact absurd (Heap.lt_size e') (Nat.lt_irrefl _)
        · exact .inl (orem_sub p hp)
      refine stored_rel ap fe.toFnEnv re₂ hi (.inr ⟨hk, c, hc, hcW⟩) (d := .p (.list (List.replicate k.toNat xs).flatten)) (by
        rw [hlk]
        refine ⟨rfl, vs.toArray, 0, bs, Heap.get?_push_size _ rfl, ?_, fun b hb q => ?_⟩
        · exact rdAll_keep (Keep.push re₁.ok.tab _).get re₁.ok.tab (fun _ hb => nomatch hb) (by simpa using rd) fun _ _ q => nomatch q
        · have hlt : b < h₁.objs.size := rdAll_lt rd b hb
          rcases List.mem_append.mp q with q | q
          · exact hbs b hb (List.mem_append_left _ q)
          · rcases List.mem_append.mp q with q | q
            · exact hbs b hb (List.mem_append_right _ (List.mem_append_left _ q))
            · rcases List.mem_cons.mp q with q | q
              · exact Nat.lt_irrefl _ (q ▸ hlt)
              · obtain ⟨p, hp, e⟩ := List.mem_map.mp q
                exact hbs b hb (List.mem_append_right _ (List.mem_append_right _ (List.mem_map.mpr ⟨p, orem_sub p hp, e⟩)))) fun h' tk rel kp => ?_
      rw [gset_none] at rel
      refine h .next h' tk _ ⟨rfl, by rw [List.map_cons, orem_keys], rel⟩ ?_ sub1
      exact Keep.seq (o2 := (i, h₁.objs.size) :: orem own i) (k₁.nil.trans (Keep.push re₁.ok.tab _).nil) sub1 kp
    · cases er
  · cases er
end Mine
end
section -- J6
open PySem PySem.Spec PySem.Calls PySem.W PyProof.Rows
set_option Elab.async false
set_option maxRecDepth 100000
namespace Mine
section
variable {C : Cx} {τ τ' : List Str} {κ : Str → Option NameKind} {n : Nat}

/-- a function is put into a cell that nothing is known of -/
theorem stored_fn {S₀ W : List Addr} {env : Env} {Γ : G} {own : Own} {s : Shared} {A : Around} {x : Str} {v : Value} {c : Addr} {Q : Unit → Shared → Prop} {E : Value → Shared → Prop}
    (fe : FnEnv κ env) (r : RelS C τ S₀ W env Γ own s.heap) (hk : κ x = some .cell) (hc : env.cells.lookup x = some c) (hcW : c ∈ W) (hno : ∀ i d, Γ i = some d → τ[i]? ≠ some x)
    (h : ∀ h', RelS C τ S₀ W env Γ own h' → Keep C (Mset W own) s.heap h' → Heap.SameBut c s.heap h' → h'.IsCell c (some v) → Q () { s with heap := h' }) :
    wpAny (model C.prog C.w) A (storeName env x v) Q E s := by
  obtain ⟨m, hn, hv⟩ := r.loc
  obtain ⟨w0, hw0⟩ := r.cells x c hc
  have nd := r.nd
  unfold Mset at nd
  rw [List.nodup_append] at nd
  refine wpAny_storeName_cell fe.kind ((fe.is x).trans hk) hc hw0 fun h' hcl' hs => ?_
  have ha : c ∈ Mset W own := List.mem_append_left _ hcW
  have hna : c ∉ own.map (·.2) := fun q => nd.2.2 c hcW c q rfl
  have t' : C.Tab h' := C.tabKeep s.heap h' r.ok.tab fun b o vs e hd _ => by
    refine (hs.2 b ?_).trans e
    rintro rfl
    obtain ⟨o2, e2, hd2⟩ := hw0
    rw [e] at e2; cases e2; rw [hd] at hd2; cases hd2
  have ns' : h'.Ns env.locals m := hn.sameBut hs (fun q => by
    obtain ⟨o, es, ep, e, hd, _⟩ := hn
    obtain ⟨o2, e2, hd2⟩ := hw0
    rw [q] at e; rw [e] at e2; cases e2; rw [hd] at hd2; cases hd2)
  have ces : ∀ {c' : Addr} {w : Option Value} {y : Str}, y ≠ x → env.cells.lookup y = some c' → s.heap.IsCell c' w → h'.IsCell c' w := fun {c' w y} hy hl hcl => by
    obtain ⟨o, e, hd⟩ := hcl
    exact ⟨o, (hs.2 c' (fun q => hy (r.cnd y x c' (by rw [q]; exact hcW) hl (q ▸ hc)))).trans e, hd⟩
  obtain ⟨rel, kp⟩ := r.changed (Γ' := Γ) hs ha (by obtain ⟨o, e, hd⟩ := hcl'; exact ⟨o, e, .inr (.inl ⟨_, hd⟩)⟩)
    (fun y c' hl => by
      by_cases hy : y = x
      · subst hy; rw [hc] at hl; cases hl; exact ⟨_, hcl'⟩
      · obtain ⟨w, hcl⟩ := r.cells y c' hl; exact ⟨w, ces hy hl hcl⟩)
    ⟨_, ns', fun j dj ej => by
      obtain ⟨y, u, ey, at_, kn⟩ := hv j dj ej
      refine ⟨y, u, ey, ?_, kn.same r.ok.tab t' hs ha (r.mt c ha) fun c2 hc2 q => hna (q ▸ List.mem_map.mpr ⟨_, lookup_mem hc2, rfl⟩)⟩
      have hy : y ≠ x := fun q => hno j dj ej (q ▸ ey)
      rcases at_ with ⟨k1, k2⟩ | ⟨k1, c', k2, k3⟩
      · exact .inl ⟨k1, k2⟩
      · exact .inr ⟨k1, c', k2, ces hy k2 k3⟩⟩
  exact h h' rel kp hs hcl'
end

noncomputable def τ_i2d : List Str := [Str.ofString "a", Str.ofString "n", Str.ofString "a_digits", Str.ofString "inner"]
theorem ap_i2d : Apart τ_i2d := apart_of (by decide +kernel)
noncomputable def st2 (k : Nat) : Stmt := nthOf (bodyOf (topStmt 2)) k
noncomputable abbrev κ2 : Str → Option NameKind := kOf (topStmt 2)
noncomputable def fL0 : G → Option DV := fList (fcons (cInt 0) fnil)
noncomputable def fK0 : G → Option DV := op2 oDiv (op2 oSub_ (op2 oAdd (fBits (gv 0)) (gv 1)) (cInt 1)) (gv 1)
section
variable {C : Cx} {n : Nat}
theorem i2_s0 : S1 C τ_i2d κ2 n (st2 0) (fNewMul 2 fL0 fK0) :=
  s1_newmulC ap_i2d 2 rfl rfl (se_list (ses_cons se_int ses_nil (fun _ => rfl))) (se_bin (se_bin (se_bin (se_bits (se_name 0 rfl) (fun _ => ⟨_, rfl⟩)) (se_name 1 rfl) op_add) se_int op_sub) (se_name 1 rfl) op_div) (fun _ => rfl)
theorem i2_test : SB C τ_i2d κ2 n (ifTest (st2 2)) (bNz (gv 0)) := sb_int (se_name 0 rfl) (fun _ _ => rfl)
theorem i2_args (g : GCx C) : SEs C τ_i2d κ2 n (cArgs (exprOf (nthOf (ifBody (st2 2)) 0))) (fcons (gv 0) (fcons (cInt 0) (fcons (fCall bLen (fcons (gv 2) fnil)) fnil))) :=
  ses_cons (se_name 0 rfl) (ses_cons se_int (ses_cons (se_callB (ses_cons (se_name 2 rfl) ses_nil (fun _ => rfl)) fs_len g.g_len g.b_len rfl rfl (fun _ => rfl) (fun _ => rfl) (fun _ => rfl)) ses_nil (fun _ => rfl)) (fun _ => rfl)) (fun _ => rfl)
theorem i2_ret : S1 C τ_i2d κ2 n (st2 3) (fRet (gv 2)) := s1_ret (se_name 2 rfl)
end
theorem i2_body : bodyOf (topStmt 2) = [st2 0, stIn, st2 2, st2 3] := rfl
theorem i2_if : ∃ p, st2 2 = .If (ifTest (st2 2)) (ifBody (st2 2)) [] p := ⟨_, rfl⟩
theorem i2_ifbody : ∃ p1 p2 p3 e es, ifBody (st2 2) = [.Expr (.Call (.Name (Str.ofString "inner") p1) (e :: es) [] p2) p3] ∧ cArgs (exprOf (nthOf (ifBody (st2 2)) 0)) = e :: es ∧
    (∀ env, starEach (e :: es) env = (false, eval e env) :: starEach es env) ∧ (∀ env, (backTo p2 (starEach es env)).any (·.1) = false) ∧
    (∀ env, eval (.Call (.Name (Str.ofString "inner") p1) (e :: es) [] p2) env = (do callWith p2 (← eval (.Name (Str.ofString "inner") p1) env) [] (backTo p2 (starEach (e :: es) env)) (backToKw p2 (keywordEach [] env)))) ∧
    (∀ env, swapsWith (.Call (.Name (Str.ofString "inner") p1) (e :: es) [] p2) none p3.line env = pure false) :=
  ⟨_, _, _, _, _, rfl, rfl, fun _ => rfl, fun _ => rfl, fun _ => rfl, fun _ => rfl⟩

end Mine
end
section -- J7
open PySem PySem.Spec PySem.Calls PySem.W PyProof.Rows
set_option Elab.async false
set_option maxRecDepth 100000
namespace Mine
variable {prog : Program} {w : World} {hb : Heap} {mg mb : Str → Option Value} (X : Facts hb mg mb) {n : Nat}

theorem flat_rep (k : Nat) : (List.replicate k [PyData.int 0]).flatten = (List.replicate k (0 : Int)).map .int := by
  induction k with
  | zero => rfl
  | succ k ih => rw [List.replicate_succ, List.replicate_succ, List.flatten_cons, ih]; rfl
theorem i2_e0 {a : Int} (h0 : 0 ≤ a) (h1 : a < 512) (hk0 : 0 ≤ i2dK a) (hk1 : i2dK a ≤ 1000) :
    fNewMul 2 fL0 fK0 (gArgs [dint a, dint 3]) [] = some (.next (gset (gArgs [dint a, dint 3]) 2 (.p (.list ((List.replicate (i2dK a).toNat (0 : Int)).map .int)))) [2]) := by
  have hbits : (Builtin.Int.intBits a : Int) < 1000 := by
    have : ∀ b : Nat, b < 512 → Builtin.Int.intBits (b : Int) < 1000 := by decide +kernel
    have := this a.toNat (by omega)
    rw [Int.toNat_of_nonneg h0] at this
    omega
  have e1 : fL0 (gdrop (gArgs [dint a, dint 3]) []) = some (.p (.list [.int 0])) := rfl
  have e2 : fK0 (gdrop (gArgs [dint a, dint 3]) []) = some (dint (i2dK a)) := by
    show (if (3 : Int) ≠ 0 ∧ ((Builtin.Int.intBits a : Int) + 3 - 1).natAbs < 1000000 ∧ (3 : Int).natAbs < 1000000 then some (dint (((Builtin.Int.intBits a : Int) + 3 - 1).fdiv 3)) else none) = _
    rw [if_pos ⟨by decide, by omega, by decide⟩]; rfl
  unfold fNewMul
  rw [e1, e2]
  show (if 0 ≤ i2dK a ∧ i2dK a ≤ 1000 ∧ ([PyData.int 0]).length ≤ 1000 then some (Res.next (gset (gArgs [dint a, dint 3]) 2 (.p (.list (List.replicate (i2dK a).toNat [PyData.int 0]).flatten))) [2]) else none) = _
  rw [if_pos ⟨hk0, hk1, by decide⟩, flat_rep]
theorem lookup_in {cl : List (Str × Addr)} {cells : List (Str × Addr)} (h : ∀ p ∈ cl, cells.lookup p.1 = some p.2) {x : Str} {c : Addr} (hm : (x, c) ∈ cl) : cl.lookup x = some c ∧ cells.lookup x = some c := by
  have h2 := h _ hm
  refine ⟨?_, h2⟩
  have : ∃ c', cl.lookup x = some c' := by
    clear h h2
    induction cl with
    | nil => cases hm
    | cons p r ih =>
      obtain ⟨y, b⟩ := p
      rw [List.lookup_cons]
      cases q : x == y with
      | true => exact ⟨_, rfl⟩
      | false =>
        rcases List.mem_cons.mp hm with e | hm
        · cases e; rw [beq_self_eq_true] at q; cases q
        · exact ih hm
  obtain ⟨c', e⟩ := this
  have := h _ (mem_of_lookup e)
  dsimp only at this h2
  rw [h2] at this
  cases this
  exact e

theorem len_ints {Γ : G} {xs : List Int} (h : Γ 2 = some (.p (.list (xs.map .int)))) (hz : xs.length ≤ 1000000) : fCall bLen (fcons (gv 2) fnil) Γ = some (dint xs.length) := by
  have e : fcons (gv 2) fnil Γ = some [.p (.list (xs.map .int))] := by
    unfold fcons gv fnil; rw [h]
  unfold fCall; rw [e]
  show (if (xs.map PyData.int).length ≤ 1000000 then some (dint ((xs.map PyData.int).length : Nat)) else none) = _
  rw [List.length_map, if_pos hz]

theorem i2_args_eq {Γ : G} {a : Int} {xs : List Int} (h0 : Γ 0 = some (dint a)) (h : Γ 2 = some (.p (.list (xs.map .int)))) (hz : xs.length ≤ 1000000) :
    fcons (gv 0) (fcons (cInt 0) (fcons (fCall bLen (fcons (gv 2) fnil)) fnil)) Γ = some [dint a, dint 0, dint xs.length] := by
  exact fcons_of h0 (fcons_of rfl (fcons_of (len_ints h hz) rfl))

theorem fs_i2d (g : GCx (theCx prog w hb mg mb X)) : FS (theCx prog w hb mg mb X) (n + 7) (.ref 38) B_i2d := by
  intro S A s vs ds d Q E ha ok hS rs ef h
  unfold B_i2d at ef
  split at ef
  · rename_i a
    split at ef
    · rename_i ys eys
      cases ef
      unfold i2dP at eys
      split at eys
      · rename_i hz
        obtain ⟨ha0, ha1, hk0, hk1⟩ := hz
        obtain ⟨fo, fd, efo, ecls, dd, hbody, hsc, hcl, hgl, hbl, hcd, hbind⟩ := X.d_i2d
        obtain ⟨hcode, hqual⟩ := X.i2dF fo fd efo dd
        have ne : (38 : Addr) ≠ 33 := by decide
        have hlv : vs.length = [Str.ofString "a", Str.ofString "n"].length := rvAll_length rs
        have hloc : ∀ x ∈ [Str.ofString "a", Str.ofString "n"], fd.scope.names.lookup x = some .local ∨ fd.scope.names.lookup x = some .cell := by rw [hsc]; decide +kernel
        have hcn : ((cellsFrom 0 fd.scope.names []).map (·.1)).Nodup := by rw [hsc]; decide +kernel
        refine wpAny_call (codeAny_call_cells (by have := ha.depth; omega) (ok.base 38 fo efo ne) dd ((theCx prog w hb mg mb X).lim s.heap ok.base) (codeRec_ok X hcd ok) hbody (hbind vs hlv) hcl (fun x hx => ?_) (fun s₁ Y => ?_) (by rw [hsc]; rfl) (by rw [hsc]; rfl) (by rw [hsc]; rfl))
        · obtain ⟨x1, x2⟩ := x
          rcases hloc x1 (List.of_mem_zip hx).1 with q | q
          · exact .inl q
          · exact .inr ⟨q, cellsFrom_some _ _ _ (.inl q)⟩
        have re₀ := relS_cells (τ := τ_i2d) (C := theCx prog w hb mg mb X) ok hS rs hlv (by decide +kernel) (fun i x h => by match i, h with | 0, h => exact h | 1, h => exact h | _ + 2, h => cases h) hloc hcn Y
        generalize henv : callEnvC fd s.heap.objs.size 38 = env at *
        have eloc : env.locals = s.heap.objs.size := by rw [← henv]; rfl
        have hek : env.scope.kind = .function := by rw [← henv]; show fd.scope.kind = _; rw [hsc]; rfl
        have fe : FnS κ2 env := by rw [← henv]; exact ⟨⟨by show fd.scope.kind = _; rw [hsc]; rfl, hgl, hbl, fun x => by show fd.scope.names.lookup x = _; rw [hsc]; rfl⟩, fun q => nomatch q⟩
        have ecode : env.code = .ref 37 := by rw [← henv]; exact hcode
        have equal : env.qual = Str.ofString "_int2digits" ++ Str.ofString ".<locals>." := by rw [← henv]; show fd.qualname ++ _ = _; rw [hqual]
        obtain ⟨h₁, tk₁, e₁⟩ := Y.toInCall.same
        subst e₁
        have ha' : AOk (n + 6) (A.deeper env) := ⟨ha.handled, by have := ha.depth; show A.depth + 1 + (n + 6) < _; omega, by have := ha.units; show A.units + 3 + 100 * (n + 6) < _; omega⟩
        generalize hW : (s.heap.objs.size :: env.cells.map (·.2)) = W at *
        -- the list
        rw [i2_body]
        refine wpAny_execs_cons (i2_s0 _ S W [] _ _ _ _ _ _ ha' fe re₀ (i2_e0 ha0 ha1 hk0 hk1) fun fl h₂ tk₂ own₂ rr k₂ sb₂ => ?_)
        obtain ⟨rfl, eo₂, re₂⟩ := rr
        generalize hxs : List.replicate (i2dK a).toNat (0 : Int) = xs at *
        have hxl : (xs.length : Int) = i2dK a := by rw [← hxs, List.length_replicate]; omega
        generalize hΓ : gset (gArgs [dint a, dint 3]) 2 (.p (.list (xs.map .int))) = Γ at *
        have g0 : Γ 0 = some (dint a) := by rw [← hΓ]; rfl
        have g1 : Γ 1 = some (dint 3) := by rw [← hΓ]; rfl
        have g2 : Γ 2 = some (.p (.list (xs.map .int))) := by rw [← hΓ]; rfl
        have gno : ∀ i d, Γ i = some d → τ_i2d[i]? ≠ some (Str.ofString "inner") := fun i d e q => by
          match i, q with
          | 3, _ => rw [← hΓ] at e; cases e
          | 0, q => exact absurd q (by decide +kernel)
          | 1, q => exact absurd q (by decide +kernel)
          | 2, q => exact absurd q (by decide +kernel)
          | _ + 4, q => cases q
        -- the def
        refine wpAny_execs_cons ?_
        rw [stIn_eq]
        refine nestDef_K rfl rfl rfl ?_
        have hq : qualnameIn env (Str.ofString "inner") (Str.ofString "inner") = inQual := by
          unfold qualnameIn
          rw [fe.toFnEnv.is, equal]; decide +kernel
        rw [hq]
        have hcellOf : ∀ x, κ2 x = some .cell → ∃ c, env.cells.lookup x = some c ∧ c ∈ W := fun x hx => by
          obtain ⟨c, e⟩ := re₂.ce x ((fe.toFnEnv.is x).trans hx)
          rcases re₂.wc x c e with q | ⟨_, q | q⟩
          · exact ⟨c, e, q⟩
          · exact absurd q fe.fn
          · rw [fe.toFnEnv.is, hx] at q; cases q
        have hfree : ∀ x, (x, NameKind.free) ∈ (scopeOf stIn).names → κ2 x = some .cell ∧ kOf stIn x = some .free ∧ (x = Str.ofString "a_digits" ∨ x = Str.ofString "n" ∨ x = Str.ofString "inner") := fun x hx => by
          have : ∀ p ∈ (scopeOf stIn).names, p.2 = .free → κ2 p.1 = some .cell ∧ kOf stIn p.1 = some .free ∧ (p.1 = Str.ofString "a_digits" ∨ p.1 = Str.ofString "n" ∨ p.1 = Str.ofString "inner") := by decide +kernel
          exact this _ hx rfl
        obtain ⟨clos, ecl, hcl1, hcl2⟩ := closureFor_some (env := env) (scope := scopeOf stIn) fun x hx => let ⟨c, e, _⟩ := hcellOf x (hfree x hx).1; ⟨c, e⟩
        have hmem : ∀ x, (x, NameKind.free) ∈ (scopeOf stIn).names → ∃ c, clos.lookup x = some c ∧ env.cells.lookup x = some c := fun x hx => by
          obtain ⟨c, hc⟩ := hcl2 x hx
          exact ⟨c, lookup_in (fun p hp => (hcl1 p hp).1) hc⟩
        obtain ⟨cD, lD, eD⟩ := hmem (Str.ofString "a_digits") (by decide +kernel)
        obtain ⟨cN, lN, eN⟩ := hmem (Str.ofString "n") (by decide +kernel)
        obtain ⟨cI, lI, eI⟩ := hmem (Str.ofString "inner") (by decide +kernel)
        refine mk_inner X ecl (fun q => by rw [q] at lD; cases lD) fe.toFnEnv.glob ecode re₂.ok fun f fdI h₃ tk₃ k₃ hf3 hfo hM hrec => ?_
        have re₃ := re₂.pure k₃
        obtain ⟨cI', eI', hIW⟩ := hcellOf (Str.ofString "inner") rfl
        rw [eI] at eI'; cases eI'
        refine stored_fn (s := { s with heap := h₃, toks := tk₃ }) fe.toFnEnv re₃ rfl eI hIW gno fun h₄ re₄ k₄ sb₄ hcI => ?_
        obtain ⟨D, hlD, roD, mD, xD, hnD, exD, atD⟩ := known_own re₄ g2 (by rw [eo₂]; rfl)
        cases exD
        have kD : h₄.IsCell cD (some (.ref D)) := by
          rcases atD with ⟨q, _⟩ | ⟨_, c, q, r⟩
          · rw [fe.toFnEnv.is] at q; exact absurd q (by decide +kernel)
          · rw [eD] at q; cases q; exact r
        have kN : ∃ t, h₄.IsCell cN (some (.int 3 t)) := by
          obtain ⟨m, _, hv⟩ := re₄.loc
          obtain ⟨x, v, ex, at_, kn⟩ := hv 1 _ g1
          cases ex
          rw [lookup_none (by rw [eo₂]; decide)] at kn
          obtain ⟨t, rfl⟩ := of_int (C := theCx prog w hb mg mb X) kn
          rcases at_ with ⟨q, _⟩ | ⟨_, c, q, r⟩
          · rw [fe.toFnEnv.is] at q; exact absurd q (by decide +kernel)
          · rw [eN] at q; cases q; exact ⟨t, r⟩
        have I : Inn (theCx prog w hb mg mb X) f D cD cN cI fdI := {
          body := hM.body, scope := hM.scope, gl := hM.gl, bl := hM.bl, bind := hM.bind
          cl_D := by rw [hM.cl]; exact lD
          cl_N := by rw [hM.cl]; exact lN
          cl_I := by rw [hM.cl]; exact lI
          cl := fun x c e => by
            rw [hM.cl] at e
            obtain ⟨q1, q2⟩ := hcl1 _ (mem_of_lookup e)
            obtain ⟨_, q3, q4⟩ := hfree _ q2
            refine ⟨?_, q3⟩
            dsimp only at q1 q4
            rcases q4 with rfl | rfl | rfl
            · rw [eD] at q1; cases q1; exact .inl rfl
            · rw [eN] at q1; cases q1; exact .inr (.inl rfl)
            · rw [eI] at q1; cases q1; exact .inr (.inr rfl)
          code := hM.code
          low := re₄.low D (own_in (lookup_mem hlD)) }
        have hcell3 : ∃ o v, h₃.get? cI = some o ∧ o.data = .cell v := by
          obtain ⟨v, o, e, q⟩ := re₃.cells _ _ eI; exact ⟨o, v, e, q⟩
        obtain ⟨oI, vI, eoI, doI⟩ := hcell3
        have H : InnH (theCx prog w hb mg mb X) f D cD cN cI fdI h₄ xs := {
          ok := re₄.ok
          fn := by
            obtain ⟨o, e, q⟩ := hfo
            refine ⟨o, (sb₄.2 f fun r => ?_).trans e, q⟩
            rw [r, eoI] at e; cases e; rw [doI] at q; cases q
          kD := kD
          kN := kN
          kI := hcI
          cd := by
            obtain ⟨c, o, v2, t, q1, q2, q3, q4⟩ := hrec
            refine ⟨c, o, v2, t, q1, (sb₄.2 c fun r => ?_).trans q2, q3, q4⟩
            rw [r, eoI] at q2; cases q2; rw [doI] at q3; cases q3
          dig := by
            obtain ⟨v2, k, as, q1, q2, _⟩ := roD
            exact ⟨v2, k, q1, rdAll_inH q2⟩ }
        have kall : Keep (theCx prog w hb mg mb X) (Mset W []) h₁ h₄ := k₂.seq sb₂ (k₃.nil.trans k₄)
        -- what is left to do when the digits stand
        have fin : ∀ {h₅ : Heap} {tk₅ : Tok} {Γ' : G}, RelS (theCx prog w hb mg mb X) τ_i2d S W env Γ' own₂ h₅ → Γ' 2 = some (.p (.list (ys.map .int))) → Keep (theCx prog w hb mg mb X) (Mset W own₂) h₄ h₅ →
            wpAny (model prog w) (A.deeper env) (execs [st2 3] env) (fun f s' => Q (match f with | .ret v => v | _ => .none) s') (fun e s' => wpAny (model prog w) (A.deeper env) (leaving env e) (fun _ s'' => E e s'') (fun e' s'' => E e' s'') s') { s with heap := h₅, toks := tk₅ } := fun {h₅ tk₅ Γ'} re₅ hΓ' k₅ => by
          refine wpAny_execs_cons (i2_ret (C := theCx prog w hb mg mb X) _ S W own₂ _ _ Γ' (.ret (.p (.list (ys.map .int)))) _ _ ha' fe re₅ (by unfold fRet gv; rw [hΓ']; rfl) fun fl h₆ tk₆ own₆ rr k₆ sb₆ => ?_)
          obtain ⟨v, rfl, ok₆, rv⟩ := rr
          refine h v h₆ tk₆ ?_ rv
          have kk : Keep (theCx prog w hb mg mb X) (Mset W []) h₁ h₆ := k₂.seq sb₂ ((k₃.nil.trans k₄).trans (k₅.trans k₆))
          refine ⟨fun b o e _ ht => kk.get b o (Y.toInCall.keep b o e) (fun q => ?_) ht, fun b o e => kk.live b o (Y.toInCall.keep b o e), kk.tab⟩
          have hM : Mset W [] = W := by unfold Mset; simp
          rw [hM, ← hW] at q
          have hge : s.heap.objs.size ≤ b := by
            rcases List.mem_cons.mp q with rfl | q
            · exact Nat.le_refl _
            · obtain ⟨p, hp, rfl⟩ := List.mem_map.mp q
              have := Y.above p.1 p.2 hp
              rw [eloc] at this
              exact Nat.le_of_lt this
          exact absurd (Heap.lt_size e) (Nat.not_lt.mpr hge)
        refine wpAny_execs_cons ?_
        obtain ⟨p0, e0⟩ := i2_if
        rw [e0]
        refine wpAny_If (i2_test (C := theCx prog w hb mg mb X) _ _ _ _ Γ (a != 0) _ _ ha' fe.toFnEnv re₄.rel (by unfold bNz gv; rw [g0]) fun h₅ tk₅ k₅ => ?_)
        have re₅ := re₄.pure k₅
        by_cases hz : a = 0
        · rw [if_neg (by simp [hz])] at eys
          cases eys
          have hba : (a != 0) = false := by simp [hz]
          rw [hba]
          simp only [Bool.false_eq_true, if_false]
          exact wpAny_execs_nil (fin re₅ g2 k₅.nil)
        · rw [if_pos hz] at eys
          have hba : (a != 0) = true := by simp [hz]
          rw [hba]
          simp only [if_true]
          have H₅ : InnH (theCx prog w hb mg mb X) f D cD cN cI fdI h₅ xs := H.step I (fun b o e _ ht => k₅.get b o e (fun q => nomatch q) ht) re₅.ok (by
            obtain ⟨v2, k, q1, q2⟩ := H.dig
            exact ⟨v2, k, k₅.get _ _ q1 (fun q => nomatch q) (tab_ne re₄.ok.tab q1 fun _ q => nomatch q), rdAll_inH q2⟩)
          obtain ⟨p1, p2, p3, e, es, eib, eca, hst, hpl, hev, hsw⟩ := i2_ifbody
          have hes := i2_args g (n := n + 6)
          rw [eca] at hes
          rw [eib]
          refine wpAny_execs_cons (wpAny_Expr ?_ (by unfold interactive; rw [fe.toFnEnv.kind]; rfl) (hsw _))
          refine Call_ ?_ (hev _)
          refine wpAny_Name (wpAny_loadName_cell fe.toFnEnv.kind ((fe.toFnEnv.is _).trans rfl) eI H₅.kI ?_) rfl
          have hbb := hes env _ (A.deeper env) { s with heap := h₅, toks := tk₅ } Γ p2 _ (fun vs s₁ => (∃ o, s₁.heap.get? f = some o ∧ o.data = .func fdI) ∧ wpAny (model prog w) (A.deeper env) (call (.ref f) vs) (fun v s' => match v with | .ref a => False | x => wpAny (model prog w) (A.deeper env) (execs [] env) (fun f s' => match f with | .next => wpAny (model prog w) (A.deeper env) (execs [st2 3] env) (fun f s' => Q (match f with | .ret v => v | _ => .none) s') (fun e s' => wpAny (model prog w) (A.deeper env) (leaving env e) (fun _ s'' => E e s'') (fun e' s'' => E e' s'') s') s' | f => Q (match f with | .ret v => v | _ => .none) s') (fun e s' => wpAny (model prog w) (A.deeper env) (leaving env e) (fun _ s'' => E e s'') (fun e' s'' => E e' s'') s') s') (fun e s' => wpAny (model prog w) (A.deeper env) (leaving env e) (fun _ s'' => E e s'') (fun e' s'' => E e' s'') s') s₁)
            (fun e s' => wpAny (model prog w) (A.deeper env) (leaving env e) (fun _ s'' => E e s'') (fun e' s'' => E e' s'') s') ha' fe.toFnEnv re₅.rel (i2_args_eq g0 g2 (by omega)) fun vs h₆ tk₆ k₆ rs => by
              have re₆ := re₅.pure k₆
              have H₆ : InnH (theCx prog w hb mg mb X) f D cD cN cI fdI h₆ xs := H₅.step I (fun b o e _ ht => k₆.get b o e (fun q => nomatch q) ht) re₆.ok (by
                obtain ⟨v2, k, q1, q2⟩ := H₅.dig
                exact ⟨v2, k, k₆.get _ _ q1 (fun q => nomatch q) (tab_ne re₅.ok.tab q1 fun _ q => nomatch q), rdAll_inH q2⟩)
              refine ⟨H₆.fn, ?_⟩
              obtain ⟨v1, v2, v3, rfl, r1, r2, r3⟩ := rvAll3 rs
              obtain ⟨t1, rfl⟩ := of_int r1
              obtain ⟨t2, rfl⟩ := of_int r2
              obtain ⟨t3, rfl⟩ := of_int r3
              rw [← hxl] at eys
              refine inner_ok I 4 _ _ a 0 xs.length t1 t2 t3 xs ys _ _ (ha'.mono (by omega)) H₆ eys fun h₇ tk₇ k₇ H₇ => ?_
              obtain ⟨dv, dk, eD7, rD7⟩ := H₇.dig
              have re₇ := re₆.mutK (d' := .p (.list (ys.map .int))) g2 hlD k₇ ⟨_, eD7, .inr (.inr ⟨_, _, rfl⟩)⟩ ⟨dv, dk, [], eD7, rD7, fun _ hb => nomatch hb⟩
              refine wpAny_execs_nil (fin re₇ (if_pos rfl) ?_)
              refine k₅.nil.trans (k₆.nil.trans (k₇.mono fun b hb => ?_))
              rw [List.mem_singleton.mp hb]; exact own_in (lookup_mem hlD)
          rw [hst] at hbb ⊢
          refine callWith_of (P := fun h => ∃ o, h.get? f = some o ∧ o.data = .func fdI) ?_ (fun h' ex => ⟨.frame, .inl rfl, ?_⟩) (Calls.evalArgs_plain hbb)
          · show ((false || (backTo p2 (starEach es env)).any (·.1)) || false) = false
            rw [hpl]; rfl
          · obtain ⟨⟨c0, d0, dt0, s0⟩, e', hd⟩ := ex
            cases hd
            exact (Looks.ld (part := none) e').andThen .now
      · cases eys
    · cases ef
  · cases ef
end Mine
end
section -- A2
open PySem PySem.Spec PySem.Calls PySem.W PyProof.Rows
set_option Elab.async false
set_option maxRecDepth 100000
namespace Mine
variable {prog : Program} {w : World} {hb : Heap} {mg mb : Str → Option Value} (X : Facts hb mg mb) {n : Nat}

theorem hτ1 {a : Str} {r : List Str} : ∀ (i : Nat) (x : Str), [a][i]? = some x → (a :: r)[i]? = some x := fun i x h => by
  match i, h with
  | 0, h => exact h
  | _ + 1, h => cases h
theorem hτ2 {a b : Str} {r : List Str} : ∀ (i : Nat) (x : Str), [a, b][i]? = some x → (a :: b :: r)[i]? = some x := fun i x h => by
  match i, h with
  | 0, h => exact h
  | 1, h => exact h
  | _ + 2, h => cases h
theorem hτ3 {a b c : Str} {r : List Str} : ∀ (i : Nat) (x : Str), [a, b, c][i]? = some x → (a :: b :: c :: r)[i]? = some x := fun i x h => by
  match i, h with
  | 0, h => exact h
  | 1, h => exact h
  | 2, h => exact h
  | _ + 3, h => cases h

theorem re_sub1 : ReSub (theCx prog w hb mg mb X) n (Str.ofString "_twin_re_1") B_sub1 := resub1 X.m_re1 X.pat1 (by decide : (85 : Nat) ≠ 33) (by decide : (84 : Nat) ≠ 33)
theorem re_sub2 : ReSub (theCx prog w hb mg mb X) n (Str.ofString "_twin_re_2") B_sub2 := resub2 X.m_re2 X.pat2 (by decide : (90 : Nat) ≠ 33) (by decide : (89 : Nat) ≠ 33)
theorem fs_nost : FS (theCx prog w hb mg mb X) 2 (.ref 137) B_nost := fs_of X (τ := τ_nost) X.d_nost (by decide +kernel) hτ2 (by decide +kernel) (by decide +kernel) rfl rfl rfl (ss_nost (gcx_of X) (Nat.le_refl _))
theorem fs_count : FS (theCx prog w hb mg mb X) 1 (.ref 80) B_count := fs_of X (τ := τ_count) X.d_count (by decide +kernel) hτ1 (by decide +kernel) (by decide +kernel) rfl rfl rfl (ss_count (gcx_of X))
theorem fs_addc : FS (theCx prog w hb mg mb X) 1 (.ref 73) B_addc := fs_of X (τ := τ_addc) X.d_addc (by decide +kernel) hτ2 (by decide +kernel) (by decide +kernel) rfl rfl rfl (ss_addc (gcx_of X))
theorem fs_quote : FS (theCx prog w hb mg mb X) 1 (.ref 97) B_quote := fs_of X (τ := τ_quote) X.d_quote (by decide +kernel) hτ1 (by decide +kernel) (by decide +kernel) rfl rfl rfl (ss_quote (gcx_of X) (re_sub2 X) (re_sub1 X))
theorem fs_fix : FS (theCx prog w hb mg mb X) 1 (.ref 104) B_fix := fs_of X (τ := τ_fix) X.d_fix (by decide +kernel) hτ1 (by decide +kernel) (by decide +kernel) rfl rfl rfl (ss_fix (gcx_of X) (re_sub2 X))
theorem fs_columns : FS (theCx prog w hb mg mb X) 2 (.ref 116) B_columns := fs_of X (τ := τ_columns) X.d_columns (by decide +kernel) hτ2 (by decide +kernel) (by decide +kernel) rfl rfl rfl
  (ss_columns (gcx_of X) (defIn_of X X.m_quote X.d_quote) (fs_quote X) (Nat.le_refl _) (defIn_of X X.m_fix X.d_fix) (fs_fix X))
theorem d_addc' : DefIn (theCx prog w hb mg mb X) (Str.ofString "add_callers") 73 := defIn_of X X.m_addc X.d_addc
theorem ss_ways' : SS (theCx prog w hb mg mb X) τ_ways (kOf (topStmt 16)) 1 (bodyOf (topStmt 16)) F_ways := @ss_ways (theCx prog w hb mg mb X) (gcx_of X) 1 73 (d_addc' X) (fs_addc X)
theorem fs_ways : FS (theCx prog w hb mg mb X) 2 (.ref 123) B_ways := by
  have h := @ss_ways' prog w hb mg mb X
  apply @fs_of prog w hb mg mb X 1 123 (topStmt 16) _ τ_ways F_ways X.d_ways (by decide +kernel) hτ1 (by decide +kernel) (by decide +kernel) rfl rfl rfl
  assumption
theorem fs_boxes : FS (theCx prog w hb mg mb X) 8 (.ref 130) B_boxes := fs_of X (τ := τ_boxes) X.d_boxes (by decide +kernel) hτ1 (by decide +kernel) (by decide +kernel) rfl rfl rfl
  (ss_boxes (gcx_of X) (defIn_of X X.m_i2d X.d_i2d) (fs_i2d X (gcx_of X) (n := 0)))

theorem ordAll : OrdAll (theCx prog w hb mg mb X) 59 := by
  obtain ⟨mN, n1, n2, n3, n4, n5, n6, n7⟩ := X.clsNs
  obtain ⟨oI, fdI, eI, cI, dI, bI, sI, _, _, _, cdI, bdI⟩ := X.d_init
  obtain ⟨oC, fdC, eC, cC, dC, _⟩ := X.d_compare
  refine ⟨62, 61, 52, oI, mN, Str.ofString "self", Str.ofString "comp_select_list", oC, fdC, ?_, ?_, X.m_cls, n7, eC, cC, dC, (by decide : (59 : Nat) ≠ 33)⟩
  · exact ⟨fun h v as => Iff.rfl, X.cls, (by decide : (62 : Nat) ≠ 33), n1, (by decide : (61 : Nat) ≠ 33), n2, n3, n4, n5, n6, eI, cI, (by decide : (52 : Nat) ≠ 33)⟩
  · refine ⟨⟨fdI, _, _, _, _, dI, bI, fun v u => bdI [v, u] rfl, ?_, ?_, ?_, ?_, ?_, ?_, fun h ok => codeRec_ok X cdI ok⟩, by decide +kernel, by decide +kernel, by decide +kernel⟩
    · rw [sI]; decide +kernel
    · rw [sI]; decide +kernel
    · rw [sI]; decide +kernel
    · rw [sI]; rfl
    · rw [sI]; rfl
    · rw [sI]; rfl
theorem fs_compare : FS (theCx prog w hb mg mb X) 1 (.ref 59) B_compare := fs_of X (τ := τ_compare) X.d_compare (by decide +kernel) hτ3 (by decide +kernel) (by decide +kernel) rfl rfl rfl (ss_compare (gcx_of X) (ordAll X))

theorem fs_law : FS (theCx prog w hb mg mb X) 9 (.ref 142) B_law := fs_ofC X (τ := τ_law) X.d_law (by decide +kernel) hτ1 (by decide +kernel) (by decide +kernel) rfl rfl rfl
  (ss_law (gcx_of X) (defIn_of X X.m_draw X.d_draw) ((fs_draw X).mono (by decide)) (defIn_of X X.m_columns X.d_columns) ((fs_columns X).mono (by decide)) (by decide) (defIn_of X X.m_ways X.d_ways) ((fs_ways X).mono (by decide))
    (defIn_of X X.m_count X.d_count) ((fs_count X).mono (by decide)) (defIn_of X X.m_boxes X.d_boxes) (fs_boxes X) (defIn_of X X.m_nost X.d_nost) ((fs_nost X).mono (by decide)) (ordAll X) (by decide) ((fs_compare X).mono (by decide)))
end Mine
end
section -- A3
open PySem PySem.Spec PySem.Calls PySem.W PyProof.Rows
set_option Elab.async false
set_option maxRecDepth 100000
namespace Mine

theorem rdAll_ofWell {P : Params} {h : Heap} : ∀ {vs : List Value} {ns : List Int}, WellAll P h vs (ofPys (ns.map .int)) → RdAll h vs (ns.map .int) []
  | [], [], _ => .nil
  | _ :: _, _ :: _, .cons r rs => by
    cases r
    exact .cons (as := []) (.int _ _) (rdAll_ofWell rs)
  | [], _ :: _, r => nomatch r
  | _ :: _, [], r => nomatch r

theorem callerOk : AOk 9 callerA := ⟨rfl, by decide, by decide⟩

theorem finish {prog : Program} {w : World} {s₁ : Shared} {mg mb : Str → Option Value} (X : Facts s₁.heap mg mb) {fa : Addr} (hmg : mg (Str.ofString "law") = some (.ref fa)) {a : Addr} {ns : List Int} {P : Params}
    (w1 : Well P s₁.heap (.ref a) (ofPy (.list (ns.map .int)))) (hg : s₁.gens = #[]) {c : ClaimW} {cl : Str → Option Addr} {mean : ExcName → Option Value} {args : List WData} (hr : ∀ cls, c.raises args cls = false) (hp : c.post args (.bool true) args = true)
    (hL : B_law [.p (.list (ns.map .int))] = some (.p (.bool true))) :
    wpAny (model prog w) callerA (call (.ref fa) [.ref a]) (fun v s' => GoodWG c cl mean args s₁ (.ok (.ret v)) s') (fun e s' => GoodWG c cl mean args s₁ (.error e) s') s₁ := by
  rw [X.m_law] at hmg
  cases hmg
  have hrd : Rd s₁.heap (.ref a) (.list (ns.map .int)) [a] := by
    cases w1 with
    | list e ws => exact .list e (rdAll_ofWell (by simpa using ws))
  have ok : HOk (theCx prog w s₁.heap mg mb X) s₁.heap := ⟨fun b o e _ => e, X.code, .inl X.tab⟩
  refine fs_law (prog := prog) (w := w) X [] callerA s₁ [.ref a] [.p (.list (ns.map .int))] _ _ _ callerOk ok (fun _ hb => nomatch hb) (.cons ⟨[a], hrd, fun _ _ q => nomatch q⟩ .nil) hL fun v h' tk k rv => ?_
  have hv := of_bool rv
  subst hv
  refine ⟨.inl ⟨_, .bool true, [], rfl, hr, .bool true, hp, fun _ => ⟨List.nodup_nil, fun _ hb => nomatch hb⟩⟩, ⟨fun b o e => ?_, fun b o e => k.live b o e⟩, rfl, .of_eq hg⟩
  by_cases hb : b = 33
  · subst hb
    rw [X.tab] at e; cases e
    have ht : TabIs h' := k.tab
    rcases ht.2 with q | ⟨c', q, _⟩
    · exact .inl q
    · exact .inr (.inl ⟨(X.code.tab X.tab).isCodeTable, rfl, #[], _, rfl, by rw [Array.empty_append]; exact q⟩)
  · exact .inl (k.get b o e (fun q => nomatch q) hb)
end Mine
end
section -- L1
open PySem PySem.Spec PySem.Calls PySem.W PyProof.Rows
set_option Elab.async false
set_option maxRecDepth 100000
namespace Mine

-- names by lists
noncomputable def gl (l : List (Option DV)) : G := fun i => l.getD i none
theorem gset_gl {l : List (Option DV)} {i : Nat} {d : DV} (h : i < l.length) : gset (gl l) i d = gl (l.set i (some d)) := by
  funext j
  unfold gset gl
  rw [List.getD_eq_getElem?_getD, List.getD_eq_getElem?_getD, List.getElem?_set]
  by_cases hj : j = i
  · subst hj; rw [if_pos rfl, if_pos rfl, if_pos h]; rfl
  · rw [if_neg hj, if_neg (Ne.symm hj)]
theorem gArgs_gl (ds : List DV) (k : Nat) : gArgs ds = gl (ds.map some ++ List.replicate k none) := by
  funext i
  unfold gArgs gl
  rw [List.getD_eq_getElem?_getD]
  by_cases h : i < ds.length
  · rw [List.getElem?_append_left (by simpa using h), List.getElem?_map, List.getElem?_eq_getElem h]; rfl
  · rw [List.getElem?_append_right (by simpa using h), List.getElem?_replicate, List.getElem?_eq_none (by omega)]
    split <;> rfl

theorem fSeq_next {F1 F2 : G → List Nat → Option Res} {Γ Γ' : G} {O O' : List Nat} (h : F1 Γ O = some (.next Γ' O')) : fSeq F1 F2 Γ O = F2 Γ' O' := by unfold fSeq; rw [h]
theorem fSeq_ret {F1 F2 : G → List Nat → Option Res} {Γ : G} {O : List Nat} {d : DV} (h : F1 Γ O = some (.ret d)) : fSeq F1 F2 Γ O = some (.ret d) := by unfold fSeq; rw [h]
theorem fFor_of {g : G → List Nat → Option (List PyData × List Nat)} {B : PyData → G → List Nat → Option (G × List Nat)} {F : G → List Nat → Option Res} {Γ : G} {O O' : List Nat} {ds : List PyData} (h : g Γ O = some (ds, O')) : fFor g B F Γ O = forF B F ds Γ O' := by
  unfold fFor; rw [h]
theorem forF_cons {B : PyData → G → List Nat → Option (G × List Nat)} {F : G → List Nat → Option Res} {Γ Γ1 Γ2 : G} {O O1 O2 : List Nat} {d : PyData} {ds : List PyData} (h1 : B d Γ O = some (Γ1, O1)) (h2 : F Γ1 O1 = some (.next Γ2 O2)) : forF B F (d :: ds) Γ O = forF B F ds Γ2 O2 := by
  rw [forF, h1]; dsimp only; rw [h2]
theorem fAssign_of {i : Nat} {f : G → Option DV} {Γ : G} {O : List Nat} {d : DV} (h : f (gdrop Γ O) = some d) : fAssign i f Γ O = some (.next (gset Γ i d) (O.filter fun j => !(j == i))) := by
  unfold fAssign evA; rw [h]
theorem fCond_of {ft : G → Option Bool} {F1 F2 : G → List Nat → Option Res} {Γ : G} {O : List Nat} {b : Bool} (h : ft Γ = some b) : fCond ft F1 F2 Γ O = if b then F1 Γ O else F2 Γ O := by
  unfold fCond; rw [h]; cases b <;> rfl
theorem fCall_of {F : List DV → Option DV} {g : G → Option (List DV)} {Γ : G} {ds : List DV} (h : g Γ = some ds) : fCall F g Γ = F ds := by unfold fCall; rw [h]
theorem gdrop_gl2 {l : List (Option DV)} : gdrop (gl l) [2] = gl (l.set 2 none) := by
  funext j
  unfold gdrop gl
  rw [List.getD_eq_getElem?_getD, List.getD_eq_getElem?_getD, List.getElem?_set]
  by_cases hj : j = 2
  · subst hj
    rw [if_pos (by decide), if_pos rfl]
    split <;> rfl
  · rw [if_neg (by simp [hj]), if_neg (Ne.symm hj)]
theorem gdrop_nil {Γ : G} : gdrop Γ [] = Γ := by
  funext j; unfold gdrop; rw [if_neg (by simp)]

/-- a comprehension of one clause, no test -/
theorem fComp_of {fr : List (Nat × Nat)} {g : G → Option (List PyData)} {vs : List Nat} {f : G → Option (List PyData)} {Γ : G} {ds ys : List PyData} (h0 : ((fr.all fun p => (Γ p.2).isSome) && (vs.all fun v => (fr.lookup v).isNone)) = true) (hg : g Γ = some ds)
    (hl : ds.length ≤ 1000) (hy : ds.length = ys.length) (h : ∀ i (hi : i < ds.length), f (gset (gFree fr Γ) 0 (.p ds[i])) = some [ys[i]]) : fComp fr g (bName 0) vs tTrue f Γ = some (.p (.list ys)) := by
  have comp : ∀ (ds ys : List PyData), ds.length = ys.length → (∀ i (hi : i < ds.length) (hi' : i < ys.length), f (gset (gFree fr Γ) 0 (.p ds[i])) = some [ys[i]]) → compS (bName 0) vs tTrue f (gFree fr Γ) ds = some ys := fun ds => by
    induction ds with
    | nil => intro ys hy _; cases ys with | nil => rfl | cons => cases hy
    | cons d r ih =>
      intro ys hy h
      cases ys with
      | nil => cases hy
      | cons y q =>
        have e0 := h 0 (Nat.succ_pos _) (Nat.succ_pos _)
        have e1 := ih q (by simpa using hy) fun i hi hi' => h (i + 1) (Nat.succ_lt_succ hi) (Nat.succ_lt_succ hi')
        unfold compS bName tTrue
        simp only [List.getElem_cons_zero] at e0
        dsimp only
        rw [e0]
        dsimp only
        unfold bName tTrue at e1
        rw [e1]; rfl
  unfold fComp
  rw [if_pos h0, hg]
  dsimp only
  rw [comp ds ys hy fun i hi hi' => h i hi]
  dsimp only
  rw [if_pos (by omega)]

-- the rows
noncomputable def tailS : Nat → Str
  | 0 => Str.ofString "x"
  | 1 => Str.ofString "-."
  | _ => Str.ofString "x.."
noncomputable def endS : Nat → Str
  | 0 => Str.ofString "\n"
  | 1 => Str.ofString "\r"
  | _ => Str.ofString "\r\n"
noncomputable def rowS (n t : Nat) : Str := Txt.mul (Str.ofString ".") n ++ tailS t
noncomputable def stS (n t : Nat) : Str := if n = 0 then rowS 0 t else rowS (n + 1) t
noncomputable abbrev rowL (n t : Nat) : List Nat := (rowS n t).cps.toList
noncomputable abbrev stL (n t : Nat) : List Nat := (stS n t).cps.toList
theorem row_facts : ∀ n < 4, ∀ t < 3, (Txt.item (rowS n t) 0 == Str.ofString ".") = decide (0 < n) ∧ 0 < (rowS n t).length ∧ (rowS n t).length ≤ 10 ∧ Str.ofString "." ++ rowS n t = rowS (n + 1) t ∧
    Txt.slice (rowS n t) (some 1) none = (if n = 0 then Txt.slice (rowS 0 t) (some 1) none else rowS (n - 1) t) ∧ (rowL n t).all (fun c => c != 10 && c != 13) = true ∧ (stL n t) = (if (rowL n t).head? = some 46 then 46 :: rowL n t else rowL n t) ∧
    (rowL n t).head? ≠ none ∧ (stL n t).length = (rowL n t).length + (if n = 0 then 0 else 1) := by decide +kernel
end Mine
end
section -- L2
open PySem PySem.Spec PySem.Calls PySem.W PyProof.Rows
set_option Elab.async false
set_option maxRecDepth 100000
namespace Mine

theorem noeol_of {r : List Nat} (h : r.all (fun c => c != 10 && c != 13) = true) : ∀ c ∈ r, isEol c = false := fun c hc => by
  have := List.all_eq_true.mp h c hc
  rw [Bool.and_eq_true, bne_iff_ne, bne_iff_ne] at this
  unfold isEol
  rw [Bool.or_eq_false_iff, beq_eq_false_iff_ne, beq_eq_false_iff_ne]; exact this
theorem head_ne {r s : List Nat} (h : ∀ c ∈ r, isEol c = false) (hn : r.head? ≠ none) : ∀ q, r ++ s ≠ 10 :: q := fun q e => by
  cases r with
  | nil => exact hn rfl
  | cons c r =>
    injection e with e1 e2
    have := h c (.head _)
    rw [e1] at this; exact absurd this (by decide)
theorem eol2_end (u : Nat) {r : List Nat} (h : ∀ q, r ≠ 10 :: q) : eol2 ((endS u).cps.toList ++ r) = 13 :: 10 :: eol2 r := by
  match u with
  | 0 => have e : (endS 0).cps.toList = [10] := by decide +kernel
         rw [e]; exact eol2_lf r
  | 1 => have e : (endS 1).cps.toList = [13] := by decide +kernel
         rw [e]; exact eol2_cr h
  | u + 2 => have e : (endS (u + 2)).cps.toList = [13, 10] := by show (Str.ofString "\r\n").cps.toList = _; decide +kernel
             rw [e]; exact eol2_crlf r
theorem dot1_plain {r s : List Nat} (h : ∀ c ∈ r, isEol c = false) : dot1 false (r ++ s) = r ++ dot1 false s := by
  induction r with
  | nil => rfl
  | cons c r ih =>
    rw [List.cons_append, dot1_cons, if_neg (by simp)]
    have hc := h c (.head _)
    have e : decide (c = 10) = false := by
      unfold isEol at hc
      rw [Bool.or_eq_false_iff, beq_eq_false_iff_ne] at hc
      exact decide_eq_false hc.1
    rw [e, ih fun c hc => h c (.tail _ hc)]; rfl
theorem dot1_row {r s : List Nat} (h : ∀ c ∈ r, isEol c = false) (hn : r.head? ≠ none) : dot1 true (r ++ s) = (if r.head? = some 46 then 46 :: r else r) ++ dot1 false s := by
  cases r with
  | nil => exact absurd rfl hn
  | cons c r =>
    rw [List.cons_append, dot1_cons]
    have hc := h c (.head _)
    have hr := dot1_plain (s := s) fun c hc => h c (.tail _ hc)
    by_cases q : c = 46
    · subst q
      rw [if_pos ⟨rfl, rfl⟩, if_pos (show (46 :: r).head? = some 46 from rfl), hr]; rfl
    · rw [if_neg fun x => q x.2, if_neg (by simpa using q)]
      have e : decide (c = 10) = false := by
        unfold isEol at hc
        rw [Bool.or_eq_false_iff, beq_eq_false_iff_ne] at hc
        exact decide_eq_false hc.1
      rw [e, hr]; rfl
theorem dot1_eol (s : List Nat) : dot1 false (13 :: 10 :: s) = 13 :: 10 :: dot1 true s := by
  rw [dot1_cons, if_neg (by simp), dot1_cons, if_neg (by simp)]; rfl

/-- a row that may stand in a text -/
structure RowOk (r : List Nat) : Prop where
  no : ∀ c ∈ r, isEol c = false
  ne : r.head? ≠ none
  le : r.length ≤ 10
theorem rowOk {n t : Nat} (hn : n < 4) (ht : t < 3) : RowOk (rowL n t) := by
  obtain ⟨_, _, h3, _, _, h6, _, h8, _⟩ := row_facts n hn t ht
  exact ⟨noeol_of h6, h8, by have : (rowL n t).length = (rowS n t).length := Array.length_toList; omega⟩
theorem stL_eq {n t : Nat} (hn : n < 4) (ht : t < 3) : stL n t = if (rowL n t).head? = some 46 then 46 :: rowL n t else rowL n t := (row_facts n hn t ht).2.2.2.2.2.2.1

theorem text_eol {r0 r1 r2 r3 : List Nat} (u0 u1 u2 : Nat) (h0 : RowOk r0) (h1 : RowOk r1) (h2 : RowOk r2) (h3 : RowOk r3) :
    eol2 (r0 ++ ((endS u0).cps.toList ++ (r1 ++ ((endS u1).cps.toList ++ (r2 ++ ((endS u2).cps.toList ++ r3)))))) = r0 ++ 13 :: 10 :: (r1 ++ 13 :: 10 :: (r2 ++ 13 :: 10 :: r3)) := by
  have e3 : eol2 r3 = r3 := by
    have := eol2_pre (r := []) h3.no
    rw [List.append_nil] at this
    rw [this]; show _ ++ [] = _; rw [List.append_nil]
  rw [eol2_pre h0.no, eol2_end u0 (head_ne h1.no h1.ne), eol2_pre h1.no, eol2_end u1 (head_ne h2.no h2.ne), eol2_pre h2.no, eol2_end u2 (by have := head_ne (s := []) h3.no h3.ne; rw [List.append_nil] at this; exact this), e3]
theorem text_dot {r0 r1 r2 r3 : List Nat} (h0 : RowOk r0) (h1 : RowOk r1) (h2 : RowOk r2) (h3 : RowOk r3) :
    dot1 true (r0 ++ 13 :: 10 :: (r1 ++ 13 :: 10 :: (r2 ++ 13 :: 10 :: r3))) =
      (if r0.head? = some 46 then 46 :: r0 else r0) ++ 13 :: 10 :: ((if r1.head? = some 46 then 46 :: r1 else r1) ++ 13 :: 10 :: ((if r2.head? = some 46 then 46 :: r2 else r2) ++ 13 :: 10 :: (if r3.head? = some 46 then 46 :: r3 else r3))) := by
  have e3 : dot1 true r3 = if r3.head? = some 46 then 46 :: r3 else r3 := by
    have := dot1_row (s := []) h3.no h3.ne
    rw [List.append_nil] at this
    rw [this]; show _ ++ [] = _; rw [List.append_nil]
  rw [dot1_row h0.no h0.ne, dot1_eol, dot1_row h1.no h1.ne, dot1_eol, dot1_row h2.no h2.ne, dot1_eol, e3]

theorem str_ext {a b : Str} (h : a.cps.toList = b.cps.toList) : a = b := by
  cases a; cases b; congr 1; exact Array.toList_inj.mp h
theorem join4 (a b c d : Str) : (Txt.join (Str.ofString "\r\n") [a, b, c, d]).cps.toList = a.cps.toList ++ 13 :: 10 :: (b.cps.toList ++ 13 :: 10 :: (c.cps.toList ++ 13 :: 10 :: d.cps.toList)) := by
  have e : (Str.ofString "\r\n").cps.toList = [13, 10] := by decide +kernel
  unfold Txt.join
  rw [StrLaws.glued_eq_join]
  show (a ++ Str.ofString "\r\n" ++ (b ++ Str.ofString "\r\n" ++ (c ++ Str.ofString "\r\n" ++ d))).cps.toList = _
  simp only [cps_toList_append, e, List.append_assoc, List.cons_append, List.nil_append]
theorem joinOk4 {a b c d : Str} (h : a.length + b.length + c.length + d.length ≤ 1000) : JoinOk (Str.ofString "\r\n") [a, b, c, d] = true := by
  have e : (Str.ofString "\r\n").length = 2 := by decide +kernel
  unfold JoinOk
  show (!Builtin.Str.tooLong (0 + a.length + (Str.ofString "\r\n").length + b.length + (Str.ofString "\r\n").length + c.length + (Str.ofString "\r\n").length + d.length + (Str.ofString "\r\n").length)) = true
  rw [e]
  unfold Builtin.Str.tooLong
  have : (2000 : Nat) ≤ sizeLine := by decide
  rw [Bool.not_eq_true', decide_eq_false_iff_not]
  omega
end Mine
end
section -- L3
open PySem PySem.Spec PySem.Calls PySem.W PyProof.Rows
set_option Elab.async false
set_option maxRecDepth 100000
namespace Mine
noncomputable def F_turn : G → List Nat → Option Res := (fSeq (fAssign 4 (op2 oSub (gv 0) (fun _ => some (dint 0)))) (fSeq (fFor (gRange (fun _ => some (dint 3))) (bName 5) (fSeq (fAssign 4 (op2 oAdd (op2 oAdd (gv 4) (op2 oSub (gv 1) (gv 5))) (op2 oSub (gv 0) (op2 oAdd (gv 5) (fun _ => some (dint 1)))))) fDone)) (fSeq (fAssign 6 (fCall B_quote (fcons (gv 4) fnil))) (fSeq (fCond (fun Γ => asB (op2 oNe (gv 6) (fJoin (Str.ofString "\r\n") (fComp [] (gList0 (gv 0)) (bName 0) [0] tTrue (cEmit (fIf (fun Γ => asB (op2 oEq (op2 oSub (gv 0) (fun _ => some (dint 0))) (fun _ => some (dstr (Str.ofString "."))) Γ)) (op2 oAdd (fun _ => some (dstr (Str.ofString "."))) (gv 0)) (gv 0))))) Γ)) (fSeq (fRet (fList fnil)) fDone) fDone) (fSeq (fAppend 2 (op2 oSub_ (fCall bLen (fcons (gv 6) fnil)) (fCall bLen (fcons (fCall B_fix (fcons (gv 4) fnil)) fnil)))) (fSeq (fAssign 0 (fComp [] (gList0 (gv 0)) (bName 0) [0] tTrue (cEmit (fIf (fun Γ => asB (op2 oEq (op2 oSub (gv 0) (fun _ => some (dint 0))) (fun _ => some (dstr (Str.ofString "."))) Γ)) (fFrom 1 (gv 0)) (gv 0))))) fDone))))))
theorem F_columns_eq : F_columns = fSeq (fNew 2 (.p (.list []))) (fSeq (fFor (gRange (fun _ => some (dint 3))) (bName 3) F_turn) (fSeq (fRet (gv 2)) fDone)) := rfl

section
variable {n0 n1 n2 n3 t0 t1 t2 t3 u0 u1 u2 : Nat}
noncomputable abbrev dRows (n0 n1 n2 n3 t0 t1 t2 t3 : Nat) : DV := .p (.list [.str (rowS n0 t0), .str (rowS n1 t1), .str (rowS n2 t2), .str (rowS n3 t3)])
noncomputable abbrev dEnds (u0 u1 u2 : Nat) : DV := .p (.list [.str (endS u0), .str (endS u1), .str (endS u2)])
noncomputable def textS (n0 n1 n2 n3 t0 t1 t2 t3 u0 u1 u2 : Nat) : Str := rowS n0 t0 ++ endS u0 ++ rowS n1 t1 ++ endS u1 ++ rowS n2 t2 ++ endS u2 ++ rowS n3 t3
theorem oAdd_str {x y : Str} (h : x.length + y.length ≤ 1000) : oAdd (dstr x) (dstr y) = some (dstr (x ++ y)) := by
  have : (1000 : Nat) ≤ sizeLine := by decide
  show (if x.length + y.length ≤ sizeLine then some (dstr (x ++ y)) else none) = _
  rw [if_pos (by omega)]
theorem len_append (a b : Str) : (a ++ b).length = a.length + b.length := by
  have : (a ++ b).cps.toList.length = a.cps.toList.length + b.cps.toList.length := by rw [cps_toList_append, List.length_append]
  exact (Array.length_toList.symm.trans this).trans (by rw [Array.length_toList, Array.length_toList]; rfl)
theorem end_len (u : Nat) : (endS u).length ≤ 2 := by
  match u with
  | 0 => decide +kernel
  | 1 => decide +kernel
  | u + 2 => show (Str.ofString "\r\n").length ≤ 2; decide +kernel
theorem row_len {n t : Nat} (hn : n < 4) (ht : t < 3) : (rowS n t).length ≤ 10 := (row_facts n hn t ht).2.2.1

/-- the text gathers -/
theorem turn_text {x2 x3 x6 : Option DV} {x4 x5 : Option DV} (hn0 : n0 < 4) (hn1 : n1 < 4) (hn2 : n2 < 4) (hn3 : n3 < 4) (ht0 : t0 < 3) (ht1 : t1 < 3) (ht2 : t2 < 3) (ht3 : t3 < 3) :
    forF (bName 5) (fSeq (fAssign 4 (op2 oAdd (op2 oAdd (gv 4) (op2 oSub (gv 1) (gv 5))) (op2 oSub (gv 0) (op2 oAdd (gv 5) (fun _ => some (dint 1)))))) fDone) [.int 0, .int 1, .int 2]
      (gl [some (dRows n0 n1 n2 n3 t0 t1 t2 t3), some (dEnds u0 u1 u2), x2, x3, some (dstr (rowS n0 t0)), x5, x6]) [2] =
    some (.next (gl [some (dRows n0 n1 n2 n3 t0 t1 t2 t3), some (dEnds u0 u1 u2), x2, x3, some (dstr (textS n0 n1 n2 n3 t0 t1 t2 t3 u0 u1 u2)), some (dint 2), x6]) [2]) := by
  have l0 := row_len hn0 ht0
  have l1 := row_len hn1 ht1
  have l2 := row_len hn2 ht2
  have l3 := row_len hn3 ht3
  have m0 := end_len u0
  have m1 := end_len u1
  have m2 := end_len u2
  have one : ∀ (T E R : Str) (k : Int) (y5 : Option DV), T.length ≤ 100 → E.length ≤ 2 → R.length ≤ 10 →
      op2 oSub (gv 1) (gv 5) (gl [some (dRows n0 n1 n2 n3 t0 t1 t2 t3), some (dEnds u0 u1 u2), none, x3, some (dstr T), some (dint k), x6]) = some (dstr E) →
      op2 oSub (gv 0) (op2 oAdd (gv 5) (fun _ => some (dint 1))) (gl [some (dRows n0 n1 n2 n3 t0 t1 t2 t3), some (dEnds u0 u1 u2), none, x3, some (dstr T), some (dint k), x6]) = some (dstr R) →
      ∀ ds, forF (bName 5) (fSeq (fAssign 4 (op2 oAdd (op2 oAdd (gv 4) (op2 oSub (gv 1) (gv 5))) (op2 oSub (gv 0) (op2 oAdd (gv 5) (fun _ => some (dint 1)))))) fDone) (.int k :: ds)
        (gl [some (dRows n0 n1 n2 n3 t0 t1 t2 t3), some (dEnds u0 u1 u2), x2, x3, some (dstr T), y5, x6]) [2] =
      forF (bName 5) (fSeq (fAssign 4 (op2 oAdd (op2 oAdd (gv 4) (op2 oSub (gv 1) (gv 5))) (op2 oSub (gv 0) (op2 oAdd (gv 5) (fun _ => some (dint 1)))))) fDone) ds
        (gl [some (dRows n0 n1 n2 n3 t0 t1 t2 t3), some (dEnds u0 u1 u2), x2, x3, some (dstr (T ++ E ++ R)), some (dint k), x6]) [2] := fun T E R k y5 hT hE hR e1 e2 ds => by
    refine forF_cons (Γ1 := gl [some (dRows n0 n1 n2 n3 t0 t1 t2 t3), some (dEnds u0 u1 u2), x2, x3, some (dstr T), some (dint k), x6]) (O1 := [2]) ?_ ?_
    · unfold bName; rw [gset_gl (by simp)]; rfl
    · refine (fSeq_next (fAssign_of (d := dstr (T ++ E ++ R)) ?_)).trans ?_
      · rw [gdrop_gl2]
        show op2 oAdd (op2 oAdd (gv 4) (op2 oSub (gv 1) (gv 5))) (op2 oSub (gv 0) (op2 oAdd (gv 5) (fun _ => some (dint 1)))) (gl [some (dRows n0 n1 n2 n3 t0 t1 t2 t3), some (dEnds u0 u1 u2), none, x3, some (dstr T), some (dint k), x6]) = _
        have a1 := op2_of (o := oAdd) (f := gv 4) (g := op2 oSub (gv 1) (gv 5)) (a := dstr T) (b := dstr E) (Γ := gl [some (dRows n0 n1 n2 n3 t0 t1 t2 t3), some (dEnds u0 u1 u2), none, x3, some (dstr T), some (dint k), x6]) rfl e1
        rw [oAdd_str (by omega)] at a1
        rw [op2_of a1 e2, oAdd_str (by rw [len_append]; omega)]
      · rw [gset_gl (by simp)]; rfl
  rw [one (rowS n0 t0) (endS u0) (rowS n1 t1) 0 x5 (by omega) m0 l1 rfl rfl]
  rw [one _ (endS u1) (rowS n2 t2) 1 (some (dint 0)) (by simp only [len_append]; omega) m1 l2 rfl rfl]
  rw [one _ (endS u2) (rowS n3 t3) 2 (some (dint 1)) (by simp only [len_append]; omega) m2 l3 rfl rfl]
  rfl
end
end Mine
end
section -- L4
open PySem PySem.Spec PySem.Calls PySem.W PyProof.Rows
set_option Elab.async false
set_option maxRecDepth 100000
namespace Mine
theorem runF_of {k : Nat} {F : G → List Nat → Option Res} {ds : List DV} {d : DV} (hl : ds.length = k) (h : F (gArgs ds) [] = some (.ret d)) : runF k F ds = some d := by
  unfold runF; rw [if_pos hl, h]
theorem fIf_of {ft : G → Option Bool} {fb fo : G → Option DV} {Γ : G} {b : Bool} (h : ft Γ = some b) : fIf ft fb fo Γ = if b = true then fb Γ else fo Γ := by
  unfold fIf; rw [h]; cases b <;> rfl
theorem fRet_of {f : G → Option DV} {Γ : G} {O : List Nat} {d : DV} (h : f Γ = some d) : fRet f Γ O = some (.ret d) := by unfold fRet; rw [h]; rfl
noncomputable def eolS (T : Str) : Str := ⟨(eol2 T.cps.toList).toArray⟩
noncomputable def sentS (T : Str) : Str := ⟨(dot1 true (eol2 T.cps.toList)).toArray⟩
theorem sub2_eq {T : Str} (h : T.length ≤ 1000) : B_sub2 [dstr (Str.ofString "\r\n"), dstr T] = some (dstr (eolS T)) := by
  show (if Str.ofString "\r\n" = Str.ofString "\r\n" ∧ T.length ≤ 1000 then some (dstr (eolS T)) else none) = _
  rw [if_pos ⟨rfl, h⟩]
theorem fix_eq {T : Str} (h : T.length ≤ 1000) : B_fix [dstr T] = some (dstr (eolS T)) := by
  refine runF_of rfl (fSeq_ret (fRet_of ?_))
  rw [fCall_of (ds := [dstr (Str.ofString "\r\n"), dstr T]) rfl, sub2_eq h]
theorem quote_eq {T : Str} (h : T.length ≤ 1000) (h2 : (eolS T).length ≤ 1000) : B_quote [dstr T] = some (dstr (sentS T)) := by
  refine runF_of rfl (fSeq_ret (fRet_of ?_))
  have e : fCall B_sub2 (fcons (fun _ => some (dstr (Str.ofString "\r\n"))) (fcons (gv 0) fnil)) (gArgs [dstr T]) = some (dstr (eolS T)) := by
    rw [fCall_of (ds := [dstr (Str.ofString "\r\n"), dstr T]) rfl, sub2_eq h]
  rw [fCall_of (fcons_of rfl (fcons_of e rfl))]
  show (if Str.ofString ".." = Str.ofString ".." ∧ (eolS T).length ≤ 1000 then some (dstr ⟨(dot1 true (eolS T).cps.toList).toArray⟩) else none) = _
  rw [if_pos ⟨rfl, h2⟩]; rfl

section
variable {n0 n1 n2 n3 t0 t1 t2 t3 u0 u1 u2 : Nat}
theorem text_list : (textS n0 n1 n2 n3 t0 t1 t2 t3 u0 u1 u2).cps.toList = rowL n0 t0 ++ ((endS u0).cps.toList ++ (rowL n1 t1 ++ ((endS u1).cps.toList ++ (rowL n2 t2 ++ ((endS u2).cps.toList ++ rowL n3 t3))))) := by
  unfold textS; simp only [cps_toList_append, List.append_assoc]
noncomputable def cnt (n : Nat) : Nat := if n = 0 then 0 else 1
theorem eol_list (hn0 : n0 < 4) (hn1 : n1 < 4) (hn2 : n2 < 4) (hn3 : n3 < 4) (ht0 : t0 < 3) (ht1 : t1 < 3) (ht2 : t2 < 3) (ht3 : t3 < 3) :
    (eolS (textS n0 n1 n2 n3 t0 t1 t2 t3 u0 u1 u2)).cps.toList = rowL n0 t0 ++ 13 :: 10 :: (rowL n1 t1 ++ 13 :: 10 :: (rowL n2 t2 ++ 13 :: 10 :: rowL n3 t3)) := by
  unfold eolS
  rw [text_list]
  exact text_eol u0 u1 u2 (rowOk hn0 ht0) (rowOk hn1 ht1) (rowOk hn2 ht2) (rowOk hn3 ht3)
theorem sent_join (hn0 : n0 < 4) (hn1 : n1 < 4) (hn2 : n2 < 4) (hn3 : n3 < 4) (ht0 : t0 < 3) (ht1 : t1 < 3) (ht2 : t2 < 3) (ht3 : t3 < 3) :
    sentS (textS n0 n1 n2 n3 t0 t1 t2 t3 u0 u1 u2) = Txt.join (Str.ofString "\r\n") [stS n0 t0, stS n1 t1, stS n2 t2, stS n3 t3] := by
  apply str_ext
  rw [join4]
  have e : (sentS (textS n0 n1 n2 n3 t0 t1 t2 t3 u0 u1 u2)).cps.toList = dot1 true (eolS (textS n0 n1 n2 n3 t0 t1 t2 t3 u0 u1 u2)).cps.toList := rfl
  rw [e, eol_list hn0 hn1 hn2 hn3 ht0 ht1 ht2 ht3, text_dot (rowOk hn0 ht0) (rowOk hn1 ht1) (rowOk hn2 ht2) (rowOk hn3 ht3)]
  rw [← stL_eq hn0 ht0, ← stL_eq hn1 ht1, ← stL_eq hn2 ht2, ← stL_eq hn3 ht3]
theorem st_len {n t : Nat} (hn : n < 4) (ht : t < 3) : (stL n t).length = (rowL n t).length + cnt n := (row_facts n hn t ht).2.2.2.2.2.2.2.2
theorem lenS (x : Str) : x.length = x.cps.toList.length := Array.length_toList.symm

theorem row_cond {n t : Nat} (hn : n < 4) (ht : t < 3) {Γ : G} (h : Γ 0 = some (dstr (rowS n t))) : asB (op2 oEq (op2 oSub (gv 0) (fun _ => some (dint 0))) (fun _ => some (dstr (Str.ofString "."))) Γ) = some (decide (0 < n)) := by
  obtain ⟨h1, h2, _⟩ := row_facts n hn t ht
  have e : op2 oSub (gv 0) (fun _ => some (dint 0)) Γ = some (dstr (Txt.item (rowS n t) 0)) := by
    rw [op2_of (f := gv 0) (g := fun _ => some (dint 0)) (a := dstr (rowS n t)) (b := dint 0) h rfl]
    show (if (0 : Int) ≤ 0 ∧ (0 : Int) < (rowS n t).length ∧ (0 : Int) < 1000000 then some (dstr (Txt.item (rowS n t) 0)) else none) = _
    rw [if_pos ⟨by decide, by omega, by decide⟩]
  rw [op2_of (o := oEq) (f := op2 oSub (gv 0) (fun _ => some (dint 0))) (g := fun _ => some (dstr (Str.ofString "."))) (a := dstr (Txt.item (rowS n t) 0)) (b := dstr (Str.ofString ".")) e rfl]
  show some (Txt.item (rowS n t) 0 == Str.ofString ".") = _
  rw [h1]
theorem emit_st {n t : Nat} (hn : n < 4) (ht : t < 3) {Γ : G} (h : Γ 0 = some (dstr (rowS n t))) :
    cEmit (fIf (fun Γ => asB (op2 oEq (op2 oSub (gv 0) (fun _ => some (dint 0))) (fun _ => some (dstr (Str.ofString "."))) Γ)) (op2 oAdd (fun _ => some (dstr (Str.ofString "."))) (gv 0)) (gv 0)) Γ = some [.str (stS n t)] := by
  have e : fIf (fun Γ => asB (op2 oEq (op2 oSub (gv 0) (fun _ => some (dint 0))) (fun _ => some (dstr (Str.ofString "."))) Γ)) (op2 oAdd (fun _ => some (dstr (Str.ofString "."))) (gv 0)) (gv 0) Γ = some (dstr (stS n t)) := by
    rw [fIf_of (row_cond hn ht h)]
    unfold stS
    obtain ⟨_, _, h3, h4, _⟩ := row_facts n hn t ht
    by_cases q : n = 0
    · subst q; exact h
    · rw [if_neg q, decide_eq_true (Nat.pos_of_ne_zero q)]
      show op2 oAdd (fun _ => some (dstr (Str.ofString "."))) (gv 0) Γ = _
      have l1 : (Str.ofString ".").length = 1 := by decide +kernel
      rw [op2_of (o := oAdd) (f := fun _ => some (dstr (Str.ofString "."))) (g := gv 0) (a := dstr (Str.ofString ".")) (b := dstr (rowS n t)) rfl h, oAdd_str (by omega), h4]
  unfold cEmit; rw [e]
theorem emit_un {n t : Nat} (hn : n < 4) (ht : t < 3) {Γ : G} (h : Γ 0 = some (dstr (rowS n t))) :
    cEmit (fIf (fun Γ => asB (op2 oEq (op2 oSub (gv 0) (fun _ => some (dint 0))) (fun _ => some (dstr (Str.ofString "."))) Γ)) (fFrom 1 (gv 0)) (gv 0)) Γ = some [.str (rowS (n - 1) t)] := by
  have e : fIf (fun Γ => asB (op2 oEq (op2 oSub (gv 0) (fun _ => some (dint 0))) (fun _ => some (dstr (Str.ofString "."))) Γ)) (fFrom 1 (gv 0)) (gv 0) Γ = some (dstr (rowS (n - 1) t)) := by
    rw [fIf_of (row_cond hn ht h)]
    obtain ⟨_, _, h3, _, h5, _⟩ := row_facts n hn t ht
    by_cases q : n = 0
    · subst q; exact h
    · rw [decide_eq_true (Nat.pos_of_ne_zero q)]
      show fFrom 1 (gv 0) Γ = _
      unfold fFrom gv
      rw [h]
      dsimp only
      rw [if_pos (by omega), h5, if_neg q]
  unfold cEmit; rw [e]
end
end Mine
end
section -- L5
open PySem PySem.Spec PySem.Calls PySem.W PyProof.Rows
set_option Elab.async false
set_option maxRecDepth 100000
namespace Mine
section
variable {n0 n1 n2 n3 t0 t1 t2 t3 u0 u1 u2 : Nat}

theorem fAppend_of {i : Nat} {f : G → Option DV} {Γ : G} {O : List Nat} {xs : List PyData} {d : PyData} (h1 : Γ i = some (.p (.list xs))) (h2 : f (gdrop Γ O) = some (.p d)) (h3 : O.contains i = true) (h4 : xs.length ≤ 1000) :
    fAppend i f Γ O = some (.next (gset Γ i (.p (.list (xs ++ [d])))) O) := by
  have e : evA f Γ O = some (.p d, O) := by unfold evA; rw [h2]
  unfold fAppend
  rw [h1, e]
  dsimp only
  rw [h3, decide_eq_true h4]; rfl
theorem fJoin_of {sep : Str} {f : G → Option DV} {Γ : G} {xs : List PyData} {ys : List Str} (h : f Γ = some (.p (.list xs))) (h2 : pstrs xs = some ys) (h3 : JoinOk sep ys = true) : fJoin sep f Γ = some (dstr (Txt.join sep ys)) := by
  unfold fJoin; rw [h]; dsimp only; rw [h2]; dsimp only; rw [if_pos h3]
theorem bLen_str {x : Str} (h : x.length ≤ 1000) : bLen [dstr x] = some (dint x.length) := by
  show (if x.length ≤ 1000000 then some (dint x.length) else none) = _
  rw [if_pos (by omega)]

theorem turn_ok (hn0 : n0 < 4) (hn1 : n1 < 4) (hn2 : n2 < 4) (hn3 : n3 < 4) (ht0 : t0 < 3) (ht1 : t1 < 3) (ht2 : t2 < 3) (ht3 : t3 < 3) {cs : List PyData} (hc : cs.length ≤ 10) {x3 x4 x5 x6 : Option DV} :
    ∃ y4 y5 y6, F_turn (gl [some (dRows n0 n1 n2 n3 t0 t1 t2 t3), some (dEnds u0 u1 u2), some (.p (.list cs)), x3, x4, x5, x6]) [2] =
      some (.next (gl [some (dRows (n0 - 1) (n1 - 1) (n2 - 1) (n3 - 1) t0 t1 t2 t3), some (dEnds u0 u1 u2), some (.p (.list (cs ++ [.int ((cnt n0 + cnt n1 + cnt n2 + cnt n3 : Nat) : Int)]))), x3, y4, y5, y6]) [2]) := by
  have l0 := row_len hn0 ht0
  have l1 := row_len hn1 ht1
  have l2 := row_len hn2 ht2
  have l3 := row_len hn3 ht3
  have m0 := end_len u0
  have m1 := end_len u1
  have m2 := end_len u2
  have c0 : cnt n0 ≤ 1 := by unfold cnt; split <;> omega
  have c1 : cnt n1 ≤ 1 := by unfold cnt; split <;> omega
  have c2 : cnt n2 ≤ 1 := by unfold cnt; split <;> omega
  have c3 : cnt n3 ≤ 1 := by unfold cnt; split <;> omega
  have hT : (textS n0 n1 n2 n3 t0 t1 t2 t3 u0 u1 u2).length ≤ 100 := by unfold textS; simp only [len_append]; omega
  have s0 : (rowL n0 t0).length = (rowS n0 t0).length := Array.length_toList
  have s1 : (rowL n1 t1).length = (rowS n1 t1).length := Array.length_toList
  have s2 : (rowL n2 t2).length = (rowS n2 t2).length := Array.length_toList
  have s3 : (rowL n3 t3).length = (rowS n3 t3).length := Array.length_toList
  have q0 : (stL n0 t0).length = (stS n0 t0).length := Array.length_toList
  have q1 : (stL n1 t1).length = (stS n1 t1).length := Array.length_toList
  have q2 : (stL n2 t2).length = (stS n2 t2).length := Array.length_toList
  have q3 : (stL n3 t3).length = (stS n3 t3).length := Array.length_toList
  have p0 := st_len hn0 ht0
  have p1 := st_len hn1 ht1
  have p2 := st_len hn2 ht2
  have p3 := st_len hn3 ht3
  have hE : (eolS (textS n0 n1 n2 n3 t0 t1 t2 t3 u0 u1 u2)).length = (rowS n0 t0).length + (rowS n1 t1).length + (rowS n2 t2).length + (rowS n3 t3).length + 6 := by
    rw [lenS, eol_list hn0 hn1 hn2 hn3 ht0 ht1 ht2 ht3]
    rw [List.length_append, List.length_cons, List.length_cons, List.length_append, List.length_cons, List.length_cons, List.length_append, List.length_cons, List.length_cons]
    omega
  have hS : (sentS (textS n0 n1 n2 n3 t0 t1 t2 t3 u0 u1 u2)).length = (stS n0 t0).length + (stS n1 t1).length + (stS n2 t2).length + (stS n3 t3).length + 6 := by
    rw [sent_join hn0 hn1 hn2 hn3 ht0 ht1 ht2 ht3, lenS, join4]
    show (stL n0 t0 ++ 13 :: 10 :: (stL n1 t1 ++ 13 :: 10 :: (stL n2 t2 ++ 13 :: 10 :: stL n3 t3))).length = _
    rw [List.length_append, List.length_cons, List.length_cons, List.length_append, List.length_cons, List.length_cons, List.length_append, List.length_cons, List.length_cons]
    omega
  have hq := quote_eq (T := textS n0 n1 n2 n3 t0 t1 t2 t3 u0 u1 u2) (by omega) (by omega)
  have hf := fix_eq (T := textS n0 n1 n2 n3 t0 t1 t2 t3 u0 u1 u2) (by omega)
  refine ⟨some (dstr (textS n0 n1 n2 n3 t0 t1 t2 t3 u0 u1 u2)), some (dint 2), some (dstr (sentS (textS n0 n1 n2 n3 t0 t1 t2 t3 u0 u1 u2))), ?_⟩
  unfold F_turn
  -- text
  refine (fSeq_next (fAssign_of (d := dstr (rowS n0 t0)) (by rw [gdrop_gl2]; rfl))).trans ?_
  rw [gset_gl (by simp)]
  dsimp only [List.set]
  refine (fSeq_next (Γ' := gl [some (dRows n0 n1 n2 n3 t0 t1 t2 t3), some (dEnds u0 u1 u2), some (.p (.list cs)), x3, some (dstr (textS n0 n1 n2 n3 t0 t1 t2 t3 u0 u1 u2)), some (dint 2), x6]) (O' := [2]) ?_).trans ?_
  · refine (fFor_of (ds := [.int 0, .int 1, .int 2]) (O' := [2]) rfl).trans ?_
    exact turn_text (x4 := x4) hn0 hn1 hn2 hn3 ht0 ht1 ht2 ht3
  -- sent
  refine (fSeq_next (fAssign_of (d := dstr (sentS (textS n0 n1 n2 n3 t0 t1 t2 t3 u0 u1 u2))) (by rw [gdrop_gl2, fCall_of (ds := [dstr (textS n0 n1 n2 n3 t0 t1 t2 t3 u0 u1 u2)]) rfl]; exact hq))).trans ?_
  rw [gset_gl (by simp)]
  dsimp only [List.set]
  -- as it should be
  refine (fSeq_next (Γ' := gl [some (dRows n0 n1 n2 n3 t0 t1 t2 t3), some (dEnds u0 u1 u2), some (.p (.list cs)), x3, some (dstr (textS n0 n1 n2 n3 t0 t1 t2 t3 u0 u1 u2)), some (dint 2), some (dstr (sentS (textS n0 n1 n2 n3 t0 t1 t2 t3 u0 u1 u2)))]) (O' := [2]) ?_).trans ?_
  · have ec := fComp_of (fr := []) (g := gList0 (gv 0)) (vs := [0]) (f := cEmit (fIf (fun Γ => asB (op2 oEq (op2 oSub (gv 0) (fun _ => some (dint 0))) (fun _ => some (dstr (Str.ofString "."))) Γ)) (op2 oAdd (fun _ => some (dstr (Str.ofString "."))) (gv 0)) (gv 0)))
      (Γ := gl [some (dRows n0 n1 n2 n3 t0 t1 t2 t3), some (dEnds u0 u1 u2), some (.p (.list cs)), x3, some (dstr (textS n0 n1 n2 n3 t0 t1 t2 t3 u0 u1 u2)), some (dint 2), some (dstr (sentS (textS n0 n1 n2 n3 t0 t1 t2 t3 u0 u1 u2)))])
      (ds := [.str (rowS n0 t0), .str (rowS n1 t1), .str (rowS n2 t2), .str (rowS n3 t3)]) (ys := [.str (stS n0 t0), .str (stS n1 t1), .str (stS n2 t2), .str (stS n3 t3)]) rfl rfl (by show 4 ≤ 1000; decide) rfl (fun i hi => by
        match i, hi with
        | 0, _ => exact emit_st hn0 ht0 rfl
        | 1, _ => exact emit_st hn1 ht1 rfl
        | 2, _ => exact emit_st hn2 ht2 rfl
        | 3, _ => exact emit_st hn3 ht3 rfl)
    have ej := fJoin_of (sep := Str.ofString "\r\n") (ys := [stS n0 t0, stS n1 t1, stS n2 t2, stS n3 t3]) ec rfl (joinOk4 (by omega))
    refine (fCond_of (b := false) ?_).trans rfl
    rw [op2_of (o := oNe) (f := gv 6) (a := dstr (sentS (textS n0 n1 n2 n3 t0 t1 t2 t3 u0 u1 u2))) rfl ej, sent_join hn0 hn1 hn2 hn3 ht0 ht1 ht2 ht3]
    show some (!(Txt.join (Str.ofString "\r\n") [stS n0 t0, stS n1 t1, stS n2 t2, stS n3 t3] == Txt.join (Str.ofString "\r\n") [stS n0 t0, stS n1 t1, stS n2 t2, stS n3 t3])) = some false
    rw [beq_self_eq_true]; rfl
  -- the column
  refine (fSeq_next (fAppend_of (xs := cs) (d := .int ((cnt n0 + cnt n1 + cnt n2 + cnt n3 : Nat) : Int)) rfl ?_ rfl (by omega))).trans ?_
  · rw [gdrop_gl2]
    have a1 : fCall bLen (fcons (gv 6) fnil) (gl [some (dRows n0 n1 n2 n3 t0 t1 t2 t3), some (dEnds u0 u1 u2), none, x3, some (dstr (textS n0 n1 n2 n3 t0 t1 t2 t3 u0 u1 u2)), some (dint 2), some (dstr (sentS (textS n0 n1 n2 n3 t0 t1 t2 t3 u0 u1 u2)))]) = some (dint ((sentS (textS n0 n1 n2 n3 t0 t1 t2 t3 u0 u1 u2)).length : Nat)) :=
      (fCall_of (ds := [dstr (sentS (textS n0 n1 n2 n3 t0 t1 t2 t3 u0 u1 u2))]) rfl).trans (bLen_str (by omega))
    have a2 : fCall bLen (fcons (fCall B_fix (fcons (gv 4) fnil)) fnil) (gl [some (dRows n0 n1 n2 n3 t0 t1 t2 t3), some (dEnds u0 u1 u2), none, x3, some (dstr (textS n0 n1 n2 n3 t0 t1 t2 t3 u0 u1 u2)), some (dint 2), some (dstr (sentS (textS n0 n1 n2 n3 t0 t1 t2 t3 u0 u1 u2)))]) = some (dint ((eolS (textS n0 n1 n2 n3 t0 t1 t2 t3 u0 u1 u2)).length : Nat)) :=
      (fCall_of (fcons_of ((fCall_of (ds := [dstr (textS n0 n1 n2 n3 t0 t1 t2 t3 u0 u1 u2)]) rfl).trans hf) rfl)).trans (bLen_str (by omega))
    refine (op2_of (o := oSub_) a1 a2).trans ?_
    show some (dint (((sentS (textS n0 n1 n2 n3 t0 t1 t2 t3 u0 u1 u2)).length : Int) - (eolS (textS n0 n1 n2 n3 t0 t1 t2 t3 u0 u1 u2)).length)) = _
    congr 3
    omega
  rw [gset_gl (by simp)]
  dsimp only [List.set]
  -- the rows
  refine (fSeq_next (fAssign_of (d := dRows (n0 - 1) (n1 - 1) (n2 - 1) (n3 - 1) t0 t1 t2 t3) ?_)).trans ?_
  · rw [gdrop_gl2]
    exact fComp_of (fr := []) (g := gList0 (gv 0)) (vs := [0]) (f := cEmit (fIf (fun Γ => asB (op2 oEq (op2 oSub (gv 0) (fun _ => some (dint 0))) (fun _ => some (dstr (Str.ofString "."))) Γ)) (fFrom 1 (gv 0)) (gv 0)))
      (ds := [.str (rowS n0 t0), .str (rowS n1 t1), .str (rowS n2 t2), .str (rowS n3 t3)]) (ys := [.str (rowS (n0 - 1) t0), .str (rowS (n1 - 1) t1), .str (rowS (n2 - 1) t2), .str (rowS (n3 - 1) t3)]) rfl rfl (by show 4 ≤ 1000; decide) rfl (fun i hi => by
        match i, hi with
        | 0, _ => exact emit_un hn0 ht0 rfl
        | 1, _ => exact emit_un hn1 ht1 rfl
        | 2, _ => exact emit_un hn2 ht2 rfl
        | 3, _ => exact emit_un hn3 ht3 rfl)
  rw [gset_gl (by simp)]
  rfl

theorem columns_eq (hn0 : n0 < 4) (hn1 : n1 < 4) (hn2 : n2 < 4) (hn3 : n3 < 4) (ht0 : t0 < 3) (ht1 : t1 < 3) (ht2 : t2 < 3) (ht3 : t3 < 3) : B_columns [dRows n0 n1 n2 n3 t0 t1 t2 t3, dEnds u0 u1 u2] =
    some (.p (.list [.int ((cnt n0 + cnt n1 + cnt n2 + cnt n3 : Nat) : Int), .int ((cnt (n0 - 1) + cnt (n1 - 1) + cnt (n2 - 1) + cnt (n3 - 1) : Nat) : Int), .int ((cnt (n0 - 1 - 1) + cnt (n1 - 1 - 1) + cnt (n2 - 1 - 1) + cnt (n3 - 1 - 1) : Nat) : Int)])) := by
  refine runF_of rfl ?_
  rw [F_columns_eq, gArgs_gl _ 5]
  refine (fSeq_next (Γ' := gl [some (dRows n0 n1 n2 n3 t0 t1 t2 t3), some (dEnds u0 u1 u2), some (.p (.list [])), none, none, none, none]) (O' := [2]) ?_).trans ?_
  · unfold fNew; rw [gset_gl (by simp)]; rfl
  obtain ⟨a4, a5, a6, e1⟩ := turn_ok (u0 := u0) (u1 := u1) (u2 := u2) hn0 hn1 hn2 hn3 ht0 ht1 ht2 ht3 (cs := []) (by decide) (x3 := some (dint 0)) (x4 := none) (x5 := none) (x6 := none)
  obtain ⟨b4, b5, b6, e2⟩ := turn_ok (n0 := n0 - 1) (n1 := n1 - 1) (n2 := n2 - 1) (n3 := n3 - 1) (u0 := u0) (u1 := u1) (u2 := u2) (by omega) (by omega) (by omega) (by omega) ht0 ht1 ht2 ht3 (cs := [.int ((cnt n0 + cnt n1 + cnt n2 + cnt n3 : Nat) : Int)]) (by show 1 ≤ 10; decide) (x3 := some (dint 1)) (x4 := a4) (x5 := a5) (x6 := a6)
  obtain ⟨c4, c5, c6, e3⟩ := turn_ok (n0 := n0 - 1 - 1) (n1 := n1 - 1 - 1) (n2 := n2 - 1 - 1) (n3 := n3 - 1 - 1) (u0 := u0) (u1 := u1) (u2 := u2) (by omega) (by omega) (by omega) (by omega) ht0 ht1 ht2 ht3 (cs := [.int ((cnt n0 + cnt n1 + cnt n2 + cnt n3 : Nat) : Int), .int ((cnt (n0 - 1) + cnt (n1 - 1) + cnt (n2 - 1) + cnt (n3 - 1) : Nat) : Int)]) (by show 2 ≤ 10; decide) (x3 := some (dint 2)) (x4 := b4) (x5 := b5) (x6 := b6)
  refine (fSeq_next (Γ' := gl [some (dRows (n0 - 1 - 1 - 1) (n1 - 1 - 1 - 1) (n2 - 1 - 1 - 1) (n3 - 1 - 1 - 1) t0 t1 t2 t3), some (dEnds u0 u1 u2), some (.p (.list [.int ((cnt n0 + cnt n1 + cnt n2 + cnt n3 : Nat) : Int), .int ((cnt (n0 - 1) + cnt (n1 - 1) + cnt (n2 - 1) + cnt (n3 - 1) : Nat) : Int), .int ((cnt (n0 - 1 - 1) + cnt (n1 - 1 - 1) + cnt (n2 - 1 - 1) + cnt (n3 - 1 - 1) : Nat) : Int)])), some (dint 2), c4, c5, c6]) (O' := [2]) ?_).trans ?_
  · refine (fFor_of (ds := [.int 0, .int 1, .int 2]) (O' := [2]) rfl).trans ?_
    refine (forF_cons (by unfold bName; rw [gset_gl (by simp)]; rfl) e1).trans ?_
    refine (forF_cons (by unfold bName; rw [gset_gl (by simp)]; rfl) e2).trans ?_
    refine (forF_cons (by unfold bName; rw [gset_gl (by simp)]; rfl) e3).trans ?_
    rfl
  exact fSeq_ret (fRet_of rfl)
end
end Mine
end
section -- L6
open PySem PySem.Spec PySem.Calls PySem.W PyProof.Rows
set_option Elab.async false
set_option maxRecDepth 100000
namespace Mine
noncomputable def F_rest : G → List Nat → Option Res := (fSeq (fCond (fun Γ => asB (op2 oNe (fCall bLen (fcons (gv 4) fnil)) (fun _ => some (dint 3)) Γ)) (fSeq (fRet (fun _ => some (dbool false))) fDone) fDone) (fSeq (fAssign 5 (fCall B_ways (fcons (gv 1) fnil))) (fSeq (fAssign 6 (fun _ => some (dint 1))) (fSeq (fFor (gList (gv 1)) (bName 7) (fSeq (fAssign 6 (op2 oMulS (gv 6) (op2 oSub (fList (fcons (fun _ => some (dint 1)) (fcons (fun _ => some (dint 3)) (fcons (fun _ => some (dint 3)) (fcons (fun _ => some (dint 1)) fnil))))) (gv 7)))) fDone)) (fSeq (fCond (fun Γ => asB (op2 oNe (fCall B_count (fcons (gv 5) fnil)) (gv 6) Γ)) (fSeq (fRet (fun _ => some (dbool false))) fDone) fDone) (fSeq (fNew 8 (.p (.list []))) (fSeq (fFor (gKeys (gv 5)) (bName 9) (fSeq (fAssign 10 (fTuple (fcons (fCall B_boxes (fcons (gv 9) fnil)) (fcons (op2 oSub (gv 5) (gv 9)) fnil)))) (fSeq (fCond (fun Γ => asB (op2 oNotIn (gv 10) (gv 8) Γ)) (fSeq (fAppend 8 (gv 10)) fDone) fDone) fDone))) (fSeq (fAssign 11 (fComp [] (gRange0 (fun _ => some (dint 5))) (bName 0) [0] tTrue (cFor (gRange (op2 oAdd (gv 0) (fun _ => some (dint 1)))) (bName 1) [1] tTrue (cFor (gRange (op2 oAdd (gv 1) (fun _ => some (dint 1)))) (bName 2) [2] tTrue (cEmit (fList (fcons (gv 0) (fcons (gv 1) (fcons (gv 2) fnil))))))))) (fSeq (fCond (fun Γ => asB (op2 oNe (fCall bSortL (fcons (fComp [] (gList0 (gv 8)) (bPair 0 1) [0, 1] tTrue (cEmit (gv 0))) fnil)) (fComp [(1, 4)] (gList0 (gv 11)) (bName 0) [0] (fun Γ => asB ((fCall B_nost (fcons (gv 0) (fcons (gv 1) fnil))) Γ)) (cEmit (gv 0))) Γ)) (fSeq (fRet (fun _ => some (dbool false))) fDone) fDone) (fSeq (fAssign 12 (fNewOrd (fTuple (fcons (fTuple (fcons (fun _ => some (dint 0)) (fcons (fNeg (fun _ => some (dint 1))) fnil))) (fcons (fTuple (fcons (fun _ => some (dint 1)) (fcons (fNeg (fun _ => some (dint 1))) fnil))) (fcons (fTuple (fcons (fun _ => some (dint 2)) (fcons (fNeg (fun _ => some (dint 1))) fnil))) fnil)))))) (fSeq (fFor (gList (gv 8)) (bPair 13 14) (fSeq (fCond (fun Γ => asB (op2 oNe (op2 oEq (gv 14) (fun _ => some (dint 1))) (op2 oEq (gv 13) (gv 4)) Γ)) (fSeq (fRet (fun _ => some (dbool false))) fDone) fDone) (fSeq (fFor (gList (gv 8)) (bPair 15 16) (fSeq (fCond (bAnd (fun Γ => asB (op2 oNe (gv 13) (gv 15) Γ)) (fun Γ => asB ((fCall B_nost (fcons (gv 13) (fcons (gv 15) fnil))) Γ))) (fSeq (fCond (bOr (fun Γ => asB (op2 oLe (gv 14) (gv 16) Γ)) (fun Γ => asB (op2 oNe (fMeth B_compare (gv 12) (fcons (gv 15) (fcons (gv 13) fnil))) (fNeg (fun _ => some (dint 1))) Γ))) (fSeq (fRet (fun _ => some (dbool false))) fDone) fDone) fDone) fDone) fDone)) fDone))) (fSeq (fRet (fun _ => some (dbool true))) fDone))))))))))))
theorem F_law_eq : F_law = fSeq (fAssign 1 (fComp [(1, 0)] (gRange0 (fun _ => some (dint 4))) (bName 0) [0] tTrue (cEmit (fCall B_draw (fcons (gv 1) (fcons (gv 0) (fcons (op2 oSub (fList (fcons (fun _ => some (dint 2)) (fcons (fun _ => some (dint 1)) (fcons (fun _ => some (dint 3)) (fcons (fun _ => some (dint 1)) fnil))))) (gv 0)) (fcons (fun _ => some (dint 4)) fnil)))))))) (fSeq (fAssign 2 (fComp [(1, 0)] (gRange0 (fun _ => some (dint 4))) (bName 0) [0] tTrue (cEmit (op2 oSub (fList (fcons (fun _ => some (dstr (Str.ofString "x"))) (fcons (fun _ => some (dstr (Str.ofString "-."))) (fcons (fun _ => some (dstr (Str.ofString "x.."))) fnil)))) (fCall B_draw (fcons (gv 1) (fcons (op2 oAdd (fun _ => some (dint 4)) (gv 0)) (fcons (gv 0) (fcons (fun _ => some (dint 3)) fnil))))))))) (fSeq (fAssign 3 (fComp [(1, 0)] (gRange0 (fun _ => some (dint 3))) (bName 0) [0] tTrue (cEmit (op2 oSub (fList (fcons (fun _ => some (dstr (Str.ofString "\n"))) (fcons (fun _ => some (dstr (Str.ofString "\r"))) (fcons (fun _ => some (dstr (Str.ofString "\r\n"))) fnil)))) (fCall B_draw (fcons (gv 1) (fcons (op2 oAdd (fun _ => some (dint 8)) (gv 0)) (fcons (gv 0) (fcons (fun _ => some (dint 3)) fnil))))))))) (fSeq (fAssign 4 (fCall B_columns (fcons (fComp [(1, 2), (2, 1)] (gRange0 (fun _ => some (dint 4))) (bName 0) [0] tTrue (cEmit (op2 oAdd (op2 oMulS (fun _ => some (dstr (Str.ofString "."))) (op2 oSub (gv 2) (gv 0))) (op2 oSub (gv 1) (gv 0))))) (fcons (gv 3) fnil)))) F_rest))) := rfl

noncomputable abbrev il (ns : List Int) : DV := .p (.list (ns.map .int))
theorem oMod_pos {v : Int} {b : Nat} (hb : 0 < b) : ∃ m : Nat, m < b ∧ oMod (dint v) (dint b) = some (dint m) := by
  have hb' : (0 : Int) < b := by omega
  have h0 := Int.fmod_nonneg_of_pos v hb'
  have h1 := Int.fmod_lt_of_pos v hb'
  refine ⟨(v.fmod b).toNat, by omega, ?_⟩
  show (if (b : Int) = 0 then none else some (dint (v.fmod b))) = _
  rw [if_neg (by omega), Int.toNat_of_nonneg h0]
theorem draw_ex {ns : List Int} (hl : ns.length ≤ 63) (k : Nat) (hk : k < 100) (sp : Int) (b : Nat) (hb : 0 < b) : ∃ m : Nat, m < b ∧ B_draw [il ns, dint k, dint sp, dint b] = some (dint m) := by
  have elen : fCall bLen (fcons (gv 0) fnil) (gArgs [il ns, dint k, dint sp, dint b]) = some (dint ns.length) := by
    rw [fCall_of (ds := [il ns]) rfl]
    show (if (ns.map PyData.int).length ≤ 1000000 then some (dint ((ns.map PyData.int).length : Nat)) else none) = _
    rw [List.length_map, if_pos (by omega)]
  have ecmp : asB (op2 oLt (gv 1) (fCall bLen (fcons (gv 0) fnil)) (gArgs [il ns, dint k, dint sp, dint b])) = some (decide ((k : Int) < ns.length)) := by
    rw [op2_of (o := oLt) (f := gv 1) (a := dint k) rfl elen]; rfl
  have ev : ∃ v : Int, fIf (fun Γ => asB (op2 oLt (gv 1) (fCall bLen (fcons (gv 0) fnil)) Γ)) (op2 oSub (gv 0) (gv 1)) (gv 2) (gArgs [il ns, dint k, dint sp, dint b]) = some (dint v) := by
    rw [fIf_of ecmp]
    by_cases h : (k : Int) < ns.length
    · rw [if_pos (decide_eq_true h)]
      have hk' : k < ns.length := by omega
      refine ⟨ns[k], ?_⟩
      rw [op2_of (o := oSub) (f := gv 0) (g := gv 1) (a := il ns) (b := dint k) rfl rfl]
      show (if (0 : Int) ≤ k ∧ (k : Int) < 1000000 then ((ns.map PyData.int)[(k : Int).toNat]?).map DV.p else none) = _
      rw [if_pos ⟨by omega, by omega⟩, Int.toNat_natCast, List.getElem?_map, List.getElem?_eq_getElem hk']; rfl
    · rw [if_neg (by simpa using h)]
      exact ⟨sp, rfl⟩
  obtain ⟨v, ev⟩ := ev
  obtain ⟨m, hm, em⟩ := oMod_pos (v := v) hb
  refine ⟨m, hm, runF_of rfl (fSeq_ret (fRet_of ?_))⟩
  rw [op2_of (o := oMod) (g := gv 3) (b := dint b) ev rfl, em]

theorem cEmit_of {f : G → Option DV} {Γ : G} {d : PyData} (h : f Γ = some (.p d)) : cEmit f Γ = some [d] := by unfold cEmit; rw [h]
theorem tail_pick {m : Nat} (h : m < 3) : oSub (.p (.list [.str (Str.ofString "x"), .str (Str.ofString "-."), .str (Str.ofString "x..")])) (dint m) = some (dstr (tailS m)) := by
  match m, h with
  | 0, _ => rfl
  | 1, _ => rfl
  | 2, _ => rfl
theorem end_pick {m : Nat} (h : m < 3) : oSub (.p (.list [.str (Str.ofString "\n"), .str (Str.ofString "\r"), .str (Str.ofString "\r\n")])) (dint m) = some (dstr (endS m)) := by
  match m, h with
  | 0, _ => rfl
  | 1, _ => rfl
  | 2, _ => rfl
theorem row_make : ∀ n < 4, ∀ t < 3, (Txt.mul (Str.ofString ".") (n : Nat)).length + (tailS t).length ≤ 1000 := by decide +kernel

noncomputable def dRest (s : DV) (m0 m1 m2 m3 t0 t1 t2 t3 u0 u1 u2 : Nat) : G := gl [some s, some (.p (.list [.int m0, .int m1, .int m2, .int m3])), some (.p (.list [.str (tailS t0), .str (tailS t1), .str (tailS t2), .str (tailS t3)])), some (dEnds u0 u1 u2),
  some (.p (.list [.int ((cnt m0 + cnt m1 + cnt m2 + cnt m3 : Nat) : Int), .int ((cnt (m0 - 1) + cnt (m1 - 1) + cnt (m2 - 1) + cnt (m3 - 1) : Nat) : Int), .int ((cnt (m0 - 1 - 1) + cnt (m1 - 1 - 1) + cnt (m2 - 1 - 1) + cnt (m3 - 1 - 1) : Nat) : Int)])),
  none, none, none, none, none, none, none, none, none, none, none, none, none, none]

theorem law_start {ns : List Int} (hl : ns.length ≤ 63) : ∃ m0 m1 m2 m3 t0 t1 t2 t3 u0 u1 u2, (m0 < 4 ∧ m1 < 4 ∧ m2 < 4 ∧ m3 < 4) ∧ F_law (gArgs [il ns]) [] = F_rest (dRest (il ns) m0 m1 m2 m3 t0 t1 t2 t3 u0 u1 u2) [] := by
  obtain ⟨m0, a0, e0⟩ := draw_ex hl 0 (by decide) 2 4 (by decide)
  obtain ⟨m1, a1, e1⟩ := draw_ex hl 1 (by decide) 1 4 (by decide)
  obtain ⟨m2, a2, e2⟩ := draw_ex hl 2 (by decide) 3 4 (by decide)
  obtain ⟨m3, a3, e3⟩ := draw_ex hl 3 (by decide) 1 4 (by decide)
  obtain ⟨t0, b0, f0⟩ := draw_ex hl 4 (by decide) 0 3 (by decide)
  obtain ⟨t1, b1, f1⟩ := draw_ex hl 5 (by decide) 1 3 (by decide)
  obtain ⟨t2, b2, f2⟩ := draw_ex hl 6 (by decide) 2 3 (by decide)
  obtain ⟨t3, b3, f3⟩ := draw_ex hl 7 (by decide) 3 3 (by decide)
  obtain ⟨u0, d0, g0⟩ := draw_ex hl 8 (by decide) 0 3 (by decide)
  obtain ⟨u1, d1, g1⟩ := draw_ex hl 9 (by decide) 1 3 (by decide)
  obtain ⟨u2, d2, g2⟩ := draw_ex hl 10 (by decide) 2 3 (by decide)
  refine ⟨m0, m1, m2, m3, t0, t1, t2, t3, u0, u1, u2, ⟨a0, a1, a2, a3⟩, ?_⟩
  rw [F_law_eq, gArgs_gl _ 18]
  -- dots
  refine (fSeq_next (fAssign_of (d := .p (.list [.int m0, .int m1, .int m2, .int m3])) ?_)).trans ?_
  · rw [gdrop_nil]
    refine fComp_of (ds := [.int 0, .int 1, .int 2, .int 3]) rfl rfl (by decide) rfl fun i hi => ?_
    match i, hi with
    | 0, _ => exact cEmit_of ((fCall_of rfl).trans e0)
    | 1, _ => exact cEmit_of ((fCall_of rfl).trans e1)
    | 2, _ => exact cEmit_of ((fCall_of rfl).trans e2)
    | 3, _ => exact cEmit_of ((fCall_of rfl).trans e3)
  rw [gset_gl (by simp)]
  dsimp only [List.set, List.map, List.replicate, List.append]
  -- tails
  refine (fSeq_next (fAssign_of (d := .p (.list [.str (tailS t0), .str (tailS t1), .str (tailS t2), .str (tailS t3)])) ?_)).trans ?_
  · rw [show (List.filter (fun j => !(j == 1)) ([] : List Nat)) = [] from rfl, gdrop_nil]
    refine fComp_of (ds := [.int 0, .int 1, .int 2, .int 3]) rfl rfl (by decide) rfl fun i hi => ?_
    match i, hi with
    | 0, _ => exact cEmit_of ((op2_of rfl ((fCall_of rfl).trans f0)).trans (tail_pick b0))
    | 1, _ => exact cEmit_of ((op2_of rfl ((fCall_of rfl).trans f1)).trans (tail_pick b1))
    | 2, _ => exact cEmit_of ((op2_of rfl ((fCall_of rfl).trans f2)).trans (tail_pick b2))
    | 3, _ => exact cEmit_of ((op2_of rfl ((fCall_of rfl).trans f3)).trans (tail_pick b3))
  rw [gset_gl (by simp)]
  -- ends
  refine (fSeq_next (fAssign_of (d := dEnds u0 u1 u2) ?_)).trans ?_
  · rw [show (List.filter (fun j => !(j == 2)) (List.filter (fun j => !(j == 1)) ([] : List Nat))) = [] from rfl, gdrop_nil]
    refine fComp_of (ds := [.int 0, .int 1, .int 2]) rfl rfl (by decide) rfl fun i hi => ?_
    match i, hi with
    | 0, _ => exact cEmit_of ((op2_of rfl ((fCall_of rfl).trans g0)).trans (end_pick d0))
    | 1, _ => exact cEmit_of ((op2_of rfl ((fCall_of rfl).trans g1)).trans (end_pick d1))
    | 2, _ => exact cEmit_of ((op2_of rfl ((fCall_of rfl).trans g2)).trans (end_pick d2))
  rw [gset_gl (by simp)]
  -- columns
  refine (fSeq_next (fAssign_of (d := .p (.list [.int ((cnt m0 + cnt m1 + cnt m2 + cnt m3 : Nat) : Int), .int ((cnt (m0 - 1) + cnt (m1 - 1) + cnt (m2 - 1) + cnt (m3 - 1) : Nat) : Int), .int ((cnt (m0 - 1 - 1) + cnt (m1 - 1 - 1) + cnt (m2 - 1 - 1) + cnt (m3 - 1 - 1) : Nat) : Int)])) ?_)).trans ?_
  · rw [show (List.filter (fun j => !(j == 3)) (List.filter (fun j => !(j == 2)) (List.filter (fun j => !(j == 1)) ([] : List Nat)))) = [] from rfl, gdrop_nil]
    have row : ∀ {m t : Nat} {Γ : G}, m < 4 → t < 3 → op2 oSub (gv 2) (gv 0) Γ = some (dint m) → op2 oSub (gv 1) (gv 0) Γ = some (dstr (tailS t)) →
        cEmit (op2 oAdd (op2 oMulS (fun _ => some (dstr (Str.ofString "."))) (op2 oSub (gv 2) (gv 0))) (op2 oSub (gv 1) (gv 0))) Γ = some [.str (rowS m t)] := fun {m t Γ} hm ht x1 x2 => by
      refine cEmit_of ?_
      have y1 : op2 oMulS (fun _ => some (dstr (Str.ofString "."))) (op2 oSub (gv 2) (gv 0)) Γ = some (dstr (Txt.mul (Str.ofString ".") (m : Nat))) := by
        rw [op2_of (o := oMulS) (f := fun _ => some (dstr (Str.ofString "."))) (a := dstr (Str.ofString ".")) rfl x1]
        show (if (0 : Int) ≤ m ∧ (m : Int) < 1000 ∧ (Str.ofString ".").length < 1000 then some (dstr (Txt.mul (Str.ofString ".") (m : Nat))) else none) = _
        rw [if_pos ⟨by omega, by omega, by decide +kernel⟩]
      rw [op2_of y1 x2, oAdd_str (row_make m hm t ht)]
      rfl
    refine (fCall_of (fcons_of (a := dRows m0 m1 m2 m3 t0 t1 t2 t3) ?_ (fcons_of (f := gv 3) (a := dEnds u0 u1 u2) rfl rfl))).trans (columns_eq a0 a1 a2 a3 b0 b1 b2 b3)
    refine fComp_of (ds := [.int 0, .int 1, .int 2, .int 3]) rfl rfl (by decide) rfl fun i hi => ?_
    match i, hi with
    | 0, _ => exact row a0 b0 rfl rfl
    | 1, _ => exact row a1 b1 rfl rfl
    | 2, _ => exact row a2 b2 rfl rfl
    | 3, _ => exact row a3 b3 rfl rfl
  rw [gset_gl (by simp)]
  rfl
noncomputable def isT : Option Res → Bool
  | some (.ret (.p (.bool true))) => true
  | _ => false
theorem isT_eq {r : Option Res} (h : isT r = true) : r = some (.ret (.p (.bool true))) := by
  unfold isT at h
  split at h
  · rfl
  · cases h
end Mine
end
section -- L7
open PySem PySem.Spec PySem.Calls PySem.W PyProof.Rows
set_option Elab.async false
set_option maxRecDepth 1000000
namespace Mine
theorem four {p : Nat → Prop} (h0 : p 0) (h1 : p 1) (h2 : p 2) (h3 : p 3) {m : Nat} (hm : m < 4) : p m := by
  match m, hm with
  | 0, _ => exact h0
  | 1, _ => exact h1
  | 2, _ => exact h2
  | 3, _ => exact h3
/-- the rest of the law comes to True at this draw of dots, whatever else is drawn -/
noncomputable def Ok4 (a b c d : Nat) : Prop := ∀ (s : DV) (t0 t1 t2 t3 u0 u1 u2 : Nat), isT (F_rest (dRest s a b c d t0 t1 t2 t3 u0 u1 u2) []) = true
set_option maxHeartbeats 0
theorem ok0000 : Ok4 0 0 0 0 := fun s t0 t1 t2 t3 u0 u1 u2 => by kernel_rfl
theorem ok0001 : Ok4 0 0 0 1 := fun s t0 t1 t2 t3 u0 u1 u2 => by kernel_rfl
theorem ok0002 : Ok4 0 0 0 2 := fun s t0 t1 t2 t3 u0 u1 u2 => by kernel_rfl
theorem ok0003 : Ok4 0 0 0 3 := fun s t0 t1 t2 t3 u0 u1 u2 => by kernel_rfl
theorem ok0010 : Ok4 0 0 1 0 := fun s t0 t1 t2 t3 u0 u1 u2 => by kernel_rfl
theorem ok0011 : Ok4 0 0 1 1 := fun s t0 t1 t2 t3 u0 u1 u2 => by kernel_rfl
theorem ok0012 : Ok4 0 0 1 2 := fun s t0 t1 t2 t3 u0 u1 u2 => by kernel_rfl
theorem ok0013 : Ok4 0 0 1 3 := fun s t0 t1 t2 t3 u0 u1 u2 => by kernel_rfl
theorem ok0020 : Ok4 0 0 2 0 := fun s t0 t1 t2 t3 u0 u1 u2 => by kernel_rfl
theorem ok0021 : Ok4 0 0 2 1 := fun s t0 t1 t2 t3 u0 u1 u2 => by kernel_rfl
theorem ok0022 : Ok4 0 0 2 2 := fun s t0 t1 t2 t3 u0 u1 u2 => by kernel_rfl
theorem ok0023 : Ok4 0 0 2 3 := fun s t0 t1 t2 t3 u0 u1 u2 => by kernel_rfl
theorem ok0030 : Ok4 0 0 3 0 := fun s t0 t1 t2 t3 u0 u1 u2 => by kernel_rfl
theorem ok0031 : Ok4 0 0 3 1 := fun s t0 t1 t2 t3 u0 u1 u2 => by kernel_rfl
theorem ok0032 : Ok4 0 0 3 2 := fun s t0 t1 t2 t3 u0 u1 u2 => by kernel_rfl
theorem ok0033 : Ok4 0 0 3 3 := fun s t0 t1 t2 t3 u0 u1 u2 => by kernel_rfl
theorem ok0100 : Ok4 0 1 0 0 := fun s t0 t1 t2 t3 u0 u1 u2 => by kernel_rfl
theorem ok0101 : Ok4 0 1 0 1 := fun s t0 t1 t2 t3 u0 u1 u2 => by kernel_rfl
theorem ok0102 : Ok4 0 1 0 2 := fun s t0 t1 t2 t3 u0 u1 u2 => by kernel_rfl
theorem ok0103 : Ok4 0 1 0 3 := fun s t0 t1 t2 t3 u0 u1 u2 => by kernel_rfl
theorem ok0110 : Ok4 0 1 1 0 := fun s t0 t1 t2 t3 u0 u1 u2 => by kernel_rfl
theorem ok0111 : Ok4 0 1 1 1 := fun s t0 t1 t2 t3 u0 u1 u2 => by kernel_rfl
theorem ok0112 : Ok4 0 1 1 2 := fun s t0 t1 t2 t3 u0 u1 u2 => by kernel_rfl
theorem ok0113 : Ok4 0 1 1 3 := fun s t0 t1 t2 t3 u0 u1 u2 => by kernel_rfl
theorem ok0120 : Ok4 0 1 2 0 := fun s t0 t1 t2 t3 u0 u1 u2 => by kernel_rfl
theorem ok0121 : Ok4 0 1 2 1 := fun s t0 t1 t2 t3 u0 u1 u2 => by kernel_rfl
theorem ok0122 : Ok4 0 1 2 2 := fun s t0 t1 t2 t3 u0 u1 u2 => by kernel_rfl
theorem ok0123 : Ok4 0 1 2 3 := fun s t0 t1 t2 t3 u0 u1 u2 => by kernel_rfl
theorem ok0130 : Ok4 0 1 3 0 := fun s t0 t1 t2 t3 u0 u1 u2 => by kernel_rfl
theorem ok0131 : Ok4 0 1 3 1 := fun s t0 t1 t2 t3 u0 u1 u2 => by kernel_rfl
theorem ok0132 : Ok4 0 1 3 2 := fun s t0 t1 t2 t3 u0 u1 u2 => by kernel_rfl
theorem ok0133 : Ok4 0 1 3 3 := fun s t0 t1 t2 t3 u0 u1 u2 => by kernel_rfl
theorem ok0200 : Ok4 0 2 0 0 := fun s t0 t1 t2 t3 u0 u1 u2 => by kernel_rfl
theorem ok0201 : Ok4 0 2 0 1 := fun s t0 t1 t2 t3 u0 u1 u2 => by kernel_rfl
theorem ok0202 : Ok4 0 2 0 2 := fun s t0 t1 t2 t3 u0 u1 u2 => by kernel_rfl
theorem ok0203 : Ok4 0 2 0 3 := fun s t0 t1 t2 t3 u0 u1 u2 => by kernel_rfl
theorem ok0210 : Ok4 0 2 1 0 := fun s t0 t1 t2 t3 u0 u1 u2 => by kernel_rfl
theorem ok0211 : Ok4 0 2 1 1 := fun s t0 t1 t2 t3 u0 u1 u2 => by kernel_rfl
theorem ok0212 : Ok4 0 2 1 2 := fun s t0 t1 t2 t3 u0 u1 u2 => by kernel_rfl
theorem ok0213 : Ok4 0 2 1 3 := fun s t0 t1 t2 t3 u0 u1 u2 => by kernel_rfl
theorem ok0220 : Ok4 0 2 2 0 := fun s t0 t1 t2 t3 u0 u1 u2 => by kernel_rfl
theorem ok0221 : Ok4 0 2 2 1 := fun s t0 t1 t2 t3 u0 u1 u2 => by kernel_rfl
theorem ok0222 : Ok4 0 2 2 2 := fun s t0 t1 t2 t3 u0 u1 u2 => by kernel_rfl
theorem ok0223 : Ok4 0 2 2 3 := fun s t0 t1 t2 t3 u0 u1 u2 => by kernel_rfl
theorem ok0230 : Ok4 0 2 3 0 := fun s t0 t1 t2 t3 u0 u1 u2 => by kernel_rfl
theorem ok0231 : Ok4 0 2 3 1 := fun s t0 t1 t2 t3 u0 u1 u2 => by kernel_rfl
theorem ok0232 : Ok4 0 2 3 2 := fun s t0 t1 t2 t3 u0 u1 u2 => by kernel_rfl
theorem ok0233 : Ok4 0 2 3 3 := fun s t0 t1 t2 t3 u0 u1 u2 => by kernel_rfl
theorem ok0300 : Ok4 0 3 0 0 := fun s t0 t1 t2 t3 u0 u1 u2 => by kernel_rfl
theorem ok0301 : Ok4 0 3 0 1 := fun s t0 t1 t2 t3 u0 u1 u2 => by kernel_rfl
theorem ok0302 : Ok4 0 3 0 2 := fun s t0 t1 t2 t3 u0 u1 u2 => by kernel_rfl
theorem ok0303 : Ok4 0 3 0 3 := fun s t0 t1 t2 t3 u0 u1 u2 => by kernel_rfl
theorem ok0310 : Ok4 0 3 1 0 := fun s t0 t1 t2 t3 u0 u1 u2 => by kernel_rfl
theorem ok0311 : Ok4 0 3 1 1 := fun s t0 t1 t2 t3 u0 u1 u2 => by kernel_rfl
theorem ok0312 : Ok4 0 3 1 2 := fun s t0 t1 t2 t3 u0 u1 u2 => by kernel_rfl
theorem ok0313 : Ok4 0 3 1 3 := fun s t0 t1 t2 t3 u0 u1 u2 => by kernel_rfl
theorem ok0320 : Ok4 0 3 2 0 := fun s t0 t1 t2 t3 u0 u1 u2 => by kernel_rfl
theorem ok0321 : Ok4 0 3 2 1 := fun s t0 t1 t2 t3 u0 u1 u2 => by kernel_rfl
theorem ok0322 : Ok4 0 3 2 2 := fun s t0 t1 t2 t3 u0 u1 u2 => by kernel_rfl
theorem ok0323 : Ok4 0 3 2 3 := fun s t0 t1 t2 t3 u0 u1 u2 => by kernel_rfl
theorem ok0330 : Ok4 0 3 3 0 := fun s t0 t1 t2 t3 u0 u1 u2 => by kernel_rfl
theorem ok0331 : Ok4 0 3 3 1 := fun s t0 t1 t2 t3 u0 u1 u2 => by kernel_rfl
theorem ok0332 : Ok4 0 3 3 2 := fun s t0 t1 t2 t3 u0 u1 u2 => by kernel_rfl
theorem ok0333 : Ok4 0 3 3 3 := fun s t0 t1 t2 t3 u0 u1 u2 => by kernel_rfl
theorem ok1000 : Ok4 1 0 0 0 := fun s t0 t1 t2 t3 u0 u1 u2 => by kernel_rfl
theorem ok1001 : Ok4 1 0 0 1 := fun s t0 t1 t2 t3 u0 u1 u2 => by kernel_rfl
theorem ok1002 : Ok4 1 0 0 2 := fun s t0 t1 t2 t3 u0 u1 u2 => by kernel_rfl
theorem ok1003 : Ok4 1 0 0 3 := fun s t0 t1 t2 t3 u0 u1 u2 => by kernel_rfl
theorem ok1010 : Ok4 1 0 1 0 := fun s t0 t1 t2 t3 u0 u1 u2 => by kernel_rfl
theorem ok1011 : Ok4 1 0 1 1 := fun s t0 t1 t2 t3 u0 u1 u2 => by kernel_rfl
theorem ok1012 : Ok4 1 0 1 2 := fun s t0 t1 t2 t3 u0 u1 u2 => by kernel_rfl
theorem ok1013 : Ok4 1 0 1 3 := fun s t0 t1 t2 t3 u0 u1 u2 => by kernel_rfl
theorem ok1020 : Ok4 1 0 2 0 := fun s t0 t1 t2 t3 u0 u1 u2 => by kernel_rfl
theorem ok1021 : Ok4 1 0 2 1 := fun s t0 t1 t2 t3 u0 u1 u2 => by kernel_rfl
theorem ok1022 : Ok4 1 0 2 2 := fun s t0 t1 t2 t3 u0 u1 u2 => by kernel_rfl
theorem ok1023 : Ok4 1 0 2 3 := fun s t0 t1 t2 t3 u0 u1 u2 => by kernel_rfl
theorem ok1030 : Ok4 1 0 3 0 := fun s t0 t1 t2 t3 u0 u1 u2 => by kernel_rfl
theorem ok1031 : Ok4 1 0 3 1 := fun s t0 t1 t2 t3 u0 u1 u2 => by kernel_rfl
theorem ok1032 : Ok4 1 0 3 2 := fun s t0 t1 t2 t3 u0 u1 u2 => by kernel_rfl
theorem ok1033 : Ok4 1 0 3 3 := fun s t0 t1 t2 t3 u0 u1 u2 => by kernel_rfl
theorem ok1100 : Ok4 1 1 0 0 := fun s t0 t1 t2 t3 u0 u1 u2 => by kernel_rfl
theorem ok1101 : Ok4 1 1 0 1 := fun s t0 t1 t2 t3 u0 u1 u2 => by kernel_rfl
theorem ok1102 : Ok4 1 1 0 2 := fun s t0 t1 t2 t3 u0 u1 u2 => by kernel_rfl
theorem ok1103 : Ok4 1 1 0 3 := fun s t0 t1 t2 t3 u0 u1 u2 => by kernel_rfl
theorem ok1110 : Ok4 1 1 1 0 := fun s t0 t1 t2 t3 u0 u1 u2 => by kernel_rfl
theorem ok1111 : Ok4 1 1 1 1 := fun s t0 t1 t2 t3 u0 u1 u2 => by kernel_rfl
theorem ok1112 : Ok4 1 1 1 2 := fun s t0 t1 t2 t3 u0 u1 u2 => by kernel_rfl
theorem ok1113 : Ok4 1 1 1 3 := fun s t0 t1 t2 t3 u0 u1 u2 => by kernel_rfl
theorem ok1120 : Ok4 1 1 2 0 := fun s t0 t1 t2 t3 u0 u1 u2 => by kernel_rfl
theorem ok1121 : Ok4 1 1 2 1 := fun s t0 t1 t2 t3 u0 u1 u2 => by kernel_rfl
theorem ok1122 : Ok4 1 1 2 2 := fun s t0 t1 t2 t3 u0 u1 u2 => by kernel_rfl
theorem ok1123 : Ok4 1 1 2 3 := fun s t0 t1 t2 t3 u0 u1 u2 => by kernel_rfl
theorem ok1130 : Ok4 1 1 3 0 := fun s t0 t1 t2 t3 u0 u1 u2 => by kernel_rfl
theorem ok1131 : Ok4 1 1 3 1 := fun s t0 t1 t2 t3 u0 u1 u2 => by kernel_rfl
theorem ok1132 : Ok4 1 1 3 2 := fun s t0 t1 t2 t3 u0 u1 u2 => by kernel_rfl
theorem ok1133 : Ok4 1 1 3 3 := fun s t0 t1 t2 t3 u0 u1 u2 => by kernel_rfl
theorem ok1200 : Ok4 1 2 0 0 := fun s t0 t1 t2 t3 u0 u1 u2 => by kernel_rfl
theorem ok1201 : Ok4 1 2 0 1 := fun s t0 t1 t2 t3 u0 u1 u2 => by kernel_rfl
theorem ok1202 : Ok4 1 2 0 2 := fun s t0 t1 t2 t3 u0 u1 u2 => by kernel_rfl
theorem ok1203 : Ok4 1 2 0 3 := fun s t0 t1 t2 t3 u0 u1 u2 => by kernel_rfl
theorem ok1210 : Ok4 1 2 1 0 := fun s t0 t1 t2 t3 u0 u1 u2 => by kernel_rfl
theorem ok1211 : Ok4 1 2 1 1 := fun s t0 t1 t2 t3 u0 u1 u2 => by kernel_rfl
theorem ok1212 : Ok4 1 2 1 2 := fun s t0 t1 t2 t3 u0 u1 u2 => by kernel_rfl
theorem ok1213 : Ok4 1 2 1 3 := fun s t0 t1 t2 t3 u0 u1 u2 => by kernel_rfl
theorem ok1220 : Ok4 1 2 2 0 := fun s t0 t1 t2 t3 u0 u1 u2 => by kernel_rfl
theorem ok1221 : Ok4 1 2 2 1 := fun s t0 t1 t2 t3 u0 u1 u2 => by kernel_rfl
theorem ok1222 : Ok4 1 2 2 2 := fun s t0 t1 t2 t3 u0 u1 u2 => by kernel_rfl
theorem ok1223 : Ok4 1 2 2 3 := fun s t0 t1 t2 t3 u0 u1 u2 => by kernel_rfl
theorem ok1230 : Ok4 1 2 3 0 := fun s t0 t1 t2 t3 u0 u1 u2 => by kernel_rfl
theorem ok1231 : Ok4 1 2 3 1 := fun s t0 t1 t2 t3 u0 u1 u2 => by kernel_rfl
theorem ok1232 : Ok4 1 2 3 2 := fun s t0 t1 t2 t3 u0 u1 u2 => by kernel_rfl
theorem ok1233 : Ok4 1 2 3 3 := fun s t0 t1 t2 t3 u0 u1 u2 => by kernel_rfl
theorem ok1300 : Ok4 1 3 0 0 := fun s t0 t1 t2 t3 u0 u1 u2 => by kernel_rfl
theorem ok1301 : Ok4 1 3 0 1 := fun s t0 t1 t2 t3 u0 u1 u2 => by kernel_rfl
theorem ok1302 : Ok4 1 3 0 2 := fun s t0 t1 t2 t3 u0 u1 u2 => by kernel_rfl
theorem ok1303 : Ok4 1 3 0 3 := fun s t0 t1 t2 t3 u0 u1 u2 => by kernel_rfl
theorem ok1310 : Ok4 1 3 1 0 := fun s t0 t1 t2 t3 u0 u1 u2 => by kernel_rfl
theorem ok1311 : Ok4 1 3 1 1 := fun s t0 t1 t2 t3 u0 u1 u2 => by kernel_rfl
theorem ok1312 : Ok4 1 3 1 2 := fun s t0 t1 t2 t3 u0 u1 u2 => by kernel_rfl
theorem ok1313 : Ok4 1 3 1 3 := fun s t0 t1 t2 t3 u0 u1 u2 => by kernel_rfl
theorem ok1320 : Ok4 1 3 2 0 := fun s t0 t1 t2 t3 u0 u1 u2 => by kernel_rfl
theorem ok1321 : Ok4 1 3 2 1 := fun s t0 t1 t2 t3 u0 u1 u2 => by kernel_rfl
theorem ok1322 : Ok4 1 3 2 2 := fun s t0 t1 t2 t3 u0 u1 u2 => by kernel_rfl
theorem ok1323 : Ok4 1 3 2 3 := fun s t0 t1 t2 t3 u0 u1 u2 => by kernel_rfl
theorem ok1330 : Ok4 1 3 3 0 := fun s t0 t1 t2 t3 u0 u1 u2 => by kernel_rfl
theorem ok1331 : Ok4 1 3 3 1 := fun s t0 t1 t2 t3 u0 u1 u2 => by kernel_rfl
theorem ok1332 : Ok4 1 3 3 2 := fun s t0 t1 t2 t3 u0 u1 u2 => by kernel_rfl
theorem ok1333 : Ok4 1 3 3 3 := fun s t0 t1 t2 t3 u0 u1 u2 => by kernel_rfl
theorem ok2000 : Ok4 2 0 0 0 := fun s t0 t1 t2 t3 u0 u1 u2 => by kernel_rfl
theorem ok2001 : Ok4 2 0 0 1 := fun s t0 t1 t2 t3 u0 u1 u2 => by kernel_rfl
theorem ok2002 : Ok4 2 0 0 2 := fun s t0 t1 t2 t3 u0 u1 u2 => by kernel_rfl
theorem ok2003 : Ok4 2 0 0 3 := fun s t0 t1 t2 t3 u0 u1 u2 => by kernel_rfl
theorem ok2010 : Ok4 2 0 1 0 := fun s t0 t1 t2 t3 u0 u1 u2 => by kernel_rfl
theorem ok2011 : Ok4 2 0 1 1 := fun s t0 t1 t2 t3 u0 u1 u2 => by kernel_rfl
theorem ok2012 : Ok4 2 0 1 2 := fun s t0 t1 t2 t3 u0 u1 u2 => by kernel_rfl
theorem ok2013 : Ok4 2 0 1 3 := fun s t0 t1 t2 t3 u0 u1 u2 => by kernel_rfl
theorem ok2020 : Ok4 2 0 2 0 := fun s t0 t1 t2 t3 u0 u1 u2 => by kernel_rfl
theorem ok2021 : Ok4 2 0 2 1 := fun s t0 t1 t2 t3 u0 u1 u2 => by kernel_rfl
theorem ok2022 : Ok4 2 0 2 2 := fun s t0 t1 t2 t3 u0 u1 u2 => by kernel_rfl
theorem ok2023 : Ok4 2 0 2 3 := fun s t0 t1 t2 t3 u0 u1 u2 => by kernel_rfl
theorem ok2030 : Ok4 2 0 3 0 := fun s t0 t1 t2 t3 u0 u1 u2 => by kernel_rfl
theorem ok2031 : Ok4 2 0 3 1 := fun s t0 t1 t2 t3 u0 u1 u2 => by kernel_rfl
theorem ok2032 : Ok4 2 0 3 2 := fun s t0 t1 t2 t3 u0 u1 u2 => by kernel_rfl
theorem ok2033 : Ok4 2 0 3 3 := fun s t0 t1 t2 t3 u0 u1 u2 => by kernel_rfl
theorem ok2100 : Ok4 2 1 0 0 := fun s t0 t1 t2 t3 u0 u1 u2 => by kernel_rfl
theorem ok2101 : Ok4 2 1 0 1 := fun s t0 t1 t2 t3 u0 u1 u2 => by kernel_rfl
theorem ok2102 : Ok4 2 1 0 2 := fun s t0 t1 t2 t3 u0 u1 u2 => by kernel_rfl
theorem ok2103 : Ok4 2 1 0 3 := fun s t0 t1 t2 t3 u0 u1 u2 => by kernel_rfl
theorem ok2110 : Ok4 2 1 1 0 := fun s t0 t1 t2 t3 u0 u1 u2 => by kernel_rfl
theorem ok2111 : Ok4 2 1 1 1 := fun s t0 t1 t2 t3 u0 u1 u2 => by kernel_rfl
theorem ok2112 : Ok4 2 1 1 2 := fun s t0 t1 t2 t3 u0 u1 u2 => by kernel_rfl
theorem ok2113 : Ok4 2 1 1 3 := fun s t0 t1 t2 t3 u0 u1 u2 => by kernel_rfl
theorem ok2120 : Ok4 2 1 2 0 := fun s t0 t1 t2 t3 u0 u1 u2 => by kernel_rfl
theorem ok2121 : Ok4 2 1 2 1 := fun s t0 t1 t2 t3 u0 u1 u2 => by kernel_rfl
theorem ok2122 : Ok4 2 1 2 2 := fun s t0 t1 t2 t3 u0 u1 u2 => by kernel_rfl
theorem ok2123 : Ok4 2 1 2 3 := fun s t0 t1 t2 t3 u0 u1 u2 => by kernel_rfl
theorem ok2130 : Ok4 2 1 3 0 := fun s t0 t1 t2 t3 u0 u1 u2 => by kernel_rfl
theorem ok2131 : Ok4 2 1 3 1 := fun s t0 t1 t2 t3 u0 u1 u2 => by kernel_rfl
theorem ok2132 : Ok4 2 1 3 2 := fun s t0 t1 t2 t3 u0 u1 u2 => by kernel_rfl
theorem ok2133 : Ok4 2 1 3 3 := fun s t0 t1 t2 t3 u0 u1 u2 => by kernel_rfl
theorem ok2200 : Ok4 2 2 0 0 := fun s t0 t1 t2 t3 u0 u1 u2 => by kernel_rfl
theorem ok2201 : Ok4 2 2 0 1 := fun s t0 t1 t2 t3 u0 u1 u2 => by kernel_rfl
theorem ok2202 : Ok4 2 2 0 2 := fun s t0 t1 t2 t3 u0 u1 u2 => by kernel_rfl
theorem ok2203 : Ok4 2 2 0 3 := fun s t0 t1 t2 t3 u0 u1 u2 => by kernel_rfl
theorem ok2210 : Ok4 2 2 1 0 := fun s t0 t1 t2 t3 u0 u1 u2 => by kernel_rfl
theorem ok2211 : Ok4 2 2 1 1 := fun s t0 t1 t2 t3 u0 u1 u2 => by kernel_rfl
theorem ok2212 : Ok4 2 2 1 2 := fun s t0 t1 t2 t3 u0 u1 u2 => by kernel_rfl
theorem ok2213 : Ok4 2 2 1 3 := fun s t0 t1 t2 t3 u0 u1 u2 => by kernel_rfl
theorem ok2220 : Ok4 2 2 2 0 := fun s t0 t1 t2 t3 u0 u1 u2 => by kernel_rfl
theorem ok2221 : Ok4 2 2 2 1 := fun s t0 t1 t2 t3 u0 u1 u2 => by kernel_rfl
theorem ok2222 : Ok4 2 2 2 2 := fun s t0 t1 t2 t3 u0 u1 u2 => by kernel_rfl
theorem ok2223 : Ok4 2 2 2 3 := fun s t0 t1 t2 t3 u0 u1 u2 => by kernel_rfl
theorem ok2230 : Ok4 2 2 3 0 := fun s t0 t1 t2 t3 u0 u1 u2 => by kernel_rfl
theorem ok2231 : Ok4 2 2 3 1 := fun s t0 t1 t2 t3 u0 u1 u2 => by kernel_rfl
theorem ok2232 : Ok4 2 2 3 2 := fun s t0 t1 t2 t3 u0 u1 u2 => by kernel_rfl
theorem ok2233 : Ok4 2 2 3 3 := fun s t0 t1 t2 t3 u0 u1 u2 => by kernel_rfl
theorem ok2300 : Ok4 2 3 0 0 := fun s t0 t1 t2 t3 u0 u1 u2 => by kernel_rfl
theorem ok2301 : Ok4 2 3 0 1 := fun s t0 t1 t2 t3 u0 u1 u2 => by kernel_rfl
theorem ok2302 : Ok4 2 3 0 2 := fun s t0 t1 t2 t3 u0 u1 u2 => by kernel_rfl
theorem ok2303 : Ok4 2 3 0 3 := fun s t0 t1 t2 t3 u0 u1 u2 => by kernel_rfl
theorem ok2310 : Ok4 2 3 1 0 := fun s t0 t1 t2 t3 u0 u1 u2 => by kernel_rfl
theorem ok2311 : Ok4 2 3 1 1 := fun s t0 t1 t2 t3 u0 u1 u2 => by kernel_rfl
theorem ok2312 : Ok4 2 3 1 2 := fun s t0 t1 t2 t3 u0 u1 u2 => by kernel_rfl
theorem ok2313 : Ok4 2 3 1 3 := fun s t0 t1 t2 t3 u0 u1 u2 => by kernel_rfl
theorem ok2320 : Ok4 2 3 2 0 := fun s t0 t1 t2 t3 u0 u1 u2 => by kernel_rfl
theorem ok2321 : Ok4 2 3 2 1 := fun s t0 t1 t2 t3 u0 u1 u2 => by kernel_rfl
theorem ok2322 : Ok4 2 3 2 2 := fun s t0 t1 t2 t3 u0 u1 u2 => by kernel_rfl
theorem ok2323 : Ok4 2 3 2 3 := fun s t0 t1 t2 t3 u0 u1 u2 => by kernel_rfl
theorem ok2330 : Ok4 2 3 3 0 := fun s t0 t1 t2 t3 u0 u1 u2 => by kernel_rfl
theorem ok2331 : Ok4 2 3 3 1 := fun s t0 t1 t2 t3 u0 u1 u2 => by kernel_rfl
theorem ok2332 : Ok4 2 3 3 2 := fun s t0 t1 t2 t3 u0 u1 u2 => by kernel_rfl
theorem ok2333 : Ok4 2 3 3 3 := fun s t0 t1 t2 t3 u0 u1 u2 => by kernel_rfl
theorem ok3000 : Ok4 3 0 0 0 := fun s t0 t1 t2 t3 u0 u1 u2 => by kernel_rfl
theorem ok3001 : Ok4 3 0 0 1 := fun s t0 t1 t2 t3 u0 u1 u2 => by kernel_rfl
theorem ok3002 : Ok4 3 0 0 2 := fun s t0 t1 t2 t3 u0 u1 u2 => by kernel_rfl
theorem ok3003 : Ok4 3 0 0 3 := fun s t0 t1 t2 t3 u0 u1 u2 => by kernel_rfl
theorem ok3010 : Ok4 3 0 1 0 := fun s t0 t1 t2 t3 u0 u1 u2 => by kernel_rfl
theorem ok3011 : Ok4 3 0 1 1 := fun s t0 t1 t2 t3 u0 u1 u2 => by kernel_rfl
theorem ok3012 : Ok4 3 0 1 2 := fun s t0 t1 t2 t3 u0 u1 u2 => by kernel_rfl
theorem ok3013 : Ok4 3 0 1 3 := fun s t0 t1 t2 t3 u0 u1 u2 => by kernel_rfl
theorem ok3020 : Ok4 3 0 2 0 := fun s t0 t1 t2 t3 u0 u1 u2 => by kernel_rfl
theorem ok3021 : Ok4 3 0 2 1 := fun s t0 t1 t2 t3 u0 u1 u2 => by kernel_rfl
theorem ok3022 : Ok4 3 0 2 2 := fun s t0 t1 t2 t3 u0 u1 u2 => by kernel_rfl
theorem ok3023 : Ok4 3 0 2 3 := fun s t0 t1 t2 t3 u0 u1 u2 => by kernel_rfl
theorem ok3030 : Ok4 3 0 3 0 := fun s t0 t1 t2 t3 u0 u1 u2 => by kernel_rfl
theorem ok3031 : Ok4 3 0 3 1 := fun s t0 t1 t2 t3 u0 u1 u2 => by kernel_rfl
theorem ok3032 : Ok4 3 0 3 2 := fun s t0 t1 t2 t3 u0 u1 u2 => by kernel_rfl
theorem ok3033 : Ok4 3 0 3 3 := fun s t0 t1 t2 t3 u0 u1 u2 => by kernel_rfl
theorem ok3100 : Ok4 3 1 0 0 := fun s t0 t1 t2 t3 u0 u1 u2 => by kernel_rfl
theorem ok3101 : Ok4 3 1 0 1 := fun s t0 t1 t2 t3 u0 u1 u2 => by kernel_rfl
theorem ok3102 : Ok4 3 1 0 2 := fun s t0 t1 t2 t3 u0 u1 u2 => by kernel_rfl
theorem ok3103 : Ok4 3 1 0 3 := fun s t0 t1 t2 t3 u0 u1 u2 => by kernel_rfl
theorem ok3110 : Ok4 3 1 1 0 := fun s t0 t1 t2 t3 u0 u1 u2 => by kernel_rfl
theorem ok3111 : Ok4 3 1 1 1 := fun s t0 t1 t2 t3 u0 u1 u2 => by kernel_rfl
theorem ok3112 : Ok4 3 1 1 2 := fun s t0 t1 t2 t3 u0 u1 u2 => by kernel_rfl
theorem ok3113 : Ok4 3 1 1 3 := fun s t0 t1 t2 t3 u0 u1 u2 => by kernel_rfl
theorem ok3120 : Ok4 3 1 2 0 := fun s t0 t1 t2 t3 u0 u1 u2 => by kernel_rfl
theorem ok3121 : Ok4 3 1 2 1 := fun s t0 t1 t2 t3 u0 u1 u2 => by kernel_rfl
theorem ok3122 : Ok4 3 1 2 2 := fun s t0 t1 t2 t3 u0 u1 u2 => by kernel_rfl
theorem ok3123 : Ok4 3 1 2 3 := fun s t0 t1 t2 t3 u0 u1 u2 => by kernel_rfl
theorem ok3130 : Ok4 3 1 3 0 := fun s t0 t1 t2 t3 u0 u1 u2 => by kernel_rfl
theorem ok3131 : Ok4 3 1 3 1 := fun s t0 t1 t2 t3 u0 u1 u2 => by kernel_rfl
theorem ok3132 : Ok4 3 1 3 2 := fun s t0 t1 t2 t3 u0 u1 u2 => by kernel_rfl
theorem ok3133 : Ok4 3 1 3 3 := fun s t0 t1 t2 t3 u0 u1 u2 => by kernel_rfl
theorem ok3200 : Ok4 3 2 0 0 := fun s t0 t1 t2 t3 u0 u1 u2 => by kernel_rfl
theorem ok3201 : Ok4 3 2 0 1 := fun s t0 t1 t2 t3 u0 u1 u2 => by kernel_rfl
theorem ok3202 : Ok4 3 2 0 2 := fun s t0 t1 t2 t3 u0 u1 u2 => by kernel_rfl
theorem ok3203 : Ok4 3 2 0 3 := fun s t0 t1 t2 t3 u0 u1 u2 => by kernel_rfl
theorem ok3210 : Ok4 3 2 1 0 := fun s t0 t1 t2 t3 u0 u1 u2 => by kernel_rfl
theorem ok3211 : Ok4 3 2 1 1 := fun s t0 t1 t2 t3 u0 u1 u2 => by kernel_rfl
theorem ok3212 : Ok4 3 2 1 2 := fun s t0 t1 t2 t3 u0 u1 u2 => by kernel_rfl
theorem ok3213 : Ok4 3 2 1 3 := fun s t0 t1 t2 t3 u0 u1 u2 => by kernel_rfl
theorem ok3220 : Ok4 3 2 2 0 := fun s t0 t1 t2 t3 u0 u1 u2 => by kernel_rfl
theorem ok3221 : Ok4 3 2 2 1 := fun s t0 t1 t2 t3 u0 u1 u2 => by kernel_rfl
theorem ok3222 : Ok4 3 2 2 2 := fun s t0 t1 t2 t3 u0 u1 u2 => by kernel_rfl
theorem ok3223 : Ok4 3 2 2 3 := fun s t0 t1 t2 t3 u0 u1 u2 => by kernel_rfl
theorem ok3230 : Ok4 3 2 3 0 := fun s t0 t1 t2 t3 u0 u1 u2 => by kernel_rfl
theorem ok3231 : Ok4 3 2 3 1 := fun s t0 t1 t2 t3 u0 u1 u2 => by kernel_rfl
theorem ok3232 : Ok4 3 2 3 2 := fun s t0 t1 t2 t3 u0 u1 u2 => by kernel_rfl
theorem ok3233 : Ok4 3 2 3 3 := fun s t0 t1 t2 t3 u0 u1 u2 => by kernel_rfl
theorem ok3300 : Ok4 3 3 0 0 := fun s t0 t1 t2 t3 u0 u1 u2 => by kernel_rfl
theorem ok3301 : Ok4 3 3 0 1 := fun s t0 t1 t2 t3 u0 u1 u2 => by kernel_rfl
theorem ok3302 : Ok4 3 3 0 2 := fun s t0 t1 t2 t3 u0 u1 u2 => by kernel_rfl
theorem ok3303 : Ok4 3 3 0 3 := fun s t0 t1 t2 t3 u0 u1 u2 => by kernel_rfl
theorem ok3310 : Ok4 3 3 1 0 := fun s t0 t1 t2 t3 u0 u1 u2 => by kernel_rfl
theorem ok3311 : Ok4 3 3 1 1 := fun s t0 t1 t2 t3 u0 u1 u2 => by kernel_rfl
theorem ok3312 : Ok4 3 3 1 2 := fun s t0 t1 t2 t3 u0 u1 u2 => by kernel_rfl
theorem ok3313 : Ok4 3 3 1 3 := fun s t0 t1 t2 t3 u0 u1 u2 => by kernel_rfl
theorem ok3320 : Ok4 3 3 2 0 := fun s t0 t1 t2 t3 u0 u1 u2 => by kernel_rfl
theorem ok3321 : Ok4 3 3 2 1 := fun s t0 t1 t2 t3 u0 u1 u2 => by kernel_rfl
theorem ok3322 : Ok4 3 3 2 2 := fun s t0 t1 t2 t3 u0 u1 u2 => by kernel_rfl
theorem ok3323 : Ok4 3 3 2 3 := fun s t0 t1 t2 t3 u0 u1 u2 => by kernel_rfl
theorem ok3330 : Ok4 3 3 3 0 := fun s t0 t1 t2 t3 u0 u1 u2 => by kernel_rfl
theorem ok3331 : Ok4 3 3 3 1 := fun s t0 t1 t2 t3 u0 u1 u2 => by kernel_rfl
theorem ok3332 : Ok4 3 3 3 2 := fun s t0 t1 t2 t3 u0 u1 u2 => by kernel_rfl
theorem ok3333 : Ok4 3 3 3 3 := fun s t0 t1 t2 t3 u0 u1 u2 => by kernel_rfl
theorem ok000 : ∀ {d : Nat}, d < 4 → Ok4 0 0 0 d := fun h => four (p := fun d => Ok4 0 0 0 d) ok0000 ok0001 ok0002 ok0003 h
theorem ok001 : ∀ {d : Nat}, d < 4 → Ok4 0 0 1 d := fun h => four (p := fun d => Ok4 0 0 1 d) ok0010 ok0011 ok0012 ok0013 h
theorem ok002 : ∀ {d : Nat}, d < 4 → Ok4 0 0 2 d := fun h => four (p := fun d => Ok4 0 0 2 d) ok0020 ok0021 ok0022 ok0023 h
theorem ok003 : ∀ {d : Nat}, d < 4 → Ok4 0 0 3 d := fun h => four (p := fun d => Ok4 0 0 3 d) ok0030 ok0031 ok0032 ok0033 h
theorem ok00 : ∀ {c : Nat}, c < 4 → ∀ {d : Nat}, d < 4 → Ok4 0 0 c d := fun h => four (p := fun c => ∀ {d : Nat}, d < 4 → Ok4 0 0 c d) ok000 ok001 ok002 ok003 h
theorem ok010 : ∀ {d : Nat}, d < 4 → Ok4 0 1 0 d := fun h => four (p := fun d => Ok4 0 1 0 d) ok0100 ok0101 ok0102 ok0103 h
theorem ok011 : ∀ {d : Nat}, d < 4 → Ok4 0 1 1 d := fun h => four (p := fun d => Ok4 0 1 1 d) ok0110 ok0111 ok0112 ok0113 h
theorem ok012 : ∀ {d : Nat}, d < 4 → Ok4 0 1 2 d := fun h => four (p := fun d => Ok4 0 1 2 d) ok0120 ok0121 ok0122 ok0123 h
theorem ok013 : ∀ {d : Nat}, d < 4 → Ok4 0 1 3 d := fun h => four (p := fun d => Ok4 0 1 3 d) ok0130 ok0131 ok0132 ok0133 h
theorem ok01 : ∀ {c : Nat}, c < 4 → ∀ {d : Nat}, d < 4 → Ok4 0 1 c d := fun h => four (p := fun c => ∀ {d : Nat}, d < 4 → Ok4 0 1 c d) ok010 ok011 ok012 ok013 h
theorem ok020 : ∀ {d : Nat}, d < 4 → Ok4 0 2 0 d := fun h => four (p := fun d => Ok4 0 2 0 d) ok0200 ok0201 ok0202 ok0203 h
theorem ok021 : ∀ {d : Nat}, d < 4 → Ok4 0 2 1 d := fun h => four (p := fun d => Ok4 0 2 1 d) ok0210 ok0211 ok0212 ok0213 h
theorem ok022 : ∀ {d : Nat}, d < 4 → Ok4 0 2 2 d := fun h => four (p := fun d => Ok4 0 2 2 d) ok0220 ok0221 ok0222 ok0223 h
theorem ok023 : ∀ {d : Nat}, d < 4 → Ok4 0 2 3 d := fun h => four (p := fun d => Ok4 0 2 3 d) ok0230 ok0231 ok0232 ok0233 h
theorem ok02 : ∀ {c : Nat}, c < 4 → ∀ {d : Nat}, d < 4 → Ok4 0 2 c d := fun h => four (p := fun c => ∀ {d : Nat}, d < 4 → Ok4 0 2 c d) ok020 ok021 ok022 ok023 h
theorem ok030 : ∀ {d : Nat}, d < 4 → Ok4 0 3 0 d := fun h => four (p := fun d => Ok4 0 3 0 d) ok0300 ok0301 ok0302 ok0303 h
theorem ok031 : ∀ {d : Nat}, d < 4 → Ok4 0 3 1 d := fun h => four (p := fun d => Ok4 0 3 1 d) ok0310 ok0311 ok0312 ok0313 h
theorem ok032 : ∀ {d : Nat}, d < 4 → Ok4 0 3 2 d := fun h => four (p := fun d => Ok4 0 3 2 d) ok0320 ok0321 ok0322 ok0323 h
theorem ok033 : ∀ {d : Nat}, d < 4 → Ok4 0 3 3 d := fun h => four (p := fun d => Ok4 0 3 3 d) ok0330 ok0331 ok0332 ok0333 h
theorem ok03 : ∀ {c : Nat}, c < 4 → ∀ {d : Nat}, d < 4 → Ok4 0 3 c d := fun h => four (p := fun c => ∀ {d : Nat}, d < 4 → Ok4 0 3 c d) ok030 ok031 ok032 ok033 h
theorem ok0 : ∀ {b : Nat}, b < 4 → ∀ {c : Nat}, c < 4 → ∀ {d : Nat}, d < 4 → Ok4 0 b c d := fun h => four (p := fun b => ∀ {c : Nat}, c < 4 → ∀ {d : Nat}, d < 4 → Ok4 0 b c d) ok00 ok01 ok02 ok03 h
theorem ok100 : ∀ {d : Nat}, d < 4 → Ok4 1 0 0 d := fun h => four (p := fun d => Ok4 1 0 0 d) ok1000 ok1001 ok1002 ok1003 h
theorem ok101 : ∀ {d : Nat}, d < 4 → Ok4 1 0 1 d := fun h => four (p := fun d => Ok4 1 0 1 d) ok1010 ok1011 ok1012 ok1013 h
theorem ok102 : ∀ {d : Nat}, d < 4 → Ok4 1 0 2 d := fun h => four (p := fun d => Ok4 1 0 2 d) ok1020 ok1021 ok1022 ok1023 h
theorem ok103 : ∀ {d : Nat}, d < 4 → Ok4 1 0 3 d := fun h => four (p := fun d => Ok4 1 0 3 d) ok1030 ok1031 ok1032 ok1033 h
theorem ok10 : ∀ {c : Nat}, c < 4 → ∀ {d : Nat}, d < 4 → Ok4 1 0 c d := fun h => four (p := fun c => ∀ {d : Nat}, d < 4 → Ok4 1 0 c d) ok100 ok101 ok102 ok103 h
theorem ok110 : ∀ {d : Nat}, d < 4 → Ok4 1 1 0 d := fun h => four (p := fun d => Ok4 1 1 0 d) ok1100 ok1101 ok1102 ok1103 h
theorem ok111 : ∀ {d : Nat}, d < 4 → Ok4 1 1 1 d := fun h => four (p := fun d => Ok4 1 1 1 d) ok1110 ok1111 ok1112 ok1113 h
theorem ok112 : ∀ {d : Nat}, d < 4 → Ok4 1 1 2 d := fun h => four (p := fun d => Ok4 1 1 2 d) ok1120 ok1121 ok1122 ok1123 h
theorem ok113 : ∀ {d : Nat}, d < 4 → Ok4 1 1 3 d := fun h => four (p := fun d => Ok4 1 1 3 d) ok1130 ok1131 ok1132 ok1133 h
theorem ok11 : ∀ {c : Nat}, c < 4 → ∀ {d : Nat}, d < 4 → Ok4 1 1 c d := fun h => four (p := fun c => ∀ {d : Nat}, d < 4 → Ok4 1 1 c d) ok110 ok111 ok112 ok113 h
theorem ok120 : ∀ {d : Nat}, d < 4 → Ok4 1 2 0 d := fun h => four (p := fun d => Ok4 1 2 0 d) ok1200 ok1201 ok1202 ok1203 h
theorem ok121 : ∀ {d : Nat}, d < 4 → Ok4 1 2 1 d := fun h => four (p := fun d => Ok4 1 2 1 d) ok1210 ok1211 ok1212 ok1213 h
theorem ok122 : ∀ {d : Nat}, d < 4 → Ok4 1 2 2 d := fun h => four (p := fun d => Ok4 1 2 2 d) ok1220 ok1221 ok1222 ok1223 h
theorem ok123 : ∀ {d : Nat}, d < 4 → Ok4 1 2 3 d := fun h => four (p := fun d => Ok4 1 2 3 d) ok1230 ok1231 ok1232 ok1233 h
theorem ok12 : ∀ {c : Nat}, c < 4 → ∀ {d : Nat}, d < 4 → Ok4 1 2 c d := fun h => four (p := fun c => ∀ {d : Nat}, d < 4 → Ok4 1 2 c d) ok120 ok121 ok122 ok123 h
theorem ok130 : ∀ {d : Nat}, d < 4 → Ok4 1 3 0 d := fun h => four (p := fun d => Ok4 1 3 0 d) ok1300 ok1301 ok1302 ok1303 h
theorem ok131 : ∀ {d : Nat}, d < 4 → Ok4 1 3 1 d := fun h => four (p := fun d => Ok4 1 3 1 d) ok1310 ok1311 ok1312 ok1313 h
theorem ok132 : ∀ {d : Nat}, d < 4 → Ok4 1 3 2 d := fun h => four (p := fun d => Ok4 1 3 2 d) ok1320 ok1321 ok1322 ok1323 h
theorem ok133 : ∀ {d : Nat}, d < 4 → Ok4 1 3 3 d := fun h => four (p := fun d => Ok4 1 3 3 d) ok1330 ok1331 ok1332 ok1333 h
theorem ok13 : ∀ {c : Nat}, c < 4 → ∀ {d : Nat}, d < 4 → Ok4 1 3 c d := fun h => four (p := fun c => ∀ {d : Nat}, d < 4 → Ok4 1 3 c d) ok130 ok131 ok132 ok133 h
theorem ok1 : ∀ {b : Nat}, b < 4 → ∀ {c : Nat}, c < 4 → ∀ {d : Nat}, d < 4 → Ok4 1 b c d := fun h => four (p := fun b => ∀ {c : Nat}, c < 4 → ∀ {d : Nat}, d < 4 → Ok4 1 b c d) ok10 ok11 ok12 ok13 h
theorem ok200 : ∀ {d : Nat}, d < 4 → Ok4 2 0 0 d := fun h => four (p := fun d => Ok4 2 0 0 d) ok2000 ok2001 ok2002 ok2003 h
theorem ok201 : ∀ {d : Nat}, d < 4 → Ok4 2 0 1 d := fun h => four (p := fun d => Ok4 2 0 1 d) ok2010 ok2011 ok2012 ok2013 h
theorem ok202 : ∀ {d : Nat}, d < 4 → Ok4 2 0 2 d := fun h => four (p := fun d => Ok4 2 0 2 d) ok2020 ok2021 ok2022 ok2023 h
theorem ok203 : ∀ {d : Nat}, d < 4 → Ok4 2 0 3 d := fun h => four (p := fun d => Ok4 2 0 3 d) ok2030 ok2031 ok2032 ok2033 h
theorem ok20 : ∀ {c : Nat}, c < 4 → ∀ {d : Nat}, d < 4 → Ok4 2 0 c d := fun h => four (p := fun c => ∀ {d : Nat}, d < 4 → Ok4 2 0 c d) ok200 ok201 ok202 ok203 h
theorem ok210 : ∀ {d : Nat}, d < 4 → Ok4 2 1 0 d := fun h => four (p := fun d => Ok4 2 1 0 d) ok2100 ok2101 ok2102 ok2103 h
theorem ok211 : ∀ {d : Nat}, d < 4 → Ok4 2 1 1 d := fun h => four (p := fun d => Ok4 2 1 1 d) ok2110 ok2111 ok2112 ok2113 h
theorem ok212 : ∀ {d : Nat}, d < 4 → Ok4 2 1 2 d := fun h => four (p := fun d => Ok4 2 1 2 d) ok2120 ok2121 ok2122 ok2123 h
theorem ok213 : ∀ {d : Nat}, d < 4 → Ok4 2 1 3 d := fun h => four (p := fun d => Ok4 2 1 3 d) ok2130 ok2131 ok2132 ok2133 h
theorem ok21 : ∀ {c : Nat}, c < 4 → ∀ {d : Nat}, d < 4 → Ok4 2 1 c d := fun h => four (p := fun c => ∀ {d : Nat}, d < 4 → Ok4 2 1 c d) ok210 ok211 ok212 ok213 h
theorem ok220 : ∀ {d : Nat}, d < 4 → Ok4 2 2 0 d := fun h => four (p := fun d => Ok4 2 2 0 d) ok2200 ok2201 ok2202 ok2203 h
theorem ok221 : ∀ {d : Nat}, d < 4 → Ok4 2 2 1 d := fun h => four (p := fun d => Ok4 2 2 1 d) ok2210 ok2211 ok2212 ok2213 h
theorem ok222 : ∀ {d : Nat}, d < 4 → Ok4 2 2 2 d := fun h => four (p := fun d => Ok4 2 2 2 d) ok2220 ok2221 ok2222 ok2223 h
theorem ok223 : ∀ {d : Nat}, d < 4 → Ok4 2 2 3 d := fun h => four (p := fun d => Ok4 2 2 3 d) ok2230 ok2231 ok2232 ok2233 h
theorem ok22 : ∀ {c : Nat}, c < 4 → ∀ {d : Nat}, d < 4 → Ok4 2 2 c d := fun h => four (p := fun c => ∀ {d : Nat}, d < 4 → Ok4 2 2 c d) ok220 ok221 ok222 ok223 h
theorem ok230 : ∀ {d : Nat}, d < 4 → Ok4 2 3 0 d := fun h => four (p := fun d => Ok4 2 3 0 d) ok2300 ok2301 ok2302 ok2303 h
theorem ok231 : ∀ {d : Nat}, d < 4 → Ok4 2 3 1 d := fun h => four (p := fun d => Ok4 2 3 1 d) ok2310 ok2311 ok2312 ok2313 h
theorem ok232 : ∀ {d : Nat}, d < 4 → Ok4 2 3 2 d := fun h => four (p := fun d => Ok4 2 3 2 d) ok2320 ok2321 ok2322 ok2323 h
theorem ok233 : ∀ {d : Nat}, d < 4 → Ok4 2 3 3 d := fun h => four (p := fun d => Ok4 2 3 3 d) ok2330 ok2331 ok2332 ok2333 h
theorem ok23 : ∀ {c : Nat}, c < 4 → ∀ {d : Nat}, d < 4 → Ok4 2 3 c d := fun h => four (p := fun c => ∀ {d : Nat}, d < 4 → Ok4 2 3 c d) ok230 ok231 ok232 ok233 h
theorem ok2 : ∀ {b : Nat}, b < 4 → ∀ {c : Nat}, c < 4 → ∀ {d : Nat}, d < 4 → Ok4 2 b c d := fun h => four (p := fun b => ∀ {c : Nat}, c < 4 → ∀ {d : Nat}, d < 4 → Ok4 2 b c d) ok20 ok21 ok22 ok23 h
theorem ok300 : ∀ {d : Nat}, d < 4 → Ok4 3 0 0 d := fun h => four (p := fun d => Ok4 3 0 0 d) ok3000 ok3001 ok3002 ok3003 h
theorem ok301 : ∀ {d : Nat}, d < 4 → Ok4 3 0 1 d := fun h => four (p := fun d => Ok4 3 0 1 d) ok3010 ok3011 ok3012 ok3013 h
theorem ok302 : ∀ {d : Nat}, d < 4 → Ok4 3 0 2 d := fun h => four (p := fun d => Ok4 3 0 2 d) ok3020 ok3021 ok3022 ok3023 h
theorem ok303 : ∀ {d : Nat}, d < 4 → Ok4 3 0 3 d := fun h => four (p := fun d => Ok4 3 0 3 d) ok3030 ok3031 ok3032 ok3033 h
theorem ok30 : ∀ {c : Nat}, c < 4 → ∀ {d : Nat}, d < 4 → Ok4 3 0 c d := fun h => four (p := fun c => ∀ {d : Nat}, d < 4 → Ok4 3 0 c d) ok300 ok301 ok302 ok303 h
theorem ok310 : ∀ {d : Nat}, d < 4 → Ok4 3 1 0 d := fun h => four (p := fun d => Ok4 3 1 0 d) ok3100 ok3101 ok3102 ok3103 h
theorem ok311 : ∀ {d : Nat}, d < 4 → Ok4 3 1 1 d := fun h => four (p := fun d => Ok4 3 1 1 d) ok3110 ok3111 ok3112 ok3113 h
theorem ok312 : ∀ {d : Nat}, d < 4 → Ok4 3 1 2 d := fun h => four (p := fun d => Ok4 3 1 2 d) ok3120 ok3121 ok3122 ok3123 h
theorem ok313 : ∀ {d : Nat}, d < 4 → Ok4 3 1 3 d := fun h => four (p := fun d => Ok4 3 1 3 d) ok3130 ok3131 ok3132 ok3133 h
theorem ok31 : ∀ {c : Nat}, c < 4 → ∀ {d : Nat}, d < 4 → Ok4 3 1 c d := fun h => four (p := fun c => ∀ {d : Nat}, d < 4 → Ok4 3 1 c d) ok310 ok311 ok312 ok313 h
theorem ok320 : ∀ {d : Nat}, d < 4 → Ok4 3 2 0 d := fun h => four (p := fun d => Ok4 3 2 0 d) ok3200 ok3201 ok3202 ok3203 h
theorem ok321 : ∀ {d : Nat}, d < 4 → Ok4 3 2 1 d := fun h => four (p := fun d => Ok4 3 2 1 d) ok3210 ok3211 ok3212 ok3213 h
theorem ok322 : ∀ {d : Nat}, d < 4 → Ok4 3 2 2 d := fun h => four (p := fun d => Ok4 3 2 2 d) ok3220 ok3221 ok3222 ok3223 h
theorem ok323 : ∀ {d : Nat}, d < 4 → Ok4 3 2 3 d := fun h => four (p := fun d => Ok4 3 2 3 d) ok3230 ok3231 ok3232 ok3233 h
theorem ok32 : ∀ {c : Nat}, c < 4 → ∀ {d : Nat}, d < 4 → Ok4 3 2 c d := fun h => four (p := fun c => ∀ {d : Nat}, d < 4 → Ok4 3 2 c d) ok320 ok321 ok322 ok323 h
theorem ok330 : ∀ {d : Nat}, d < 4 → Ok4 3 3 0 d := fun h => four (p := fun d => Ok4 3 3 0 d) ok3300 ok3301 ok3302 ok3303 h
theorem ok331 : ∀ {d : Nat}, d < 4 → Ok4 3 3 1 d := fun h => four (p := fun d => Ok4 3 3 1 d) ok3310 ok3311 ok3312 ok3313 h
theorem ok332 : ∀ {d : Nat}, d < 4 → Ok4 3 3 2 d := fun h => four (p := fun d => Ok4 3 3 2 d) ok3320 ok3321 ok3322 ok3323 h
theorem ok333 : ∀ {d : Nat}, d < 4 → Ok4 3 3 3 d := fun h => four (p := fun d => Ok4 3 3 3 d) ok3330 ok3331 ok3332 ok3333 h
theorem ok33 : ∀ {c : Nat}, c < 4 → ∀ {d : Nat}, d < 4 → Ok4 3 3 c d := fun h => four (p := fun c => ∀ {d : Nat}, d < 4 → Ok4 3 3 c d) ok330 ok331 ok332 ok333 h
theorem ok3 : ∀ {b : Nat}, b < 4 → ∀ {c : Nat}, c < 4 → ∀ {d : Nat}, d < 4 → Ok4 3 b c d := fun h => four (p := fun b => ∀ {c : Nat}, c < 4 → ∀ {d : Nat}, d < 4 → Ok4 3 b c d) ok30 ok31 ok32 ok33 h
theorem rest_ok {m0 m1 m2 m3 : Nat} (h0 : m0 < 4) (h1 : m1 < 4) (h2 : m2 < 4) (h3 : m3 < 4) : Ok4 m0 m1 m2 m3 :=
  four (p := fun a => ∀ {b : Nat}, b < 4 → ∀ {c : Nat}, c < 4 → ∀ {d : Nat}, d < 4 → Ok4 a b c d) ok0 ok1 ok2 ok3 h0 h1 h2 h3

theorem LAW (ns : List Int) (hl : ns.length ≤ 63) : B_law [.p (.list (ns.map .int))] = some (.p (.bool true)) := by
  obtain ⟨m0, m1, m2, m3, t0, t1, t2, t3, u0, u1, u2, ⟨a0, a1, a2, a3⟩, e⟩ := law_start hl
  refine runF_of rfl (e.trans (isT_eq ?_))
  exact rest_ok a0 a1 a2 a3 _ _ _ _ _ _ _ _
end Mine
end
section -- H0
open PySem PySem.W PyProof.Rows
set_option Elab.async false
namespace Mine
set_option maxRecDepth 100000 in
set_option maxHeartbeats 8000000 in
open_top hd for PySem.Challenge.rw_pg0083_01
end Mine
end
section -- H6
open PySem PySem.Spec PySem.Calls PySem.W PyProof.Rows
set_option Elab.async false
set_option maxRecDepth 100000
namespace Mine
theorem ns_some_of {K : Frag} {h : Heap} {N : Addr} {m : Str → Option Value} {n : Str} {v : Value} (X : K.In h) (G : h.Ns N m) (e : nsIn K N n = some (some v)) : m n = some v := by
  obtain ⟨o, es, ep, ho, hd, _, hf⟩ := G
  unfold nsIn at e
  split at e
  · rename_i c d es' n' sl q
    have := X _ _ q
    rw [ho] at this
    cases this
    cases hd
    split at e
    · rename_i en he
      cases e
      rw [← hf]
      unfold nsFind findBy
      rw [← Array.find?_toList, he]
      rfl
    · split at e <;> cases e
  · cases e
set_option maxHeartbeats 8000000
theorem all_of (LAW : ∀ ns : List Int, ns.length ≤ 63 → B_law [.p (.list (ns.map .int))] = some (.p (.bool true))) : PySem.Challenge.rw_pg0083_01.Holds := by
  refine hd ?_
  intro w s₀ s₁ mg mb G Y fa o pm cd doc dV kV ho hd hcd hD hmg hg args vals as hpre hlay hrd hwl hlo
  have KX := km_in_of Y
  have KT := km_tabs_of Y
  have T : Top _ _ _ mg mb s₁.heap := Ground.T G
  have X : Facts s₁.heap mg mb := by
    have hb33 : s₁.heap.get? 33 = some (tabObj #[]) := KT 33 (.head _)
    have hbm : s₁.heap.BuiltinsAt mg 33 := by
      obtain ⟨bm, ob, b1, b2, b3, b4, b5, b6⟩ := T.bmain
      refine ⟨bm, ob, b1, b2, fun q => ?_, fun q => ?_, b3, b4, b5, b6⟩
      · obtain ⟨o, es, ep, e, hd, _⟩ := T.g
        rw [q, e] at b3; cases b3; rw [hd] at b6; cases b6
      · rw [q, hb33] at b3; cases b3; cases b4
    have hcn : ∃ mN, s₁.heap.Ns 61 mN ∧ mN "__getattribute__" = none ∧ mN "__getattr__" = none ∧ mN "__setattr__" = none ∧ mN selKey = none ∧ mN "__init__" = some (.ref 52) ∧ mN (Str.ofString "compare") = some (.ref 59) := by
      have hok : s₁.heap.Ns 61 (s₁.heap.nsMap 61) := .of_isNs (isNs_of_in KX (by kernel_rfl))
      exact ⟨_, hok, ns_none_of KX hok (by kernel_rfl), ns_none_of KX hok (by kernel_rfl), ns_none_of KX hok (by kernel_rfl), ns_none_of KX hok (by kernel_rfl), ns_some_of KX hok (by kernel_rfl), ns_some_of KX hok (by kernel_rfl)⟩
    exact { g := T.g, b := T.b, nolimit := T.nolimit, builtins := T.builtins, tab := hb33, code := codeHd_of_K (c := 37) (P := 33) KX (by kernel_rfl), bmain := hbm, n_len := mg_none_of KX T.g (by kernel_rfl), n_sum := mg_none_of KX T.g (by kernel_rfl), n_sorted := mg_none_of KX T.g (by kernel_rfl), n_range := mg_none_of KX T.g (by kernel_rfl), n_isinstance := mg_none_of KX T.g (by kernel_rfl), n_tuple := mg_none_of KX T.g (by kernel_rfl), m_crlf := ⟨_, mg_of KX T.g rfl⟩, m_i2d := mg_of KX T.g (by kernel_rfl), m_cls := mg_of KX T.g (by kernel_rfl), m_addc := mg_of KX T.g (by kernel_rfl), m_count := mg_of KX T.g (by kernel_rfl), m_re1 := mg_of KX T.g (by kernel_rfl), m_re2 := mg_of KX T.g (by kernel_rfl), m_quote := mg_of KX T.g (by kernel_rfl), m_fix := mg_of KX T.g (by kernel_rfl), m_draw := mg_of KX T.g (by kernel_rfl), m_columns := mg_of KX T.g (by kernel_rfl), m_ways := mg_of KX T.g (by kernel_rfl), m_boxes := mg_of KX T.g (by kernel_rfl), m_nost := mg_of KX T.g (by kernel_rfl), i2dF := (fun fo fd e ed => by have q := KX 38 _ rfl; rw [q] at e; cases e; cases ed; exact ⟨rfl, rfl⟩), d_i2d := ⟨_, _, KX 38 _ rfl, rfl, rfl, rfl, rfl, rfl, rfl, rfl, codeRec_of KX (by kernel_rfl), fun vs h => by match vs, h with | [_, _], _ => rfl⟩, d_init := ⟨_, _, KX 52 _ rfl, rfl, rfl, rfl, rfl, rfl, rfl, rfl, codeRec_of KX (by kernel_rfl), fun vs h => by match vs, h with | [_, _], _ => rfl⟩, d_compare := ⟨_, _, KX 59 _ rfl, rfl, rfl, rfl, rfl, rfl, rfl, rfl, codeRec_of KX (by kernel_rfl), fun vs h => by match vs, h with | [_, _, _], _ => rfl⟩, d_addc := ⟨_, _, KX 73 _ rfl, rfl, rfl, rfl, rfl, rfl, rfl, rfl, codeRec_of KX (by kernel_rfl), fun vs h => by match vs, h with | [_, _], _ => rfl⟩, d_count := ⟨_, _, KX 80 _ rfl, rfl, rfl, rfl, rfl, rfl, rfl, rfl, codeRec_of KX (by kernel_rfl), fun vs h => by match vs, h with | [_], _ => rfl⟩, d_quote := ⟨_, _, KX 97 _ rfl, rfl, rfl, rfl, rfl, rfl, rfl, rfl, codeRec_of KX (by kernel_rfl), fun vs h => by match vs, h with | [_], _ => rfl⟩, d_fix := ⟨_, _, KX 104 _ rfl, rfl, rfl, rfl, rfl, rfl, rfl, rfl, codeRec_of KX (by kernel_rfl), fun vs h => by match vs, h with | [_], _ => rfl⟩, d_draw := ⟨_, _, KX 111 _ rfl, rfl, rfl, rfl, rfl, rfl, rfl, rfl, codeRec_of KX (by kernel_rfl), fun vs h => by match vs, h with | [_, _, _, _], _ => rfl⟩, d_columns := ⟨_, _, KX 116 _ rfl, rfl, rfl, rfl, rfl, rfl, rfl, rfl, codeRec_of KX (by kernel_rfl), fun vs h => by match vs, h with | [_, _], _ => rfl⟩, d_ways := ⟨_, _, KX 123 _ rfl, rfl, rfl, rfl, rfl, rfl, rfl, rfl, codeRec_of KX (by kernel_rfl), fun vs h => by match vs, h with | [_], _ => rfl⟩, d_boxes := ⟨_, _, KX 130 _ rfl, rfl, rfl, rfl, rfl, rfl, rfl, rfl, codeRec_of KX (by kernel_rfl), fun vs h => by match vs, h with | [_], _ => rfl⟩, d_nost := ⟨_, _, KX 137 _ rfl, rfl, rfl, rfl, rfl, rfl, rfl, rfl, codeRec_of KX (by kernel_rfl), fun vs h => by match vs, h with | [_, _], _ => rfl⟩, d_law := ⟨_, _, KX 142 _ rfl, rfl, rfl, rfl, rfl, rfl, rfl, rfl, codeRec_of KX (by kernel_rfl), fun vs h => by match vs, h with | [_], _ => rfl⟩, m_law := mg_of KX T.g (by kernel_rfl), pat1 := ⟨⟨_, _, _, _, _, _, KX 85 _ rfl⟩, _, _, KX 84 _ rfl, by kernel_rfl⟩, pat2 := ⟨⟨_, _, _, _, _, _, KX 90 _ rfl⟩, _, _, KX 89 _ rfl, by kernel_rfl⟩, cls := ⟨_, _, _, _, _, _, _, _, _, _, _, _, KX 62 _ rfl⟩, clsNs := hcn }
  clear G Y hD hcd hd ho KX KT T
  wrow_args hpre hlay hrd hwl hlo
  refine finish X hmg (by assumption) hg (fun _ => rfl) (by wrow_post) (LAW _ (by omega))
end Mine
end
theorem PySem.Challenge.cw_pg0083_01_holds : PySem.Challenge.rw_pg0083_01.Holds :=
  Mine.all_of Mine.LAW
